import JvmDerived
import JvmDerived.Pilot.@@N@@Statement
import JvmDerived.Pilot.@@N@@Code
set_option linter.unusedVariables false
set_option linter.unusedSimpArgs false
@@BLOCK:NumsL.lean.txt@@
namespace Jvm.RoadKit
open Sem ClassFile Op Lib Jvm.Stand Jvm.Free Jvm.LawKit
section New
variable {p : Program} {l : Launch} {e : Env} {R : Room} {s : State} {m : MethodId} {args : Array Value} {below : List Frame} {meth : Method} {c : Code} {T : State} {locs : List Loc} {cells slots : Nat}
theorem retI (X : Stand p l e R s m args below meth c T locs cells slots) (hx : p.tables.exec = Jvm.exec) {pc : Nat} {Ls : Array Slot} {z : Int32} {rest : List Value} (hret : meth.sig.returnType = some .int) (hd : decode c.code pc = .ok (.ireturn, 1)) {fs : List Frame}
    (hl : ∀ (f : JFrame) (acts : List Action), f.method = m → f.locked = none → f.entered = [] → (doReturn e (T.setTop f) acts (some (.int z))).1 = T.setFrames fs) : Steps p.tables e below (T.setTop (mkF m pc Ls (.int z :: rest))) (T.setFrames fs) := by
  have hm' : T.vm.method? m = some meth := X.method'
  have hn : narrow .int (.int z) = .int z := rfl
  show Steps p.tables e below (T.setTop { method := m, pc := pc, locals := Ls, stack := _ :: rest, locked := none }) _
  jvm_step X.here [X.here.top, hx, hd, hm', hret, hn]
  first | (intro acts; rw [hl _ acts rfl rfl rfl]) | rw [hl _ _ rfl rfl rfl]
  exact Steps.refl _
theorem retD (X : Stand p l e R s m args below meth c T locs cells slots) (hx : p.tables.exec = Jvm.exec) {pc : Nat} {Ls : Array Slot} {z : UInt64} {rest : List Value} (hret : meth.sig.returnType = some .double) (hd : decode c.code pc = .ok (.dreturn, 1)) {fs : List Frame}
    (hl : ∀ (f : JFrame) (acts : List Action), f.method = m → f.locked = none → f.entered = [] → (doReturn e (T.setTop f) acts (some (.double z))).1 = T.setFrames fs) : Steps p.tables e below (T.setTop (mkF m pc Ls (.double z :: rest))) (T.setFrames fs) := by
  have hm' : T.vm.method? m = some meth := X.method'
  show Steps p.tables e below (T.setTop { method := m, pc := pc, locals := Ls, stack := _ :: rest, locked := none }) _
  jvm_step X.here [X.here.top, hx, hd, hm', hret, narrow]
  first | (intro acts; rw [hl _ acts rfl rfl rfl]) | (refine ⟨meth, hm', ⟨_, hret, rfl⟩, fun acts => ?_⟩; rw [hl _ acts rfl rfl rfl])
  exact Steps.refl _
theorem retA (X : Stand p l e R s m args below meth c T locs cells slots) (hx : p.tables.exec = Jvm.exec) {pc : Nat} {Ls : Array Slot} {v : Value} {rest : List Value} {t : FieldType} (hret : meth.sig.returnType = some t) (ht : t.isReference = true) (hv : v.isRef = true) (hd : decode c.code pc = .ok (.areturn, 1)) {fs : List Frame}
    (hl : ∀ (f : JFrame) (acts : List Action), f.method = m → f.locked = none → f.entered = [] → (doReturn e (T.setTop f) acts (some v)).1 = T.setFrames fs) : Steps p.tables e below (T.setTop (mkF m pc Ls (v :: rest))) (T.setFrames fs) := by
  have hm' : T.vm.method? m = some meth := X.method'
  show Steps p.tables e below (T.setTop { method := m, pc := pc, locals := Ls, stack := _ :: rest, locked := none }) _
  jvm_step X.here [X.here.top, hx, hd, hm', hret, hv, ht]
  first | (intro acts; rw [hl _ acts rfl rfl rfl]) | (refine ⟨meth, hm', ⟨_, hret, rfl⟩, fun acts => ?_⟩; rw [hl _ acts rfl rfl rfl])
  exact Steps.refl _
theorem own_ref {v : Value} (h : v.isRef = true) : v = .null ∨ ∃ b, v = .ref b := by
  cases v <;> simp [Value.isRef] at h <;> simp
theorem own_narrow {v : Value} {C : String} (h : v.isRef = true) : narrow (.object C) v = v := by
  rcases own_ref h with rfl | ⟨b, rfl⟩ <;> rfl
theorem own_fits {v : Value} {C : String} (h : v.isRef = true) : fits (.object C) v = true := by
  rcases own_ref h with rfl | ⟨b, rfl⟩ <;> rfl
end New
end Jvm.RoadKit
namespace Jvm.RoadKit
open Sem ClassFile Op Lib Bundle Jvm.Stand Jvm.Free Jvm.LawKit Jvm.Free.SB Jvm.Free.SBG
theorem own_wsz {h h' : Heap} {a : Addr} {j : Nat} {v : Value} (W : Wr h h' a j v) : h'.size = h.size := by
  obtain ⟨c, -, -, -, rfl⟩ := W; simp
section OwnX
variable {p : Program} {l : Launch} {e : Env} {R : Room} {s : State} {args : Array Value} {below : List Frame} {Z : State} {a0 : Array Value} {EL : List (String × Nat)} {h : Heap} {vm0 : Vm}
/-- a callee that keeps the invariant and asks that some places be safe -/
theorem backOfSX {y : MethodName} {bytes : ByteArray} {maxL : Nat} {ret : Option FieldType} {rm : Room} {len W : Nat} {as' : Array Value} {Q : Option Value → Heap → List Loc → Prop} {xs : List Addr}
    (hM : MetFree l y (head1 [Cond.code y bytes maxL ret] rm) (fun a U => a = as' ∧ Z.Warmed39 U.vm ∧ U.heap = h ∧ CHv Z EL U.vm h ∧ ∀ x ∈ xs, Safe Z EL U.vm h x) (fun _ _ _ _ _ => True) (fun _ U o U' => ∃ v L, o = .returned v ∧ Q v U'.heap L ∧ CHr Z EL U.vm U.heap U'.vm U'.heap ∧ ReturnedEndW U o U' L rm.cells rm.slots))
    (hZ : Z.Warmed39 vm0) (wc : (Cond.code y bytes maxL ret).before a0 Z = true) (wz : (Cond.initialized y.cls).before a0 Z = true) (hf : rm.frames + 1 ≤ R.frames) (hl : W + (maxL + 11) + rm.locals ≤ R.locals) (hEL : EW Z a0 EL) (H : CHv Z EL vm0 h) (hxs : ∀ x ∈ xs, x < h.size ∧ Safe Z EL vm0 h x) :
    BackS l R p e below (s.setVm vm0) args y len W (fun A a => a = as' ∧ A.U.heap = h ∧ A.cells + rm.cells ≤ R.cells ∧ A.slots + rm.slots ≤ R.slots)
      (fun A _ v B => ∃ L, Q v B.U.heap L ∧ B.locs = A.locs ++ L ∧ B.cells = A.cells + rm.cells ∧ B.slots = A.slots + rm.slots ∧ CHr Z EL vm0 h B.U.vm B.U.heap) := by
  refine BackS.of_freeW (bytes := bytes) (maxL := maxL) (ret := ret) (E := fun _ first o t L k n => k = rm.cells ∧ n = rm.slots ∧ (∃ v, o = .returned v ∧ Q v t.heap L) ∧ CHr Z EL first.vm first.heap t.vm t.heap) hM hf hl ?_ ?_ ?_ ?_ ?_
  · intro m meth c A a Y hp
    have hU : Z.Warmed39 A.U.vm := wtrans (s := s.setVm vm0) hZ Y.warmed
    exact ⟨by show (Cond.and _ .tt).before a A.U = true; rw [Cond.before_and, mv hU wc]; rfl, mv hU wc, mv hU wz, hp.2.2.1, hp.2.2.2⟩
  · intro m meth c A a g mk Y hp
    have hA := CHv.at Y hZ hEL H
    exact ⟨hp.1, wtrans (s := s.setVm vm0) hZ Y.warmed, hp.2.1, hA.1, fun x hx => hA.safe (hxs x hx).1 (hxs x hx).2⟩
  · intros; trivial
  · rintro _ _ _ _ ⟨v, L, h1, h2, h3, h4⟩
    exact ⟨L, _, _, h4, rfl, rfl, ⟨v, h1, h2⟩, h3⟩
  · rintro m meth c A a g mk v t L k n Y hp _ _ ⟨e1, e2, ⟨v', e3, e4⟩, e5⟩
    cases e3; subst e1 e2
    refine ⟨L, e4, rfl, rfl, rfl, (CHv.at Y hZ hEL H).trans ?_⟩
    rw [← hp.2.1]; exact e5
end OwnX
end Jvm.RoadKit
namespace Jvm.RoadKit
open Sem ClassFile Op Lib Bundle Jvm.Stand Jvm.Free Jvm.LawKit
/-- the class of that name is there and no interface -/
def own_NI (Z : State) (C : String) : Prop := ∃ c k, Z.vm.findClass C = some c ∧ Z.vm.classes[c]? = some k ∧ k.isInterface = false
theorem own_NI_of {Z : State} {a0 : Array Value} {C : String} {y : MethodName} (w : (Cond.selects C y y).before a0 Z = true) : own_NI Z y.cls := by
  obtain ⟨c, r, m, -, -, q3, -, k, hk, hi⟩ := Cond.selects_spec w
  exact ⟨m.cls, k, findClass_of_methodNamed q3, hk, hi⟩
theorem own_selself {Z : State} {a0 : Array Value} {C : String} {y : MethodName} (w : (Cond.selects C y y).before a0 Z = true) (wp : (Cond.privateMethod y).before a0 Z = true) (wi : (Cond.instanceMethod y).before a0 Z = true) (hy : y.cls ≠ "java/lang/invoke/MethodHandle" ∧ y.cls ≠ "java/lang/invoke/VarHandle") : (Cond.selects y.cls y y).before a0 Z = true := by
  obtain ⟨c, k, h1, h2, h3⟩ := own_NI_of w
  exact Stand.selects_self_of_private h1 h2 h3 (Cond.privateMethod_at wp) wi hy
theorem own_same {Z : State} {a0 : Array Value} {y : MethodName} (wi : (Cond.instanceMethod y).before a0 Z = true) (n : own_NI Z y.cls ∧ (y.cls ≠ "java/lang/invoke/MethodHandle" ∧ y.cls ≠ "java/lang/invoke/VarHandle")) : (Cond.sameMethod y.cls y.cls y.name y.desc).before a0 Z = true := by
  obtain ⟨mk, methM, hnamed, hmethM, -, -⟩ := Cond.instanceMethod_spec wi
  have hfound := State.methodFound?_of_named hnamed n.2
  obtain ⟨c, k, h1, h2, h3⟩ := n.1
  simp [Cond.before, Cond.holds, Cond.value, h1, hfound, hnamed, h2, h3]
theorem own_nf {Z s : State} {y : MethodName} (hZ : Z.Warmed39 s.vm) (n : own_NI Z y.cls) : NotFace s y := fun r0 h0 => by
  obtain ⟨c, k, h1, h2, h3⟩ := n
  obtain ⟨k', q, e⟩ := hZ.alike.2.2 _ _ h2
  have hc := findClass_of_methodNamed h0
  rw [hZ.alike.findClass] at hc
  cases h1.symm.trans hc
  exact ⟨k', q, by rw [e]; exact h3⟩
end Jvm.RoadKit
namespace Jvm.RoadKit
open Sem ClassFile Op Lib Bundle Jvm.Stand Jvm.Free Jvm.LawKit
section OwnC
variable {p : Program} {l : Launch} {e : Env} {R : Room} {s : State} {m : MethodId} {args : Array Value} {below : List Frame} {meth : Method} {c : Code} {T : State} {locs : List Loc} {cells slots : Nat} {Z : State} {h : Heap} {a : Addr} {ty : FieldType}
theorem own_cloneV (X : Stand p l e R s m args below meth c T locs cells slots) (hx : p.tables.exec = Jvm.exec) (hZ : Z.Warmed39 s.vm) {a0 : Array Value} {own ad : String} {index : Nat} (hown : s.vm.findClass own = some m.cls)
    (w1 : (Cond.methodLink own index ⟨ad, "clone", "()Ljava/lang/Object;"⟩).before a0 Z = true) (w2 : (Cond.sameMethod ad "java/lang/Object" "clone" "()Ljava/lang/Object;").before a0 Z = true) (w3 : (Cond.native ⟨"java/lang/Object", "clone", "()Ljava/lang/Object;"⟩).before a0 Z = true)
    (w4 : (Cond.instanceMethod ⟨"java/lang/Object", "clone", "()Ljava/lang/Object;"⟩).before a0 Z = true) (w5 : (Cond.selects ad ⟨ad, "clone", "()Ljava/lang/Object;"⟩ ⟨"java/lang/Object", "clone", "()Ljava/lang/Object;"⟩).before a0 Z = true) (w6 : (Cond.castable ad "java/lang/Cloneable").before a0 Z = true)
    (eT : T.heap = h) {k : ClassId} {z : Int32} {vs : List Value} {dv : Value} (F : Arv Z h a k ty z vs dv) (E : Exa Z h a ad) {g : JFrame} (hg : g.method = m) (hsize : g.locals.size = c.maxLocals) {rest : List Value} (hst : g.stack = .ref a :: rest) (hd : decode c.code g.pc = .ok (.invokevirtual index, 3))
    (hf : 1 ≤ R.frames) {W cap : Nat} (hW : 2 * g.monitorRoom + (rest.map fun v => v.category).sum ≤ W) (hl : W + 14 ≤ R.locals) (hcap : z.toNatClampNeg ≤ cap) (hc : cells + 1 ≤ R.cells) (hsl : slots + cap ≤ R.slots) :
    ∃ T' h', Stand p l e R s m args below meth c T' locs (cells + 1) (slots + cap) ∧ T'.heap = h' ∧ Ext h h' ∧ Arv Z h' h.size k ty z vs dv ∧ Exa Z h' h.size ad ∧
      ∀ target, Steps p.tables e below (T'.setTop { g with pc := g.pc + 3, stack := .ref h.size :: rest }) target → Steps p.tables e below (T.setTop g) target := by
  obtain ⟨cl, A, q1, S, q3, H, G⟩ := F
  have FC : FitC Z cl := fitC_of A fun i hi v hv => by rw [H i hi] at hv; cases hv; exact G i hi
  obtain ⟨T', h', X', e', ex, A', E', st⟩ := cloneA X hx hZ hown w1 w2 w3 w4 w5 w6 eT A E FC hg hsize hst hd hf hW hl (by rw [S]; exact hcap) hc hsl
  exact ⟨T', h', X', e', ex, ⟨cloneOf cl, A', q1, S, q3, H, G⟩, E', st⟩
end OwnC
end Jvm.RoadKit
namespace Jvm.RoadKit
open Sem ClassFile Op Lib Bundle Jvm.Stand Jvm.Free Jvm.LawKit Jvm.Free.SB Jvm.Free.SBG
/-- a byte[] longer than every constant of EL is no constant's -/
theorem own_safeLen {Z : State} {a0 : Array Value} {EL : List (String × Nat)} {vm : Vm} {h : Heap} {t : Addr} {k : ClassId} {z : Int32} {vs : List Value} {d : Value} {N : Nat} (hZ : Z.Warmed39 vm) (w : ∀ p ∈ EL, ∃ text : String, (Cond.stringLink p.1 p.2 text).before a0 Z = true ∧ (∀ c ∈ text.toList, c.toNat < 256) ∧ text.toList.length < N)
    (E : Exa Z h t "[B") (A : Arv Z h t k .byte z vs d) (hz : z.toNatClampNeg = N) : Safe Z EL vm h t := fun B => by
  obtain ⟨p, hp, u, a, hb, q, -, F, hy⟩ := B
  obtain ⟨text, wl, ht, hl⟩ := w p hp
  obtain ⟨c, k', cf, i, hc, hk', hcf', hpool, hu, -⟩ := hb
  have wl' : (Cond.stringLink p.1 p.2 text).before a0 (Wst Z vm h) = true := mvS (s := { Z with heap := h }) hZ wl
  obtain ⟨k1, cf0, i0, units0, hk, hcf, hp0, hu0, -, htext, -⟩ := Cond.stringLink_spec (s := Wst Z vm h) hc wl'
  cases (show vm.classes[c]? = some k1 from hk).symm.trans hk'
  cases hcf.symm.trans hcf'
  cases hp0.symm.trans hpool
  cases hu0.symm.trans hu
  have hlat := Jvm.ClassFile.lat_of_text htext ht
  have hal := hZ.alike
  rcases hy with rfl | rfl
  · obtain ⟨cell, kk, e1, e2, e3, -, -⟩ := E
    cases (show h[q.sa]? = some q.sC from F.ha).symm.trans e1
    obtain ⟨cS, ⟨-, f, e⟩, -⟩ := F
    have f' : vm.findClass "java/lang/String" = some cS := f
    rw [hal.findClass] at f'
    obtain ⟨k1, q1, q2⟩ := Vm.findClass_spec f'
    obtain ⟨k2, q3, q4⟩ := Vm.findClass_spec e2
    subst e
    cases q1.symm.trans q3
    exact absurd (q2.symm.trans q4) (by decide)
  · obtain ⟨cl, ⟨A1, -⟩, -, S, -⟩ := A
    cases (show h[q.sd]? = some q.SA from F.hd).symm.trans A1
    obtain ⟨cS, -, -, -, hs⟩ := F
    rw [hs, hz] at S
    have hlen := congrArg List.length (Jvm.ClassFile.app_eq u.toList "" text (fun x hx => by simpa using (Array.all_eq_true_iff_forall_mem.mp hlat) x (Array.mem_toList_iff.mp hx)) htext)
    simp only [stringBytes, hlat, if_true, Array.size_map] at S
    simp at hlen
    rw [hlen] at hl
    omega
end Jvm.RoadKit
namespace Jvm.Pilot.@@N@@
namespace StrChars
open Jvm Sem ClassFile Op Lib Jvm.Stand Jvm.Free.XT Jvm.Free.ALB Jvm.Free.JM Jvm.Free
open Jvm.Lib.Cold (StaticIs)
/-- a char array whose places are chars -/
def Ch (a : Addr) (A : Cell) (U : State) : Prop := Arr .char a A U ∧ Typed .char A
theorem Ch.mv {a : Addr} {A : Cell} {U U' : State} (h : Ch a A U) (hal : U.vm.Alike U'.vm) (hh : U'.heap = U.heap) : Ch a A U' := ⟨h.1.mv hal hh, h.2⟩
theorem Ch.keep {a : Addr} {A : Cell} {U U' : State} (h : Ch a A U) (hal : U.vm.Alike U'.vm) (hk : U'.heap[a]? = some A) : Ch a A U' := ⟨h.1.keep hal hk, h.2⟩
/-- what place i of a char[]'s cell holds -/
def cv (A : Cell) (i : Nat) : Int32 := match A.slots[i]? with | some (.int x) => x | _ => 0
theorem Ch.get {a : Addr} {A : Cell} {U : State} (h : Ch a A U) {i : Nat} (hi : i < A.slots.size) : A.slots[i]? = some (.int (cv A i)) := by
  have e := Array.getElem?_eq_getElem hi
  have f := h.2 i _ e
  unfold cv; rw [e]
  generalize A.slots[i] = v at f
  cases v <;> simp [fits] at f ⊢
/-- the byte that i2b leaves of a char -/
def lo8 (x : Int32) : Int32 := x.toInt8.toInt32
theorem fits_lo8 (y : Int32) : fits .byte (.int (lo8 y)) = true := by
  have h1 := y.toInt8.le_toInt
  have h2 := y.toInt8.toInt_lt
  simp only [lo8, fits, Bool.and_eq_true, decide_eq_true_eq, Int32.le_iff_toInt_le, Int8.toInt_toInt32, show (-128 : Int32).toInt = -128 from by decide, show (127 : Int32).toInt = 127 from by decide]
  omega
/-- A' is A but that each place j of lo .. hi - 1 holds f j -/
def Laid (A A' : Cell) (lo hi : Nat) (f : Nat → Value) : Prop := A'.cls = A.cls ∧ A'.vm = A.vm ∧ A'.slots.size = A.slots.size ∧ ∀ i, A'.slots[i]? = if lo ≤ i ∧ i < hi then some (f i) else A.slots[i]?
theorem Laid.zero (A : Cell) (lo : Nat) (f : Nat → Value) : Laid A A lo (lo + 0) f := ⟨rfl, rfl, rfl, fun i => by rw [if_neg (by omega)]⟩
theorem Laid.step {A Ak : Cell} {lo k : Nat} {f : Nat → Value} {v : Value} (h : Laid A Ak lo k f) (hlo : lo ≤ k) (hk : k < Ak.slots.size) (hv : v = f k) : Laid A (Ak.setSlot k v) lo (k + 1) f := by
  refine ⟨h.1, h.2.1, by simpa [Cell.setSlot] using h.2.2.1, fun i => ?_⟩
  by_cases e : k = i
  · subst e; rw [Cell.slots_setSlot_self v hk, if_pos (by omega), hv]
  · rw [Cell.slots_setSlot_ne v e, h.2.2.2 i]
    by_cases q : lo ≤ i ∧ i < k
    · rw [if_pos q, if_pos (by omega)]
    · rw [if_neg q, if_neg (by omega)]
def U16 : String := "java/lang/StringUTF16"
namespace Cmp5
def yN : MethodName := ⟨"java/lang/StringUTF16", "compress", "([CI[BII)I"⟩
abbrev yB : ByteArray := jdk_52_method_21_code
theorem d0 : decode yB 0 = .ok (.iconst 0, 1) := by decide +kernel
theorem d1 : decode yB 1 = .ok (.istore 5, 2) := by decide +kernel
theorem d3 : decode yB 3 = .ok (.iload 5, 2) := by decide +kernel
theorem d5 : decode yB 5 = .ok (.iload 4, 2) := by decide +kernel
theorem d7 : decode yB 7 = .ok (.if_icmp (.ge) 37, 3) := by decide +kernel
theorem d10 : decode yB 10 = .ok (.aload_n 0, 1) := by decide +kernel
theorem d11 : decode yB 11 = .ok (.iload_n 1, 1) := by decide +kernel
theorem d12 : decode yB 12 = .ok (.caload, 1) := by decide +kernel
theorem d13 : decode yB 13 = .ok (.istore 6, 2) := by decide +kernel
theorem d15 : decode yB 15 = .ok (.iload 6, 2) := by decide +kernel
theorem d17 : decode yB 17 = .ok (.sipush 255, 3) := by decide +kernel
theorem d20 : decode yB 20 = .ok (.if_icmp (.le) 6, 3) := by decide +kernel
theorem d26 : decode yB 26 = .ok (.aload_n 2, 1) := by decide +kernel
theorem d27 : decode yB 27 = .ok (.iload_n 3, 1) := by decide +kernel
theorem d28 : decode yB 28 = .ok (.iload 6, 2) := by decide +kernel
theorem d30 : decode yB 30 = .ok (.i2b, 1) := by decide +kernel
theorem d31 : decode yB 31 = .ok (.bastore, 1) := by decide +kernel
theorem d32 : decode yB 32 = .ok (.iinc 1 1, 3) := by decide +kernel
theorem d35 : decode yB 35 = .ok (.iinc 3 1, 3) := by decide +kernel
theorem d38 : decode yB 38 = .ok (.iinc 5 1, 3) := by decide +kernel
theorem d41 : decode yB 41 = .ok (.goto (-38), 3) := by decide +kernel
theorem d44 : decode yB 44 = .ok (.iload 4, 2) := by decide +kernel
theorem d46 : decode yB 46 = .ok (.ireturn, 1) := by decide +kernel
def site : List Cond := []
def tab : Cond := tabOf yN yB 7 (some .int) site
def P (b : Addr) (A : Cell) (d : Addr) (B : Cell) (o q len : Nat) (args : Array Value) (s : State) : Prop := args = #[.ref b, .int (Int32.ofNat o), .ref d, .int (Int32.ofNat q), .int (Int32.ofNat len)] ∧ Ch b A s ∧ Arr .byte d B s ∧ b ≠ d ∧ o + len ≤ A.slots.size ∧ q + len ≤ B.slots.size ∧ ∀ i, i < len → ¬ 255 < cv A (o + i)
def E (b : Addr) (A : Cell) (d : Addr) (B : Cell) (o q len : Nat) (r : Option Value) (s u : State) : Prop := r = some (.int (Int32.ofNat len)) ∧ ∃ B', Put d B' s u ∧ Laid B B' q (q + len) (fun j => Value.int (lo8 (cv A (o + (j - q)))))
/-- no char of the range above 255: len; the places written hold each char's low byte -/
theorem law (l : Launch) (b : Addr) (A : Cell) (d : Addr) (B : Cell) (o q len : Nat) : Law l yN 5 5 0 0 yB 7 (some .int) site (P b A d B o q len) (E b A d B o q len) (copyLocs d q len) 0 0 := by
  refine Law.of_walk (plainFor_of_name (by decide +kernel)) (by decide +kernel) (by decide +kernel) (by decide) (fun _ _ h => by rw [h.1]; rfl) (fun _ U U' hal hh h => ⟨h.1, h.2.1.mv hal hh, h.2.2.1.mv hal hh, h.2.2.2⟩) (fun r U U' V V' h1 hal h2 h => ⟨h.1, h.2.elim fun B' q => ⟨B', q.1.mv h1 h2, q.2⟩⟩) ?_
  intro p e s m args below meth c s₁ X0 hexec hbytes hml hret hlk hnm hown hh0 W hP
  obtain ⟨rfl, hA, hB, hne, l1, l2, hp⟩ := hP
  have c1 : Steps p.tables e below (s₁.setTop (entryFrame m #[.ref b, .int (Int32.ofNat o), .ref d, .int (Int32.ofNat q), .int (Int32.ofNat len)] 7)) (s₁.setTop (mkF m 0 #[.val (.ref b), .val (.int (Int32.ofNat o)), .val (.ref d), .val (.int (Int32.ofNat q)), .val (.int (Int32.ofNat len)), .unset, .unset] [])) := entry rfl
  have hA0 := hA.1.mv X0.warmed.alike hh0
  have hB0 := hB.mv X0.warmed.alike hh0
  have a31 := hA.1.2.2.2
  have c2 : Steps p.tables e below (s₁.setTop (entryFrame m #[.ref b, .int (Int32.ofNat o), .ref d, .int (Int32.ofNat q), .int (Int32.ofNat len)] 7)) (s₁.setTop (mkF m 3 #[.val (.ref b), .val (.int (Int32.ofNat o)), .val (.ref d), .val (.int (Int32.ofNat q)), .val (.int (Int32.ofNat len)), .val (.int 0), .unset] [])) := c1.trans (by
    refine iconstV X0.here hexec rfl 0 (hb hbytes d0) (by decide) ?_
    refine XS.istore X0.here hexec rfl (hb hbytes d1) rfl rfl ?_
    exact Steps.refl _)
  have loop : ∀ (r i : Nat), i + r = len → ∀ (z : Slot), (z = .unset ∨ ∃ w, z = .val w ∧ w.category = 1) → ∀ (Tl : State) (Bk : Cell), Stand p l e { frames := 0, locals := 0, cells := 0, slots := 0 } s m #[.ref b, .int (Int32.ofNat o), .ref d, .int (Int32.ofNat q), .int (Int32.ofNat len)] below meth c Tl ([] ++ copyLocs d q i) 0 0 → Put d Bk s₁ Tl → Laid B Bk q (q + i) (fun j => Value.int (lo8 (cv A (o + (j - q))))) →
      Steps p.tables e below (s₁.setTop (entryFrame m #[.ref b, .int (Int32.ofNat o), .ref d, .int (Int32.ofNat q), .int (Int32.ofNat len)] 7)) (Tl.setTop (mkF m 3 #[.val (.ref b), .val (.int (Int32.ofNat (o + i))), .val (.ref d), .val (.int (Int32.ofNat (q + i))), .val (.int (Int32.ofNat len)), .val (.int (Int32.ofNat i)), z] [])) → ∃ (T' : State) (B' : Cell) (z' : Slot), Stand p l e { frames := 0, locals := 0, cells := 0, slots := 0 } s m #[.ref b, .int (Int32.ofNat o), .ref d, .int (Int32.ofNat q), .int (Int32.ofNat len)] below meth c T' ([] ++ copyLocs d q len) 0 0 ∧ Put d B' s₁ T' ∧ Laid B B' q (q + len) (fun j => Value.int (lo8 (cv A (o + (j - q))))) ∧
      Steps p.tables e below (s₁.setTop (entryFrame m #[.ref b, .int (Int32.ofNat o), .ref d, .int (Int32.ofNat q), .int (Int32.ofNat len)] 7)) (T'.setTop (mkF m 3 #[.val (.ref b), .val (.int (Int32.ofNat (o + len))), .val (.ref d), .val (.int (Int32.ofNat (q + len))), .val (.int (Int32.ofNat len)), .val (.int (Int32.ofNat len)), z'] [])) := by
    intro r
    induction r with
    | zero =>
      intro i hi z hz Tl Bk Xl pl fl cl
      have hil : i = len := by omega
      rw [hil] at Xl fl cl
      exact ⟨Tl, Bk, z, Xl, pl, fl, cl⟩
    | succ r ih =>
      intro i hi z hz Tl Bk Xl pl fl cl
      have all := X0.warmed.alike.symm.trans Xl.warmed.alike
      have hAl := hA0.keep all (pl.other hne hA0.1)
      have hBk := hB0.like all pl.1 fl.1 fl.2.1 fl.2.2.1
      have hlt : q + i < Bk.slots.size := by rw [fl.2.2.1]; omega
      have c3 : Steps p.tables e below (s₁.setTop (entryFrame m #[.ref b, .int (Int32.ofNat o), .ref d, .int (Int32.ofNat q), .int (Int32.ofNat len)] 7)) (Tl.setTop (mkF m 12 #[.val (.ref b), .val (.int (Int32.ofNat (o + i))), .val (.ref d), .val (.int (Int32.ofNat (q + i))), .val (.int (Int32.ofNat len)), .val (.int (Int32.ofNat i)), z] [.int (Int32.ofNat (o + i)), .ref b])) := cl.trans (by
        refine XS.iload Xl.here hexec rfl (hb hbytes d3) rfl ?_
        refine XS.iload Xl.here hexec rfl (hb hbytes d5) rfl ?_
        refine XS.icmpNo Xl.here hexec rfl (hb hbytes d7) rfl (ii_ge_f (lt32 (by omega) (by omega))) ?_
        refine XS.aloadN Xl.here hexec rfl (hb hbytes d10) rfl rfl ?_
        refine XS.iloadN Xl.here hexec rfl (hb hbytes d11) rfl ?_
        exact Steps.refl _)
      have c4 : Steps p.tables e below (s₁.setTop (entryFrame m #[.ref b, .int (Int32.ofNat o), .ref d, .int (Int32.ofNat q), .int (Int32.ofNat len)] 7)) (Tl.setTop (mkF m 13 #[.val (.ref b), .val (.int (Int32.ofNat (o + i))), .val (.ref d), .val (.int (Int32.ofNat (q + i))), .val (.int (Int32.ofNat len)), .val (.int (Int32.ofNat i)), z] [.int (cv A (o + i))])) := c3.trans (by
        refine Xl.aget hexec hAl rfl (hA.get (i := o + i) (by omega)) rfl rfl (hb hbytes d12) ?_
        exact Steps.refl _)
      have c5 : Steps p.tables e below (s₁.setTop (entryFrame m #[.ref b, .int (Int32.ofNat o), .ref d, .int (Int32.ofNat q), .int (Int32.ofNat len)] 7)) (Tl.setTop (mkF m 15 #[.val (.ref b), .val (.int (Int32.ofNat (o + i))), .val (.ref d), .val (.int (Int32.ofNat (q + i))), .val (.int (Int32.ofNat len)), .val (.int (Int32.ofNat i)), .val (.int (cv A (o + i)))] [])) := c4.trans (by
        refine XS.istoreS Xl.here hexec rfl (hb hbytes d13) rfl rfl hz ?_
        exact Steps.refl _)
      have c6 : Steps p.tables e below (s₁.setTop (entryFrame m #[.ref b, .int (Int32.ofNat o), .ref d, .int (Int32.ofNat q), .int (Int32.ofNat len)] 7)) (Tl.setTop (mkF m 31 #[.val (.ref b), .val (.int (Int32.ofNat (o + i))), .val (.ref d), .val (.int (Int32.ofNat (q + i))), .val (.int (Int32.ofNat len)), .val (.int (Int32.ofNat i)), .val (.int (cv A (o + i)))] [.int (lo8 (cv A (o + i))), .int (Int32.ofNat (q + i)), .ref d])) := c5.trans (by
        refine XS.iload Xl.here hexec rfl (hb hbytes d15) rfl ?_
        refine sipushV Xl.here hexec rfl 255 (hb hbytes d17) (by decide) ?_
        refine XS.icmpYes Xl.here hexec rfl (pc0 := 20) rfl (hb hbytes d20) rfl (ii_le_t (hp i (by omega))) (by decide) rfl ?_
        refine XS.aloadN Xl.here hexec rfl (hb hbytes d26) rfl rfl ?_
        refine XS.iloadN Xl.here hexec rfl (hb hbytes d27) rfl ?_
        refine XS.iload Xl.here hexec rfl (hb hbytes d28) rfl ?_
        refine i2b Xl.here hexec rfl (hb hbytes d30) rfl ?_
        exact Steps.refl _)
      obtain ⟨T7, X7, p7, st7⟩ := Xl.aput hexec hBk rfl hlt rfl (fits_lo8 (cv A (o + i))) (g := (mkF m 31 #[.val (.ref b), .val (.int (Int32.ofNat (o + i))), .val (.ref d), .val (.int (Int32.ofNat (q + i))), .val (.int (Int32.ofNat len)), .val (.int (Int32.ofNat i)), .val (.int (cv A (o + i)))] [.int (lo8 (cv A (o + i))), .int (Int32.ofNat (q + i)), .ref d])) rfl (rest := []) rfl (hb hbytes d31)
      have c8 : Steps p.tables e below (s₁.setTop (entryFrame m #[.ref b, .int (Int32.ofNat o), .ref d, .int (Int32.ofNat q), .int (Int32.ofNat len)] 7)) (T7.setTop (mkF m 32 #[.val (.ref b), .val (.int (Int32.ofNat (o + i))), .val (.ref d), .val (.int (Int32.ofNat (q + i))), .val (.int (Int32.ofNat len)), .val (.int (Int32.ofNat i)), .val (.int (cv A (o + i)))] [])) := c6.trans (st7 _ (Steps.refl _))
      have c9 : Steps p.tables e below (s₁.setTop (entryFrame m #[.ref b, .int (Int32.ofNat o), .ref d, .int (Int32.ofNat q), .int (Int32.ofNat len)] 7)) (T7.setTop (mkF m 3 #[.val (.ref b), .val (.int (Int32.ofNat (o + i) + 1)), .val (.ref d), .val (.int (Int32.ofNat (q + i) + 1)), .val (.int (Int32.ofNat len)), .val (.int (Int32.ofNat i + 1)), .val (.int (cv A (o + i)))] [])) := c8.trans (by
        refine iincV X7.here hexec rfl 1 (hb hbytes d32) (by decide) rfl rfl ?_
        refine iincV X7.here hexec rfl 1 (hb hbytes d35) (by decide) rfl rfl ?_
        refine iincV X7.here hexec rfl 1 (hb hbytes d38) (by decide) rfl rfl ?_
        refine XS.goto X7.here hexec rfl (pc0 := 41) rfl (hb hbytes d41) (by decide) rfl ?_
        exact Steps.refl _)
      have c10 : Steps p.tables e below (s₁.setTop (entryFrame m #[.ref b, .int (Int32.ofNat o), .ref d, .int (Int32.ofNat q), .int (Int32.ofNat len)] 7)) (T7.setTop (mkF m 3 #[.val (.ref b), .val (.int (Int32.ofNat (o + (i + 1)))), .val (.ref d), .val (.int (Int32.ofNat (q + (i + 1)))), .val (.int (Int32.ofNat len)), .val (.int (Int32.ofNat (i + 1))), .val (.int (cv A (o + i)))] [])) := by
        have := c9
        rw [succ32, succ32, succ32] at this
        exact this
      exact ih (i + 1) (by omega) _ (Or.inr ⟨_, rfl, rfl⟩) T7 _ (by rw [copyLocs_step, ← List.append_assoc]; exact X7) (pl.trans p7) (fl.step (by omega) hlt (by simp)) c10
  obtain ⟨T9, B9, z9, X9, p9, f9, g9⟩ := loop len 0 (by omega) .unset (Or.inl rfl) s₁ B (by simpa [copyLocs] using X0) ⟨hB0.1, fun _ _ => rfl, rfl⟩ (Laid.zero _ _ _) c2
  have c11 : Steps p.tables e below (s₁.setTop (entryFrame m #[.ref b, .int (Int32.ofNat o), .ref d, .int (Int32.ofNat q), .int (Int32.ofNat len)] 7)) (T9.setTop (mkF m 46 #[.val (.ref b), .val (.int (Int32.ofNat (o + len))), .val (.ref d), .val (.int (Int32.ofNat (q + len))), .val (.int (Int32.ofNat len)), .val (.int (Int32.ofNat len)), z9] [.int (Int32.ofNat len)])) := g9.trans (by
    refine XS.iload X9.here hexec rfl (hb hbytes d3) rfl ?_
    refine XS.iload X9.here hexec rfl (hb hbytes d5) rfl ?_
    refine XS.icmpYes X9.here hexec rfl (pc0 := 7) rfl (hb hbytes d7) rfl (ii_ge_t (nlt32 (by omega) (Nat.le_refl _))) (by decide) rfl ?_
    refine XS.iload X9.here hexec rfl (hb hbytes d44) rfl ?_
    exact Steps.refl _)
  exact ⟨T9, some (.int (Int32.ofNat len)), _, _, _, X9, by simp, rfl, rfl, (fun h => by cases h), ⟨rfl, B9, p9.from hh0, f9⟩, fun fs hl => c11.trans (X9.ireturnOut hexec hret rfl (Or.inl rfl) (hb hbytes d46) hl)⟩
end Cmp5
namespace Cmp3
def yN : MethodName := ⟨"java/lang/StringUTF16", "compress", "([CII)[B"⟩
abbrev yB : ByteArray := jdk_52_method_16_code
theorem d0 : decode yB 0 = .ok (.iload_n 2, 1) := by decide +kernel
theorem d1 : decode yB 1 = .ok (.newarray .byte, 2) := by decide +kernel
theorem d3 : decode yB 3 = .ok (.astore_n 3, 1) := by decide +kernel
theorem d4 : decode yB 4 = .ok (.aload_n 0, 1) := by decide +kernel
theorem d5 : decode yB 5 = .ok (.iload_n 1, 1) := by decide +kernel
theorem d6 : decode yB 6 = .ok (.aload_n 3, 1) := by decide +kernel
theorem d7 : decode yB 7 = .ok (.iconst 0, 1) := by decide +kernel
theorem d8 : decode yB 8 = .ok (.iload_n 2, 1) := by decide +kernel
theorem d9 : decode yB 9 = .ok (.invokestatic 115, 3) := by decide +kernel
theorem d12 : decode yB 12 = .ok (.istore 4, 2) := by decide +kernel
theorem d14 : decode yB 14 = .ok (.iload 4, 2) := by decide +kernel
theorem d16 : decode yB 16 = .ok (.iload_n 2, 1) := by decide +kernel
theorem d17 : decode yB 17 = .ok (.if_icmp (.eq) 40, 3) := by decide +kernel
theorem d57 : decode yB 57 = .ok (.aload_n 3, 1) := by decide +kernel
theorem d58 : decode yB 58 = .ok (.areturn, 1) := by decide +kernel
def site : List Cond := [.arrayClass .byte, Cmp5.tab] ++ staticW U16 115 Cmp5.yN
def tab : Cond := tabOf yN yB 6 (some (.array .byte)) site
def P (b : Addr) (A : Cell) (o len : Nat) (args : Array Value) (s : State) : Prop := args = #[.ref b, .int (Int32.ofNat o), .int (Int32.ofNat len)] ∧ Ch b A s ∧ o + len ≤ A.slots.size ∧ len ≤ 536870912 ∧ ∀ i, i < len → ¬ 255 < cv A (o + i)
def E (b : Addr) (A : Cell) (o len : Nat) (r : Option Value) (s u : State) : Prop := NewArr .byte "[B" len (fun j => .int (lo8 (cv A (o + j)))) r s u ∧ u.heap.size = s.heap.size + 1
/-- no char of the range above 255: a new byte[] of their low bytes -/
theorem law (l : Launch) (b : Addr) (A : Cell) (o len : Nat) : Law l yN 3 3 1 18 yB 6 (some (.array .byte)) site (P b A o len) (E b A o len) [] 1 len := by
  refine Law.of_walk (plainFor_of_name (by decide +kernel)) (by decide +kernel) (by decide +kernel) (by decide) (fun _ _ h => by rw [h.1]; rfl) (fun _ U U' hal hh h => ⟨h.1, h.2.1.mv hal hh, h.2.2⟩) (fun r U U' V V' h1 hal h2 h => ⟨NewArr.mv r U U' V V' h1 hal h2 h.1, by rw [h1, h2]; exact h.2⟩) ?_
  intro p e s m args below meth c s₁ X0 hexec hbytes hml hret hlk hnm hown hh0 W hP
  obtain ⟨rfl, hA, l1, l2, hp⟩ := hP
  have a31 := hA.1.2.2.2
  have c1 : Steps p.tables e below (s₁.setTop (entryFrame m #[.ref b, .int (Int32.ofNat o), .int (Int32.ofNat len)] 6)) (s₁.setTop (mkF m 0 #[.val (.ref b), .val (.int (Int32.ofNat o)), .val (.int (Int32.ofNat len)), .unset, .unset, .unset] [])) := entry rfl
  have c2 : Steps p.tables e below (s₁.setTop (entryFrame m #[.ref b, .int (Int32.ofNat o), .int (Int32.ofNat len)] 6)) (s₁.setTop (mkF m 1 #[.val (.ref b), .val (.int (Int32.ofNat o)), .val (.int (Int32.ofNat len)), .unset, .unset, .unset] [.int (Int32.ofNat len)])) := c1.trans (by
    refine XS.iloadN X0.here hexec rfl (hb hbytes d0) rfl ?_
    exact Steps.refl _)
  obtain ⟨T3, B3, X3, ba3, bs3, bv3, bh3, bf3, st3⟩ := X0.anew hexec (atype := .byte) (wk W (.arrayClass .byte)) rfl (by show len * 1 ≤ _; omega) (by omega) (g := (mkF m 1 #[.val (.ref b), .val (.int (Int32.ofNat o)), .val (.int (Int32.ofNat len)), .unset, .unset, .unset] [.int (Int32.ofNat len)])) rfl (hb hbytes d1) (rest := []) rfl (Nat.le_refl _) (by show 0 + len ≤ len; omega)
  rw [hh0] at ba3 st3
  have kp3 : XT.Kept s T3 := (XT.Kept.of_eq hh0).push bh3
  have hA3 := hA.keep X3.warmed.alike (kp3 _ _ hA.1.1)
  have hne : b ≠ s.heap.size := hA.1.ne
  have c4 : Steps p.tables e below (s₁.setTop (entryFrame m #[.ref b, .int (Int32.ofNat o), .int (Int32.ofNat len)] 6)) (T3.setTop (mkF m 3 #[.val (.ref b), .val (.int (Int32.ofNat o)), .val (.int (Int32.ofNat len)), .unset, .unset, .unset] [.ref s.heap.size])) := c2.trans (st3 _ (Steps.refl _))
  have c5 : Steps p.tables e below (s₁.setTop (entryFrame m #[.ref b, .int (Int32.ofNat o), .int (Int32.ofNat len)] 6)) (T3.setTop (mkF m 9 #[.val (.ref b), .val (.int (Int32.ofNat o)), .val (.int (Int32.ofNat len)), .val (.ref s.heap.size), .unset, .unset] [.int (Int32.ofNat len), .int 0, .ref s.heap.size, .int (Int32.ofNat o), .ref b])) := c4.trans (by
    refine XS.astoreN X3.here hexec rfl (hb hbytes d3) rfl rfl rfl ?_
    refine XS.aloadN X3.here hexec rfl (hb hbytes d4) rfl rfl ?_
    refine XS.iloadN X3.here hexec rfl (hb hbytes d5) rfl ?_
    refine XS.aloadN X3.here hexec rfl (hb hbytes d6) rfl rfl ?_
    refine iconstV X3.here hexec rfl 0 (hb hbytes d7) (by decide) ?_
    refine XS.iloadN X3.here hexec rfl (hb hbytes d8) rfl ?_
    exact Steps.refl _)
  obtain ⟨v6, T6, X6, E6, g6⟩ := X3.callS hexec (Cmp5.law l b A s.heap.size B3 o 0 len) hown (wks W (staticW U16 115 Cmp5.yN)) (wk W Cmp5.tab) (W := 0) (Nat.le_of_ble_eq_true rfl) (Nat.le_of_ble_eq_true rfl) (Nat.le_refl _) (by show 0 + len + 0 ≤ len; omega) (g := (mkF m 9 #[.val (.ref b), .val (.int (Int32.ofNat o)), .val (.int (Int32.ofNat len)), .val (.ref s.heap.size), .unset, .unset] [.int (Int32.ofNat len), .int (Int32.ofNat 0), .ref s.heap.size, .int (Int32.ofNat o), .ref b])) rfl (by rw [hml]; rfl) c5 (argsL := [.ref b, .int (Int32.ofNat o), .ref s.heap.size, .int (Int32.ofNat 0), .int (Int32.ofNat len)]) (rest := []) rfl rfl (by show 2 * 0 + 0 ≤ _; decide) (hb hbytes d9) (⟨rfl, hA3, ba3, hne, l1, by rw [bs3]; simp, hp⟩)
  obtain ⟨rfl, B6, p6, f6⟩ := E6
  have c7 : Steps p.tables e below (s₁.setTop (entryFrame m #[.ref b, .int (Int32.ofNat o), .int (Int32.ofNat len)] 6)) (T6.setTop (mkF m 12 #[.val (.ref b), .val (.int (Int32.ofNat o)), .val (.int (Int32.ofNat len)), .val (.ref s.heap.size), .unset, .unset] [.int (Int32.ofNat len)])) := g6
  have c8 : Steps p.tables e below (s₁.setTop (entryFrame m #[.ref b, .int (Int32.ofNat o), .int (Int32.ofNat len)] 6)) (T6.setTop (mkF m 58 #[.val (.ref b), .val (.int (Int32.ofNat o)), .val (.int (Int32.ofNat len)), .val (.ref s.heap.size), .val (.int (Int32.ofNat len)), .unset] [.ref s.heap.size])) := c7.trans (by
    refine XS.istore X6.here hexec rfl (hb hbytes d12) rfl rfl ?_
    refine XS.iload X6.here hexec rfl (hb hbytes d14) rfl ?_
    refine XS.iloadN X6.here hexec rfl (hb hbytes d16) rfl ?_
    refine XS.icmpYes X6.here hexec rfl (pc0 := 17) rfl (hb hbytes d17) rfl (ii_eq_t rfl) (by decide) rfl ?_
    refine XS.aloadN X6.here hexec rfl (hb hbytes d57) rfl rfl ?_
    exact Steps.refl _)
  have X8 := X6.wide (L' := []) (cells' := 1) (slots' := len) (fun x hx hlt => by
    simp only [List.nil_append, copyLocs, List.mem_map, List.mem_range] at hx
    obtain ⟨i, -, rfl⟩ := hx
    exact absurd hlt (Nat.lt_irrefl _)) (Nat.le_refl _) (by omega)
  exact ⟨T6, some (.ref s.heap.size), _, _, _, X8, rfl, rfl, rfl, (fun h => by cases h), ⟨⟨rfl, B6, ba3.like (X3.warmed.alike.symm.trans X6.warmed.alike) p6.1 f6.1 f6.2.1 f6.2.2.1, f6.2.1.trans bv3, by rw [X6.warmed.alike.findClass, f6.1]; exact bf3, by rw [f6.2.2.1, bs3]; simp, fun j hj => by rw [f6.2.2.2 j, if_pos (by omega)]; rfl, kp3.put p6 (Nat.le_refl _)⟩, by rw [p6.2.2, bh3, hh0]; simp⟩, fun fs hl => c8.trans (X8.areturnOut hexec rfl hret rfl (hb hbytes d58) hl)⟩
end Cmp3
namespace CodL
def yN : MethodName := ⟨"java/lang/StringUTF16", "coderFromArrayLen", "([BI)B"⟩
abbrev yB : ByteArray := jdk_52_method_15_code
theorem d0 : decode yB 0 = .ok (.iload_n 1, 1) := by decide +kernel
theorem d1 : decode yB 1 = .ok (.aload_n 0, 1) := by decide +kernel
theorem d2 : decode yB 2 = .ok (.arraylength, 1) := by decide +kernel
theorem d3 : decode yB 3 = .ok (.isub, 1) := by decide +kernel
theorem d4 : decode yB 4 = .ok (.bipush 31, 2) := by decide +kernel
theorem d6 : decode yB 6 = .ok (.iushr, 1) := by decide +kernel
theorem d7 : decode yB 7 = .ok (.i2b, 1) := by decide +kernel
theorem d8 : decode yB 8 = .ok (.ireturn, 1) := by decide +kernel
def site : List Cond := []
def tab : Cond := tabOf yN yB 2 (some .byte) site
def P (d : Addr) (B : Cell) (args : Array Value) (s : State) : Prop := args = #[.ref d, .int (Int32.ofNat B.slots.size)] ∧ Arr .byte d B s
def E (r : Option Value) (s u : State) : Prop := XT.PureE (some (.int 0)) r s u
/-- an array as long as the number of chars: LATIN1 -/
theorem law (l : Launch) (d : Addr) (B : Cell) : Law l yN 2 2 0 0 yB 2 (some .byte) site (P d B) E [] 0 0 := by
  refine Law.of_walk (plainFor_of_name (by decide +kernel)) (by decide +kernel) (by decide +kernel) (by decide) (fun _ _ h => by rw [h.1]; rfl) (fun _ U U' hal hh h => ⟨h.1, h.2.mv hal hh⟩) (fun r U U' V V' h1 hal h2 h => XT.PureE.mv r U U' V V' h1 hal h2 h) ?_
  intro p e s m args below meth c s₁ X0 hexec hbytes hml hret hlk hnm hown hh0 W hP
  obtain ⟨rfl, hB⟩ := hP
  have hB0 := hB.mv X0.warmed.alike hh0
  have c1 : Steps p.tables e below (s₁.setTop (entryFrame m #[.ref d, .int (Int32.ofNat B.slots.size)] 2)) (s₁.setTop (mkF m 0 #[.val (.ref d), .val (.int (Int32.ofNat B.slots.size))] [])) := entry rfl
  have c2 : Steps p.tables e below (s₁.setTop (entryFrame m #[.ref d, .int (Int32.ofNat B.slots.size)] 2)) (s₁.setTop (mkF m 2 #[.val (.ref d), .val (.int (Int32.ofNat B.slots.size))] [.ref d, .int (Int32.ofNat B.slots.size)])) := c1.trans (by
    refine XS.iloadN X0.here hexec rfl (hb hbytes d0) rfl ?_
    refine XS.aloadN X0.here hexec rfl (hb hbytes d1) rfl rfl ?_
    exact Steps.refl _)
  have c3 : Steps p.tables e below (s₁.setTop (entryFrame m #[.ref d, .int (Int32.ofNat B.slots.size)] 2)) (s₁.setTop (mkF m 8 #[.val (.ref d), .val (.int (Int32.ofNat B.slots.size))] [.int (lo8 (ushr (Int32.ofNat B.slots.size - Int32.ofNat B.slots.size) 31))])) := c2.trans (by
    refine X0.alen hexec hB0 rfl rfl (hb hbytes d2) ?_
    refine XS.isub X0.here hexec rfl (hb hbytes d3) rfl ?_
    refine bipushV X0.here hexec rfl 31 (hb hbytes d4) (by decide) ?_
    refine iushr X0.here hexec rfl (hb hbytes d6) rfl ?_
    refine i2b X0.here hexec rfl (hb hbytes d7) rfl ?_
    exact Steps.refl _)
  have e0 : lo8 (ushr (Int32.ofNat B.slots.size - Int32.ofNat B.slots.size) 31) = 0 := by rw [Int32.sub_self]; decide
  rw [e0] at c3
  exact ⟨s₁, some (.int 0), _, _, _, X0, rfl, rfl, rfl, (fun h => by cases h), ⟨rfl, hh0⟩, fun fs hl => c3.trans (X0.ireturnOut hexec hret rfl (Or.inr (Or.inr (Or.inl rfl))) (hb hbytes d8) hl)⟩
end CodL
/-- the String at a is Latin-1 over a new byte[] (the heap's one new cell): the low bytes of the len chars of A from o on; every cell but a is kept -/
def Got (a : Addr) (D : Cell) (fV fC : Field) (A : Cell) (o len : Nat) (r : Option Value) (s u : State) : Prop := r = none ∧ ∃ D' V : Cell, Blank "java/lang/String" a D' u ∧ Same D D' [fV.slot, fC.slot] ∧ D'.slots[fV.slot]? = some (.ref s.heap.size) ∧ D'.slots[fC.slot]? = some (.int 0) ∧ Arr .byte s.heap.size V u ∧ V.vm = .none ∧ u.vm.findClass "[B" = some V.cls ∧ V.slots.size = len ∧ (∀ j, j < len → V.slots[j]? = some (.int (lo8 (cv A (o + j))))) ∧ (∀ (y : Addr) (c : Cell), y ≠ a → s.heap[y]? = some c → u.heap[y]? = some c) ∧ u.heap.size = s.heap.size + 1
theorem Got.mv {a : Addr} {D A : Cell} {fV fC : Field} {o len : Nat} : ∀ r (U U' V V' : State), U'.heap = U.heap → V.vm.Alike V'.vm → V'.heap = V.heap → Got a D fV fC A o len r U V → Got a D fV fC A o len r U' V' :=
  fun r U U' V V' h1 hal h2 ⟨e0, D', X, a1, a2, a3, a4, a5, a6, a7, a8, a9, a10, a11⟩ => ⟨e0, D', X, a1.mv hal h2, a2, by rw [h1]; exact a3, a4, by rw [h1]; exact a5.mv hal h2, a6, by rw [hal.findClass]; exact a7, a8, a9, by rw [h1, h2]; exact a10, by rw [h1, h2]; exact a11⟩
namespace New4
def yN : MethodName := ⟨"java/lang/String", "<init>", "([CIILjava/lang/Void;)V"⟩
abbrev yB : ByteArray := jdk_42_method_149_code
theorem d0 : decode yB 0 = .ok (.aload_n 0, 1) := by decide +kernel
theorem d1 : decode yB 1 = .ok (.invokespecial 1, 3) := by decide +kernel
theorem d4 : decode yB 4 = .ok (.iload_n 3, 1) := by decide +kernel
theorem d5 : decode yB 5 = .ok (.ifCond (.ne) 22, 3) := by decide +kernel
theorem d27 : decode yB 27 = .ok (.getstatic 38, 3) := by decide +kernel
theorem d30 : decode yB 30 = .ok (.ifCond (.eq) 28, 3) := by decide +kernel
theorem d33 : decode yB 33 = .ok (.aload_n 1, 1) := by decide +kernel
theorem d34 : decode yB 34 = .ok (.iload_n 2, 1) := by decide +kernel
theorem d35 : decode yB 35 = .ok (.iload_n 3, 1) := by decide +kernel
theorem d36 : decode yB 36 = .ok (.invokestatic 177, 3) := by decide +kernel
theorem d39 : decode yB 39 = .ok (.astore 5, 2) := by decide +kernel
theorem d41 : decode yB 41 = .ok (.aload_n 0, 1) := by decide +kernel
theorem d42 : decode yB 42 = .ok (.aload 5, 2) := by decide +kernel
theorem d44 : decode yB 44 = .ok (.iload_n 3, 1) := by decide +kernel
theorem d45 : decode yB 45 = .ok (.invokestatic 47, 3) := by decide +kernel
theorem d48 : decode yB 48 = .ok (.putfield 15, 3) := by decide +kernel
theorem d51 : decode yB 51 = .ok (.aload_n 0, 1) := by decide +kernel
theorem d52 : decode yB 52 = .ok (.aload 5, 2) := by decide +kernel
theorem d54 : decode yB 54 = .ok (.putfield 9, 3) := by decide +kernel
theorem d57 : decode yB 57 = .ok (.return_, 1) := by decide +kernel
def site : List Cond := [.fieldLink "java/lang/String" 38 "java/lang/String" "COMPACT_STRINGS" "Z", Cmp3.tab, CodL.tab, .laysFinal "java/lang/String" "java/lang/String" "value" "[B", .fieldLink "java/lang/String" 9 "java/lang/String" "value" "[B", .laysFinal "java/lang/String" "java/lang/String" "coder" "B", .fieldLink "java/lang/String" 15 "java/lang/String" "coder" "B"] ++ objW "java/lang/String" 1 ++ staticW "java/lang/String" 177 Cmp3.yN ++ staticW "java/lang/String" 47 CodL.yN
def tab : Cond := tabOf yN yB 6 none site
def P (a : Addr) (D : Cell) (fV fC : Field) (b : Addr) (A : Cell) (z : Int32) (o len : Nat) (args : Array Value) (s : State) : Prop := args = #[.ref a, .ref b, .int (Int32.ofNat o), .int (Int32.ofNat len), .null] ∧ Blank "java/lang/String" a D s ∧ Found "java/lang/String" "value" "[B" fV s ∧ Found "java/lang/String" "coder" "B" fC s ∧ Ch b A s ∧ StaticIs s "java/lang/String" "COMPACT_STRINGS" "Z" (.int z) ∧ ¬ z = 0 ∧ 0 < len ∧ o + len ≤ A.slots.size ∧ len ≤ 536870912 ∧ ∀ i, i < len → ¬ 255 < cv A (o + i)
def E (a : Addr) (D : Cell) (fV fC : Field) (A : Cell) (o len : Nat) (r : Option Value) (s u : State) : Prop := Got a D fV fC A o len r s u
/-- len > 0, no char of the range above 255: a Latin-1 String of their low bytes -/
theorem law (l : Launch) (a : Addr) (D : Cell) (fV fC : Field) (b : Addr) (A : Cell) (z : Int32) (o len : Nat) : Law l yN 5 4 2 35 yB 6 none site (P a D fV fC b A z o len) (E a D fV fC A o len) [⟨a, fC.slot⟩, ⟨a, fV.slot⟩] 1 len := by
  refine Law.of_walk (plainFor_of_name (by decide +kernel)) (by decide +kernel) (by decide +kernel) (by decide) (fun _ _ h => by rw [h.1]; rfl) (fun _ U U' hal hh h => ⟨h.1, h.2.1.mv hal hh, h.2.2.1.al hal, h.2.2.2.1.al hal, h.2.2.2.2.1.mv hal hh, h.2.2.2.2.2.1.there hal hh, h.2.2.2.2.2.2⟩) (fun r U U' V V' h1 hal h2 h => Got.mv r U U' V V' h1 hal h2 h) ?_
  intro p e s m args below meth c s₁ X0 hexec hbytes hml hret hlk hnm hown hh0 W hP
  obtain ⟨rfl, hB, f1, f2, hA, s1, hz, l0, l1, l2, hp⟩ := hP
  have a31 := hA.1.2.2.2
  have c1 : Steps p.tables e below (s₁.setTop (entryFrame m #[.ref a, .ref b, .int (Int32.ofNat o), .int (Int32.ofNat len), .null] 6)) (s₁.setTop (mkF m 0 #[.val (.ref a), .val (.ref b), .val (.int (Int32.ofNat o)), .val (.int (Int32.ofNat len)), .val .null, .unset] [])) := entry rfl
  have c2 : Steps p.tables e below (s₁.setTop (entryFrame m #[.ref a, .ref b, .int (Int32.ofNat o), .int (Int32.ofNat len), .null] 6)) (s₁.setTop (mkF m 1 #[.val (.ref a), .val (.ref b), .val (.int (Int32.ofNat o)), .val (.int (Int32.ofNat len)), .val .null, .unset] [.ref a])) := c1.trans (by
    refine XS.aloadN X0.here hexec rfl (hb hbytes d0) rfl rfl ?_
    exact Steps.refl _)
  obtain ⟨T3, X3, q3, st3⟩ := X0.oinit hexec hown (wks W (objW "java/lang/String" 1)) (g := (mkF m 1 #[.val (.ref a), .val (.ref b), .val (.int (Int32.ofNat o)), .val (.int (Int32.ofNat len)), .val .null, .unset] [.ref a])) rfl (by rw [hml]; rfl) (rest := []) rfl (hb hbytes d1) (W := 0) (by show 2 * 0 + 0 ≤ _; decide) (Nat.le_of_ble_eq_true rfl) (Nat.le_of_ble_eq_true rfl)
  have hh3 := q3.trans hh0
  have c4 : Steps p.tables e below (s₁.setTop (entryFrame m #[.ref a, .ref b, .int (Int32.ofNat o), .int (Int32.ofNat len), .null] 6)) (T3.setTop (mkF m 27 #[.val (.ref a), .val (.ref b), .val (.int (Int32.ofNat o)), .val (.int (Int32.ofNat len)), .val .null, .unset] [])) := (c2.trans (st3 _ (Steps.refl _))).trans (by
    refine XS.iloadN X3.here hexec rfl (hb hbytes d4) rfl ?_
    refine XS.ifYes X3.here hexec rfl (pc0 := 5) rfl (hb hbytes d5) rfl (i0_ne_t (nz32 (by omega) l0)) (by decide) rfl ?_
    exact Steps.refl _)
  obtain ⟨T5, X5, q5, st5⟩ := X3.sget hexec hown (wk W (.fieldLink "java/lang/String" 38 "java/lang/String" "COMPACT_STRINGS" "Z")) s1 (fun _ _ h => by rw [hh3]; exact h) (g := (mkF m 27 #[.val (.ref a), .val (.ref b), .val (.int (Int32.ofNat o)), .val (.int (Int32.ofNat len)), .val .null, .unset] [])) rfl (hb hbytes d27)
  have hh5 := q5.trans hh3
  have c6 : Steps p.tables e below (s₁.setTop (entryFrame m #[.ref a, .ref b, .int (Int32.ofNat o), .int (Int32.ofNat len), .null] 6)) (T5.setTop (mkF m 30 #[.val (.ref a), .val (.ref b), .val (.int (Int32.ofNat o)), .val (.int (Int32.ofNat len)), .val .null, .unset] [.int z])) := c4.trans (st5 _ (Steps.refl _))
  have c7 : Steps p.tables e below (s₁.setTop (entryFrame m #[.ref a, .ref b, .int (Int32.ofNat o), .int (Int32.ofNat len), .null] 6)) (T5.setTop (mkF m 36 #[.val (.ref a), .val (.ref b), .val (.int (Int32.ofNat o)), .val (.int (Int32.ofNat len)), .val .null, .unset] [.int (Int32.ofNat len), .int (Int32.ofNat o), .ref b])) := c6.trans (by
    refine XS.ifNo X5.here hexec rfl (hb hbytes d30) rfl (i0_eq_f hz) ?_
    refine XS.aloadN X5.here hexec rfl (hb hbytes d33) rfl rfl ?_
    refine XS.iloadN X5.here hexec rfl (hb hbytes d34) rfl ?_
    refine XS.iloadN X5.here hexec rfl (hb hbytes d35) rfl ?_
    exact Steps.refl _)
  obtain ⟨v8, T8, X8, E8, g8⟩ := X5.callS hexec (Cmp3.law l b A o len) hown (wks W (staticW "java/lang/String" 177 Cmp3.yN)) (wk W Cmp3.tab) (W := 0) (Nat.le_of_ble_eq_true rfl) (Nat.le_of_ble_eq_true rfl) (Nat.le_refl _) (by show 0 + len ≤ len; omega) (g := (mkF m 36 #[.val (.ref a), .val (.ref b), .val (.int (Int32.ofNat o)), .val (.int (Int32.ofNat len)), .val .null, .unset] [.int (Int32.ofNat len), .int (Int32.ofNat o), .ref b])) rfl (by rw [hml]; rfl) c7 (argsL := [.ref b, .int (Int32.ofNat o), .int (Int32.ofNat len)]) (rest := []) rfl rfl (by show 2 * 0 + 0 ≤ _; decide) (hb hbytes d36) (⟨rfl, hA.mv X5.warmed.alike hh5, l1, l2, hp⟩)
  obtain ⟨e8, z8⟩ := E8
  obtain ⟨rfl, N, n1, n2, n3, n4, n5, n6⟩ := NewArr.mv _ T5 s _ _ hh5.symm (Vm.Alike.refl _) rfl e8
  rw [hh5] at z8
  have hB1 := hB.keep X8.warmed.alike (n6 _ _ hB.1)
  have hne : s.heap.size ≠ a := (Nat.ne_of_lt (Array.getElem?_eq_some_iff.mp hB.1).1).symm
  have c9 : Steps p.tables e below (s₁.setTop (entryFrame m #[.ref a, .ref b, .int (Int32.ofNat o), .int (Int32.ofNat len), .null] 6)) (T8.setTop (mkF m 39 #[.val (.ref a), .val (.ref b), .val (.int (Int32.ofNat o)), .val (.int (Int32.ofNat len)), .val .null, .unset] [.ref s.heap.size])) := g8
  have c10 : Steps p.tables e below (s₁.setTop (entryFrame m #[.ref a, .ref b, .int (Int32.ofNat o), .int (Int32.ofNat len), .null] 6)) (T8.setTop (mkF m 45 #[.val (.ref a), .val (.ref b), .val (.int (Int32.ofNat o)), .val (.int (Int32.ofNat len)), .val .null, .val (.ref s.heap.size)] [.int (Int32.ofNat N.slots.size), .ref s.heap.size, .ref a])) := by
    have hc : Steps p.tables e below (s₁.setTop (entryFrame m #[.ref a, .ref b, .int (Int32.ofNat o), .int (Int32.ofNat len), .null] 6)) (T8.setTop (mkF m 45 #[.val (.ref a), .val (.ref b), .val (.int (Int32.ofNat o)), .val (.int (Int32.ofNat len)), .val .null, .val (.ref s.heap.size)] [.int (Int32.ofNat len), .ref s.heap.size, .ref a])) := c9.trans (by
      refine XS.astore X8.here hexec rfl (hb hbytes d39) rfl rfl rfl ?_
      refine XS.aloadN X8.here hexec rfl (hb hbytes d41) rfl rfl ?_
      refine XS.aload X8.here hexec rfl (hb hbytes d42) rfl rfl ?_
      refine XS.iloadN X8.here hexec rfl (hb hbytes d44) rfl ?_
      exact Steps.refl _)
    rw [n4]; exact hc
  obtain ⟨v11, T11, X11, E11, g11⟩ := X8.callS hexec (CodL.law l s.heap.size N) hown (wks W (staticW "java/lang/String" 47 CodL.yN)) (wk W CodL.tab) (W := 1) (Nat.le_of_ble_eq_true rfl) (Nat.le_of_ble_eq_true rfl) (Nat.le_refl _) (by show 0 + len + 0 ≤ len; omega) (g := (mkF m 45 #[.val (.ref a), .val (.ref b), .val (.int (Int32.ofNat o)), .val (.int (Int32.ofNat len)), .val .null, .val (.ref s.heap.size)] [.int (Int32.ofNat N.slots.size), .ref s.heap.size, .ref a])) rfl (by rw [hml]; rfl) c10 (argsL := [.ref s.heap.size, .int (Int32.ofNat N.slots.size)]) (rest := [.ref a]) rfl rfl (by show 2 * 0 + (1 + 0) ≤ _; decide) (hb hbytes d45) (⟨rfl, n1⟩)
  obtain ⟨rfl, q11⟩ := E11
  have hB11 := hB1.mv (X8.warmed.alike.symm.trans X11.warmed.alike) q11
  have c12 : Steps p.tables e below (s₁.setTop (entryFrame m #[.ref a, .ref b, .int (Int32.ofNat o), .int (Int32.ofNat len), .null] 6)) (T11.setTop (mkF m 48 #[.val (.ref a), .val (.ref b), .val (.int (Int32.ofNat o)), .val (.int (Int32.ofNat len)), .val .null, .val (.ref s.heap.size)] [.int 0, .ref a])) := g11
  obtain ⟨T13, X13, p13, bl13, sl13, st13⟩ := X11.finit hexec hown (wk W (.fieldLink "java/lang/String" 15 "java/lang/String" "coder" "B")) (Or.inr ⟨_, (wk W (.laysFinal "java/lang/String" "java/lang/String" "coder" "B"))⟩) (Or.inl ⟨rfl, hnm⟩) f2 (Or.inl rfl) hB11 (t := .byte) (by decide +kernel) rfl (g := (mkF m 48 #[.val (.ref a), .val (.ref b), .val (.int (Int32.ofNat o)), .val (.int (Int32.ofNat len)), .val .null, .val (.ref s.heap.size)] [.int 0, .ref a])) rfl (rest := []) rfl (hb hbytes d48)
  have c14 : Steps p.tables e below (s₁.setTop (entryFrame m #[.ref a, .ref b, .int (Int32.ofNat o), .int (Int32.ofNat len), .null] 6)) (T13.setTop (mkF m 54 #[.val (.ref a), .val (.ref b), .val (.int (Int32.ofNat o)), .val (.int (Int32.ofNat len)), .val .null, .val (.ref s.heap.size)] [.ref s.heap.size, .ref a])) := (c12.trans (st13 _ (Steps.refl _))).trans (by
    refine XS.aloadN X13.here hexec rfl (hb hbytes d51) rfl rfl ?_
    refine XS.aload X13.here hexec rfl (hb hbytes d52) rfl rfl ?_
    exact Steps.refl _)
  obtain ⟨T15, X15, p15, bl15, sl15, st15⟩ := X13.finit hexec hown (wk W (.fieldLink "java/lang/String" 9 "java/lang/String" "value" "[B")) (Or.inr ⟨_, (wk W (.laysFinal "java/lang/String" "java/lang/String" "value" "[B"))⟩) (Or.inl ⟨rfl, hnm⟩) f1 (Or.inl rfl) bl13 (t := (.array .byte)) (by decide +kernel) rfl (g := (mkF m 54 #[.val (.ref a), .val (.ref b), .val (.int (Int32.ofNat o)), .val (.int (Int32.ofNat len)), .val .null, .val (.ref s.heap.size)] [.ref s.heap.size, .ref a])) rfl (rest := []) rfl (hb hbytes d54)
  have c16 : Steps p.tables e below (s₁.setTop (entryFrame m #[.ref a, .ref b, .int (Int32.ofNat o), .int (Int32.ofNat len), .null] 6)) (T15.setTop (mkF m 57 #[.val (.ref a), .val (.ref b), .val (.int (Int32.ofNat o)), .val (.int (Int32.ofNat len)), .val .null, .val (.ref s.heap.size)] [])) := c14.trans (st15 _ (Steps.refl _))
  have ap := apart (Or.inr ⟨_, (wk W (.laysFinal "java/lang/String" "java/lang/String" "value" "[B"))⟩) (Or.inr ⟨_, (wk W (.laysFinal "java/lang/String" "java/lang/String" "coder" "B"))⟩) f1 f2 (t₁ := .array .byte) (t₂ := .byte) (by decide +kernel) (by decide +kernel) (by decide)
  have al := X8.warmed.alike.symm.trans X15.warmed.alike
  have n7 : T11.heap[s.heap.size]? = some N := by rw [q11]; exact n1.1
  exact ⟨T15, none, _, _, _, X15, by simp, rfl, by omega, (fun _ => rfl), ⟨rfl, _, N, bl15, ((Same.refl D _).set _ (by simp)).set _ (by simp), sl15, (Cell.slots_setSlot_ne _ ap).trans sl13, n1.keep al (p15.other hne (p13.other hne n7)), n2, by rw [al.findClass]; exact n3, n4, n5, fun y c h1 h2 => p15.other h1 (p13.other h1 (by rw [q11]; exact n6 y c h2)), by rw [p15.2.2, p13.2.2, q11]; exact z8⟩, fun fs hl => c16.trans (X15.returnOut hexec hret (hb hbytes d57) hl)⟩
end New4
namespace New1
def yN : MethodName := ⟨"java/lang/String", "<init>", "([C)V"⟩
abbrev yB : ByteArray := jdk_42_method_3_code
theorem d0 : decode yB 0 = .ok (.aload_n 0, 1) := by decide +kernel
theorem d1 : decode yB 1 = .ok (.aload_n 1, 1) := by decide +kernel
theorem d2 : decode yB 2 = .ok (.iconst 0, 1) := by decide +kernel
theorem d3 : decode yB 3 = .ok (.aload_n 1, 1) := by decide +kernel
theorem d4 : decode yB 4 = .ok (.arraylength, 1) := by decide +kernel
theorem d5 : decode yB 5 = .ok (.aconst_null, 1) := by decide +kernel
theorem d6 : decode yB 6 = .ok (.invokespecial 27, 3) := by decide +kernel
theorem d9 : decode yB 9 = .ok (.return_, 1) := by decide +kernel
def site : List Cond := [New4.tab] ++ initW "java/lang/String" 27 New4.yN
def tab : Cond := tabOf yN yB 2 none site
def P (a : Addr) (D : Cell) (fV fC : Field) (b : Addr) (A : Cell) (z : Int32) (args : Array Value) (s : State) : Prop := args = #[.ref a, .ref b] ∧ Blank "java/lang/String" a D s ∧ Found "java/lang/String" "value" "[B" fV s ∧ Found "java/lang/String" "coder" "B" fC s ∧ Ch b A s ∧ StaticIs s "java/lang/String" "COMPACT_STRINGS" "Z" (.int z) ∧ ¬ z = 0 ∧ 0 < A.slots.size ∧ A.slots.size ≤ 536870912 ∧ ∀ i, i < A.slots.size → ¬ 255 < cv A i
def E (a : Addr) (D : Cell) (fV fC : Field) (A : Cell) (r : Option Value) (s u : State) : Prop := Got a D fV fC A 0 A.slots.size r s u
/-- new String(chars), not empty, no char above 255: a Latin-1 String of their low bytes -/
theorem law (l : Launch) (a : Addr) (D : Cell) (fV fC : Field) (b : Addr) (A : Cell) (z : Int32) : Law l yN 2 1 3 52 yB 2 none site (P a D fV fC b A z) (E a D fV fC A) [⟨a, fC.slot⟩, ⟨a, fV.slot⟩] 1 A.slots.size := by
  refine Law.of_walk (plainFor_of_name (by decide +kernel)) (by decide +kernel) (by decide +kernel) (by decide) (fun _ _ h => by rw [h.1]; rfl) (fun _ U U' hal hh h => ⟨h.1, h.2.1.mv hal hh, h.2.2.1.al hal, h.2.2.2.1.al hal, h.2.2.2.2.1.mv hal hh, h.2.2.2.2.2.1.there hal hh, h.2.2.2.2.2.2⟩) (fun r U U' V V' h1 hal h2 h => Got.mv r U U' V V' h1 hal h2 h) ?_
  intro p e s m args below meth c s₁ X0 hexec hbytes hml hret hlk hnm hown hh0 W hP
  obtain ⟨rfl, hB, f1, f2, hA, s1, hz, l0, l2, hp⟩ := hP
  have c1 : Steps p.tables e below (s₁.setTop (entryFrame m #[.ref a, .ref b] 2)) (s₁.setTop (mkF m 0 #[.val (.ref a), .val (.ref b)] [])) := entry rfl
  have c2 : Steps p.tables e below (s₁.setTop (entryFrame m #[.ref a, .ref b] 2)) (s₁.setTop (mkF m 6 #[.val (.ref a), .val (.ref b)] [.null, .int (Int32.ofNat A.slots.size), .int 0, .ref b, .ref a])) := c1.trans (by
    refine XS.aloadN X0.here hexec rfl (hb hbytes d0) rfl rfl ?_
    refine XS.aloadN X0.here hexec rfl (hb hbytes d1) rfl rfl ?_
    refine iconstV X0.here hexec rfl 0 (hb hbytes d2) (by decide) ?_
    refine XS.aloadN X0.here hexec rfl (hb hbytes d3) rfl rfl ?_
    refine X0.alen hexec (hA.1.mv X0.warmed.alike hh0) rfl rfl (hb hbytes d4) ?_
    refine XS.aconstNull X0.here hexec rfl (hb hbytes d5) ?_
    exact Steps.refl _)
  obtain ⟨v3, T3, X3, E3, g3⟩ := X0.callN hexec (New4.law l a D fV fC b A z 0 A.slots.size) rfl hown (wks W (initW "java/lang/String" 27 New4.yN)) (W New4.tab (by simp only [site, List.mem_cons, List.mem_append, true_or, or_true])) (W := 0) (Nat.le_of_ble_eq_true rfl) (Nat.le_of_ble_eq_true rfl) (Nat.le_refl _) (by show 0 + A.slots.size ≤ A.slots.size; omega) (g := (mkF m 6 #[.val (.ref a), .val (.ref b)] [.null, .int (Int32.ofNat A.slots.size), .int (Int32.ofNat 0), .ref b, .ref a])) rfl (by rw [hml]; rfl) c2 (argsL := [.ref b, .int (Int32.ofNat 0), .int (Int32.ofNat A.slots.size), .null]) (rest := []) rfl rfl (by show 2 * 0 + 0 ≤ _; decide) (hb hbytes d6) (⟨rfl, hB.mv X0.warmed.alike hh0, f1.al X0.warmed.alike, f2.al X0.warmed.alike, hA.mv X0.warmed.alike hh0, s1.there X0.warmed.alike hh0, hz, l0, by omega, l2, fun i hi => by rw [Nat.zero_add]; exact hp i hi⟩)
  have e0 := Got.mv _ s₁ s _ _ hh0.symm (Vm.Alike.refl _) rfl E3
  obtain rfl := e0.1
  have c4 : Steps p.tables e below (s₁.setTop (entryFrame m #[.ref a, .ref b] 2)) (T3.setTop (mkF m 9 #[.val (.ref a), .val (.ref b)] [])) := g3
  exact ⟨T3, none, _, _, _, X3, by simp, rfl, by omega, (fun _ => rfl), e0, fun fs hl => c4.trans (X3.returnOut hexec hret (hb hbytes d9) hl)⟩
theorem pays {l : Launch} {R : Room} {p : Program} {e : Env} {below : List Frame} {s : State} {sargs : Array Value} {len W : Nat} (a : Addr) (D : Cell) (fV fC : Field) (b : Addr) (A : Cell) (z : Int32) (htab : tab.before sargs s = true) (hfr : 4 ≤ R.frames) (hlo : W + 65 ≤ R.locals) :
    Back l R p e below s sargs yN len W (fun A₁ a₁ => A₁.cells + 1 ≤ R.cells ∧ A₁.slots + A.slots.size ≤ R.slots ∧ P a D fV fC b A z a₁ A₁.U) (fun A₁ _ v₁ B₁ => E a D fV fC A v₁ A₁.U B₁.U ∧ B₁.locs = A₁.locs ++ [⟨a, fC.slot⟩, ⟨a, fV.slot⟩] ∧ B₁.cells = A₁.cells + 1 ∧ B₁.slots = A₁.slots + A.slots.size) :=
  (law l a D fV fC b A z).pays htab hfr (by omega)
end New1
end StrChars
namespace StrChars.Road
open Jvm Sem ClassFile Op Lib Jvm.Stand Jvm.Free Jvm.Free.XT
open Jvm.Lib.Cold (StaticIs)
abbrev ST : String := "java/lang/String"
/-- every table word that New1's law asks, flat -/
abbrev words : List Jvm.Cond := [.code New1.yN New1.yB 2 none, .initialized ST, .methodLink ST 27 New4.yN, .instanceMethod New4.yN,
  .code New4.yN New4.yB 6 none, .fieldLink ST 38 ST "COMPACT_STRINGS" "Z", .laysFinal ST ST "value" "[B", .fieldLink ST 9 ST "value" "[B", .laysFinal ST ST "coder" "B", .fieldLink ST 15 ST "coder" "B",
  .methodLink ST 1 Lib.objectInit, .instanceMethod Lib.objectInit, .code Lib.objectInit ⟨#[0xb1]⟩ 1 none, .methodLink ST 177 Cmp3.yN, .static Cmp3.yN, .methodLink ST 47 CodL.yN, .static CodL.yN,
  .code Cmp3.yN Cmp3.yB 6 (some (.array .byte)), .initialized U16, .arrayClass .byte, .methodLink U16 115 Cmp5.yN, .static Cmp5.yN, .code Cmp5.yN Cmp5.yB 7 (some .int), .code CodL.yN CodL.yB 2 (some .byte)]
theorem tab_of {a : Array Value} {s : State} (h : ∀ w ∈ words, w.before a s = true) : New1.tab.before a s = true := by
  have h5 : Cmp5.tab.before a s = true := unparts (wk h (.code Cmp5.yN Cmp5.yB 7 (some .int))) (wks h (.initialized Cmp5.yN.cls :: Cmp5.site))
  have hc : CodL.tab.before a s = true := unparts (wk h (.code CodL.yN CodL.yB 2 (some .byte))) (wks h (.initialized CodL.yN.cls :: CodL.site))
  have q5 : ∀ w ∈ Cmp5.tab :: words, w.before a s = true := fun w hw => (List.mem_cons.mp hw).elim (fun e => e ▸ h5) (h w)
  have h3 : Cmp3.tab.before a s = true := unparts (wk q5 (.code Cmp3.yN Cmp3.yB 6 (some (.array .byte)))) (wks q5 (.initialized Cmp3.yN.cls :: Cmp3.site))
  have q3 : ∀ w ∈ Cmp3.tab :: CodL.tab :: words, w.before a s = true := fun w hw => (List.mem_cons.mp hw).elim (fun e => e ▸ h3) fun hw => (List.mem_cons.mp hw).elim (fun e => e ▸ hc) (h w)
  have h4 : New4.tab.before a s = true := unparts (wk q3 (.code New4.yN New4.yB 6 none)) (wks q3 (.initialized New4.yN.cls :: New4.site))
  have q4 : ∀ w ∈ New4.tab :: words, w.before a s = true := fun w hw => (List.mem_cons.mp hw).elim (fun e => e ▸ h4) (h w)
  exact unparts (wk q4 (.code New1.yN New1.yB 2 none)) (wks q4 (.initialized New1.yN.cls :: New1.site))
/-- the words ride from the start Z to the walk's own state -/
theorem moved {Z s : State} {a0 args : Array Value} (hZ : Z.Warmed39 s.vm) (hw : ∀ d ∈ words, d.before a0 Z = true) : ∀ d ∈ words, d.before args s = true := fun d hd => by
  have q := hw d hd
  have t : ∀ d ∈ words, d = .arrayClass .byte ∨ (d.onTables && d.keepsFace) = true := by decide +kernel
  rcases t d hd with rfl | t
  · exact RoadKit.mvA hZ q
  · exact RoadKit.mv hZ q t
/-- WHAT COMES BACK, over the tables of the start Z: h the heap at the call, h' behind it -/
def Q (Z : State) (x : Addr) (A : Cell) (h : Heap) (v : Option Value) (h' : Heap) (L : List Loc) : Prop := v = none ∧ (∀ y ∈ L, y.base = x) ∧ RoadKit.Keep h h' [x] ∧ h'.size = h.size + 1 ∧ RoadKit.Exa Z h' x ST ∧ RoadKit.Fld Z h' x ST "value" "[B" (.ref h.size) ∧ RoadKit.Fld Z h' x ST "coder" "B" (.int 0) ∧
  (∃ V : Cell, RoadKit.Arr Z h' h.size V .byte ∧ V.vm = .none ∧ Z.vm.findClass "[B" = some V.cls ∧ V.slots.size = A.slots.size ∧ ∀ j, j < A.slots.size → V.slots[j]? = some (.int (lo8 (cv A j)))) ∧
  ∀ (O n d : String) (w : Value), RoadKit.Fld Z h x O n d w → RoadKit.slotOf Z O n d ≠ RoadKit.slotOf Z ST "value" "[B" → RoadKit.slotOf Z O n d ≠ RoadKit.slotOf Z ST "coder" "B" → RoadKit.Fld Z h' x O n d w
/-- **new String(chars) AT A CALL, IN THE ROAD'S FORM**: for specialBack behind newO: x the fresh String, b the char[] with the cell A -/
theorem back {p : Program} {l : Launch} {e : Env} {R : Room} {s : State} {args : Array Value} {below : List Frame} {len W : Nat} {Z : State} {a0 : Array Value} {h : Heap} (hZ : Z.Warmed39 s.vm) (hw : ∀ d ∈ words, d.before a0 Z = true) {kI : Nat} (wi : (Jvm.Cond.instantiable ST kI).before a0 Z = true)
    {x b : Addr} {A : Cell} {z : Int32} {v0 c0 : Value} (E : RoadKit.Exa Z h x ST) (V : RoadKit.Fld Z h x ST "value" "[B" v0) (C : RoadKit.Fld Z h x ST "coder" "B" c0) (K : RoadKit.Arr Z h b A .char) (hty : Typed .char A) (S : RoadKit.Sta Z h ST "COMPACT_STRINGS" "Z" (.int z)) (hz : ¬ z = 0)
    (l0 : 0 < A.slots.size) (l2 : A.slots.size ≤ 536870912) (hp : ∀ i, i < A.slots.size → ¬ 255 < cv A i) (hfr : 4 ≤ R.frames) (hlo : W + 65 ≤ R.locals) :
    Back l R p e below s args New1.yN len W (fun P a => a = #[.ref x, .ref b] ∧ P.U.heap = h ∧ P.cells + 1 ≤ R.cells ∧ P.slots + A.slots.size ≤ R.slots)
      (fun P _ v B => ∃ L, Q Z x A h v B.U.heap L ∧ B.locs = P.locs ++ L ∧ B.cells = P.cells + 1 ∧ B.slots = P.slots + A.slots.size) := by
  intro m meth c P g ig mk a X hg hsize hdg hW hn hp'
  obtain ⟨rfl, rfl, r1, r2⟩ := hp'
  have al : Z.vm.Alike P.U.vm := hZ.alike.trans X.warmed.alike
  obtain ⟨D, cfV, kV, iV, fV, hD, gV, stV, knV, obV, asV, slV⟩ := id V
  obtain ⟨D', cfC, kC, iC, fC, hD', gC, stC, -, -, asC, slC⟩ := id C
  cases hD.symm.trans hD'
  obtain ⟨D2, kD, e1, e2, e3, e4, e5⟩ := id E
  cases hD.symm.trans e1
  obtain ⟨c2, k2, i1, i2, i3, -⟩ := Cond.instantiable_spec wi
  cases e2.symm.trans i1
  cases e3.symm.trans i2
  obtain ⟨kU, u1, u2⟩ := al.2.2 _ _ e3
  have hB : Blank ST x D P.U := ⟨hD, ⟨knV, fun q hq => by rw [hq] at obV; cases obV⟩, by rw [al.findClass]; exact e2, kU, u1, by rw [u2]; exact i3, by rw [u2]; exact e5 i3⟩
  have F1 : Found ST "value" "[B" fV P.U := ⟨SBG.found_only al ⟨cfV, kV, iV, gV⟩, stV⟩
  have F2 : Found ST "coder" "B" fC P.U := ⟨SBG.found_only al ⟨cfC, kC, iC, gC⟩, stC⟩
  have hA : Ch b A P.U := ⟨⟨K.1, State.isArrayOf_alike al K.2.1, K.2.2, by omega⟩, hty⟩
  have hS : StaticIs P.U ST "COMPACT_STRINGS" "Z" (.int z) := by
    obtain ⟨cfS, iS, kS, fS, st, cS, t1, t2, t3, t4, t5, t6, t7⟩ := S
    exact StaticIs.there (s := { Z with heap := P.U.heap }) ⟨cfS, iS, kS, fS, st, cS, t1, t2, t3, t4, t5, (fun q => by rw [q] at t6; cases t6), t7⟩ al rfl
  obtain ⟨v, B, X', ⟨⟨hv, E', V', q1, q2, q3, q4, q5, q6, q7, q8, q9, q10, q11⟩, hl, hc, hs⟩, st⟩ := New1.pays x D fV fC b A z (tab_of (moved hZ hw)) hfr hlo m meth c P g ig mk _ X hg hsize hdg hW hn ⟨r1, r2, rfl, hB, F1, F2, hA, hS, hz, l0, l2, hp⟩
  have al' : Z.vm.Alike B.U.vm := hZ.alike.trans X'.warmed.alike
  have hsz : E'.slots.size = D.slots.size := by
    obtain ⟨-, -, -, kB, w1, w2, w3⟩ := q1
    obtain ⟨kB', y1, y2⟩ := al'.2.2 _ _ e3
    rw [q2.2.1] at w1
    cases w1.symm.trans y1
    rw [w3, e5 i3, y2]
  refine ⟨v, B, X', ⟨_, ⟨hv, ?_, ⟨by omega, fun y cy hy hn' => q10 y cy (by simpa using hn') hy, fun y cy hy => ?_⟩, q11, ⟨E', _, q1.1, by rw [q2.2.1]; exact e2, by rw [q2.2.1]; exact e3, by rw [q2.1]; exact obV, fun _ => by rw [hsz]; exact e5 i3⟩,
    ⟨E', cfV, kV, iV, fV, q1.1, gV, stV, by rw [q2.1]; exact knV, by rw [q2.1]; exact obV, by rw [q2.2.1]; exact asV, q3⟩, ⟨E', cfC, kC, iC, fC, q1.1, gC, stC, by rw [q2.1]; exact knV, by rw [q2.1]; exact obV, by rw [q2.2.1]; exact asC, q4⟩,
    ⟨V', ⟨q5.1, State.isArrayOf_alike al'.symm q5.2.1, q5.2.2.1⟩, q6, by rw [← al'.findClass]; exact q7, q8, fun j hj => by have := q9 j hj; rwa [Nat.zero_add] at this⟩, fun O n d w F n1 n2 => ?_⟩, hl, hc, hs⟩, st⟩
  · intro y hy
    simp only [List.mem_cons, List.not_mem_nil, or_false] at hy
    rcases hy with rfl | rfl <;> rfl
  · by_cases q : y = x
    · subst q
      cases hD.symm.trans hy
      exact ⟨E', q1.1, q2.2.1, q2.1, hsz⟩
    · exact ⟨cy, q10 y cy q hy, rfl, rfl, rfl⟩
  · obtain ⟨D3, cf, k, i, f, g1, g2, g3, g4, g5, g6, g7⟩ := F
    cases hD.symm.trans g1
    simp only [RoadKit.slotOf, g2, gV, gC, Option.map_some, Option.getD_some] at n1 n2
    exact ⟨E', cf, k, i, f, q1.1, g2, g3, by rw [q2.1]; exact g4, by rw [q2.1]; exact g5, by rw [q2.2.1]; exact g6, by rw [q2.2.2 f.slot (by simp [n1, n2])]; exact g7⟩
end StrChars.Road
namespace StrChars.Road
open Jvm Sem ClassFile Op Lib Jvm.Stand Jvm.Free Jvm.Free.XT
/-- WHAT COMES BACK, the byte[] as a list of values -/
def QA (Z : State) (x : Addr) (zn : Int32) (cs : List Int32) (h : Heap) (v : Option Value) (h' : Heap) (L : List Loc) : Prop := v = none ∧ (∀ y ∈ L, y.base = x) ∧ RoadKit.Keep h h' [x] ∧ h'.size = h.size + 1 ∧ RoadKit.Exa Z h' x ST ∧ RoadKit.Fld Z h' x ST "value" "[B" (.ref h.size) ∧ RoadKit.Fld Z h' x ST "coder" "B" (.int 0) ∧
  (∃ kb, Z.vm.findClass "[B" = some kb ∧ RoadKit.Arv Z h' h.size kb .byte zn (cs.map fun c => .int (lo8 c)) (.int 0)) ∧
  ∀ (O n d : String) (w : Value), RoadKit.Fld Z h x O n d w → RoadKit.slotOf Z O n d ≠ RoadKit.slotOf Z ST "value" "[B" → RoadKit.slotOf Z O n d ≠ RoadKit.slotOf Z ST "coder" "B" → RoadKit.Fld Z h' x O n d w
/-- **new String(chars) AT A CALL, THE ARRAYS AS LISTS**: the char[] at b holds cs, not empty, no char above 255 -/
theorem backArv {p : Program} {l : Launch} {e : Env} {R : Room} {s : State} {args : Array Value} {below : List Frame} {len W : Nat} {Z : State} {a0 : Array Value} {h : Heap} (hZ : Z.Warmed39 s.vm) (hw : ∀ d ∈ words, d.before a0 Z = true) {kI : Nat} (wi : (Jvm.Cond.instantiable ST kI).before a0 Z = true)
    {x b : Addr} {k : ClassId} {zn z : Int32} {cs : List Int32} {dv v0 c0 : Value} (E : RoadKit.Exa Z h x ST) (V : RoadKit.Fld Z h x ST "value" "[B" v0) (C : RoadKit.Fld Z h x ST "coder" "B" c0) (K : RoadKit.Arv Z h b k .char zn (cs.map Value.int) dv) (S : RoadKit.Sta Z h ST "COMPACT_STRINGS" "Z" (.int z)) (hz : ¬ z = 0)
    (hlen : zn.toNatClampNeg = cs.length) (h0 : 0 < cs.length) (hbig : cs.length ≤ 536870912) (hall : ∀ c ∈ cs, ¬ 255 < c) (hfr : 4 ≤ R.frames) (hlo : W + 65 ≤ R.locals) :
    Back l R p e below s args New1.yN len W (fun P a => a = #[.ref x, .ref b] ∧ P.U.heap = h ∧ P.cells + 1 ≤ R.cells ∧ P.slots + cs.length ≤ R.slots)
      (fun P _ v B => ∃ L, QA Z x zn cs h v B.U.heap L ∧ B.locs = P.locs ++ L ∧ B.cells = P.cells + 1 ∧ B.slots = P.slots + cs.length) := by
  obtain ⟨A, K1, K2, K3, K4, K5, K6⟩ := K
  have e : A.slots.size = cs.length := K3.trans hlen
  have hat : ∀ (i : Nat) (hi : i < cs.length), A.slots[i]? = some (.int cs[i]) := fun i hi => by rw [K5 i (by omega)]; simp [List.getD_eq_getElem?_getD, hi]
  have hcv : ∀ (i : Nat) (hi : i < cs.length), cv A i = cs[i] := fun i hi => by unfold cv; rw [hat i hi]
  have hty : Typed .char A := fun i v hv => by
    have hi : i < A.slots.size := (Array.getElem?_eq_some_iff.mp hv).1
    have q := K5 i hi
    rw [hv] at q
    rw [Option.some.inj q]
    exact K6 i hi
  refine Back.mono (back hZ hw wi E V C K1 hty S hz (by omega) (by omega) (fun i hi => by rw [hcv i (by omega)]; exact hall _ (List.getElem_mem _)) hfr hlo) (fun P a hp => ⟨hp.1, hp.2.1, hp.2.2.1, by rw [e]; exact hp.2.2.2⟩) (fun P a v B hp hq => ?_)
  obtain ⟨L, ⟨q1, q2, q3, q4, q5, q6, q7, ⟨V', v1, v2, v3, v4, v5⟩, q9⟩, hl, hc, hs⟩ := hq
  refine ⟨L, ⟨q1, q2, q3, q4, q5, q6, q7, ⟨V'.cls, v3, V', v1, rfl, by rw [v4, e, hlen], K4, fun i hi => ?_, fun i hi => ?_⟩, q9⟩, hl, hc, by rw [hs, e]⟩
  · have hi' : i < cs.length := by omega
    rw [v5 i (by omega), hcv i hi']; simp [List.getD_eq_getElem?_getD, hi']
  · have hi' : i < cs.length := by omega
    simp only [List.getD_eq_getElem?_getD, List.getElem?_map, List.getElem?_eq_getElem hi', Option.map_some, Option.getD_some]
    exact fits_lo8 _
end StrChars.Road
namespace StrChars.Road
open Jvm Sem ClassFile Op Lib Jvm.Stand Jvm.Free Jvm.Free.XT
/-- WHAT COMES BACK, in the writer's own shape -/
def QV (Z : State) (x : Addr) (N : Int32) (bs : List Int32) (h : Heap) (n0 : Nat) (v : Option Value) (h' : Heap) (L : List Loc) : Prop := v = none ∧ RoadKit.Fr n0 L ∧ RoadKit.Keep h h' [x] ∧ RoadKit.Exa Z h' x ST ∧ RoadKit.Fld Z h' x ST "coder" "B" (.int 0) ∧
  ∃ (t : Addr) (kb : ClassId), n0 ≤ t ∧ h.size ≤ t ∧ ¬ t = x ∧ RoadKit.Fld Z h' x ST "value" "[B" (.ref t) ∧ RoadKit.Arv Z h' t kb .byte N (bs.map Value.int) (.int 0)
/-- **new String(chars) AT A CALL, FOR THE WRITER**: a char[] of n known ints, each 0 to 255 -/
theorem backV {p : Program} {l : Launch} {e : Env} {R : Room} {s : State} {args : Array Value} {below : List Frame} {len W : Nat} {Z : State} {a0 : Array Value} {h : Heap} (hZ : Z.Warmed39 s.vm) (hw : ∀ d ∈ words, d.before a0 Z = true) {kI : Nat} (wi : (Jvm.Cond.instantiable ST kI).before a0 Z = true)
    {x b : Addr} {kC : ClassId} {cs bs : List Int32} {d v0 c0 : Value} {z N : Int32} {n n0 : Nat} (hx0 : n0 ≤ x) (hh0 : n0 ≤ h.size) (E : RoadKit.Exa Z h x ST) (V : RoadKit.Fld Z h x ST "value" "[B" v0) (C : RoadKit.Fld Z h x ST "coder" "B" c0) (K : RoadKit.Arv Z h b kC .char N (cs.map Value.int) d) (S : RoadKit.Sta Z h ST "COMPACT_STRINGS" "Z" (.int z)) (hz : ¬ z = 0)
    (hn : cs.length = n) (hN : N = Int32.ofNat n) (l0 : 0 < n) (l2 : n ≤ 4000) (hp : ∀ c ∈ cs, ¬ c < 0 ∧ ¬ (255 : Int32) < c) (hb : bs = cs.map (fun c => c.toInt8.toInt32)) (hfr : 4 ≤ R.frames) (hlo : W + 65 ≤ R.locals) :
    Back l R p e below s args (⟨"java/lang/String", "<init>", "([C)V"⟩ : MethodName) len W (fun P a => a = #[.ref x, .ref b] ∧ P.U.heap = h ∧ P.cells + 1 ≤ R.cells ∧ P.slots + n ≤ R.slots)
      (fun P _ v B => ∃ L, QV Z x N bs h n0 v B.U.heap L ∧ B.locs = P.locs ++ L ∧ B.cells = P.cells + 1 ∧ B.slots = P.slots + n) := by
  subst hn hN hb
  refine Back.mono (backArv hZ hw wi E V C K S hz (n32 (by omega)) l0 (by omega) (fun c hc => (hp c hc).2) hfr hlo) (fun P a hp => hp) (fun P a v B hp hq => ?_)
  obtain ⟨L, ⟨q1, q2, q3, q4, q5, q6, q7, ⟨kb, v1, v2⟩, q9⟩, hl, hc, hs⟩ := hq
  exact ⟨L, ⟨q1, fun y hy => by rw [q2 y hy]; exact hx0, q3, q5, q7, h.size, kb, hh0, Nat.le_refl _, Nat.ne_of_gt E.lt, q6, by rw [List.map_map]; exact v2⟩, hl, hc, hs⟩
end StrChars.Road
namespace StrChars
open Jvm Sem ClassFile Op Lib Jvm.Stand Jvm.Free.XT Jvm.Free.ALB Jvm.Free.JM Jvm.Free
open Jvm.Lib.Cold (StaticIs)
def hi8 (x : Int32) : Int32 := lo8 (x >>> ((8 : Int32) &&& 31))
end StrChars
namespace StrChars.Road
open Jvm Sem ClassFile Op Lib Jvm.Stand Jvm.Free Jvm.Free.XT
open Jvm.Lib.Cold (StaticIs)
/-- the bytes of the chars cs, low before high -/
def wideBytes : List Int32 → List Value
  | [] => []
  | c :: cs => .int (lo8 c) :: .int (hi8 c) :: wideBytes cs
/-- an array of N2 bytes vs codes the chars cs by the coder cd -/
def CodA (cs : List Int32) (cd N2 : Int32) (vs : List Value) : Prop := (cd = 0 ∧ N2 = Int32.ofNat cs.length ∧ vs = (cs.map fun c => Value.int (lo8 c)) ∧ ∀ c ∈ cs, ¬ 255 < c) ∨ (cd = 1 ∧ N2 = Int32.ofNat (2 * cs.length) ∧ vs = wideBytes cs ∧ ∃ c ∈ cs, 255 < c)
end StrChars.Road
namespace StrChars.Road
open Jvm Sem ClassFile Op Lib Jvm.Stand Jvm.Free Jvm.Free.XT
open Jvm.Lib.Cold (StaticIs)
/-- what backV says of its String, as the contracts of this text ask it: cs's low bytes, coder 0 -/
theorem codOf {cs : List Int32} {n : Nat} (hn : cs.length = n) (hb : ∀ c ∈ cs, ¬ 255 < c) : CodA cs 0 (Int32.ofNat n) ((cs.map lo8).map Value.int) := Or.inl ⟨rfl, by rw [hn], by simp [List.map_map, Function.comp_def], hb⟩
end StrChars.Road
end Jvm.Pilot.@@N@@
namespace Jvm.Pilot.@@N@@
open Jvm Jvm.ClassFile Sem Op Lib Jvm.Free Jvm.Stand Jvm.LawKit Jvm.RoadKit Bundle Jvm.Pilot.@@N@@.Jvm.D
theorem dCo_0 : decode jdk_42_method_152_code 0 = .ok (.getstatic 38, 3) := by decide +kernel
theorem dCo_3 : decode jdk_42_method_152_code 3 = .ok (.ifCond .eq 10, 3) := by decide +kernel
theorem dCo_6 : decode jdk_42_method_152_code 6 = .ok (.aload_n 0, 1) := by decide +kernel
theorem dCo_7 : decode jdk_42_method_152_code 7 = .ok (.getfield 15, 3) := by decide +kernel
theorem dCo_10 : decode jdk_42_method_152_code 10 = .ok (.goto 4, 3) := by decide +kernel
theorem dCo_14 : decode jdk_42_method_152_code 14 = .ok (.ireturn, 1) := by decide +kernel
theorem dLe_0 : decode jdk_42_method_54_code 0 = .ok (.aload_n 0, 1) := by decide +kernel
theorem dLe_1 : decode jdk_42_method_54_code 1 = .ok (.getfield 9, 3) := by decide +kernel
theorem dLe_4 : decode jdk_42_method_54_code 4 = .ok (.arraylength, 1) := by decide +kernel
theorem dLe_5 : decode jdk_42_method_54_code 5 = .ok (.aload_n 0, 1) := by decide +kernel
theorem dLe_6 : decode jdk_42_method_54_code 6 = .ok (.invokevirtual 335, 3) := by decide +kernel
theorem dLe_9 : decode jdk_42_method_54_code 9 = .ok (.ishr, 1) := by decide +kernel
theorem dLe_10 : decode jdk_42_method_54_code 10 = .ok (.ireturn, 1) := by decide +kernel
theorem dMi_0 : decode jdk_29_method_69_code 0 = .ok (.iload_n 0, 1) := by decide +kernel
theorem dMi_1 : decode jdk_29_method_69_code 1 = .ok (.iload_n 1, 1) := by decide +kernel
theorem dMi_2 : decode jdk_29_method_69_code 2 = .ok (.if_icmp .gt 7, 3) := by decide +kernel
theorem dMi_5 : decode jdk_29_method_69_code 5 = .ok (.iload_n 0, 1) := by decide +kernel
theorem dMi_6 : decode jdk_29_method_69_code 6 = .ok (.goto 4, 3) := by decide +kernel
theorem dMi_9 : decode jdk_29_method_69_code 9 = .ok (.iload_n 1, 1) := by decide +kernel
theorem dMi_10 : decode jdk_29_method_69_code 10 = .ok (.ireturn, 1) := by decide +kernel
theorem dGb_0 : decode jdk_42_method_147_code 0 = .ok (.aload_n 0, 1) := by decide +kernel
theorem dGb_1 : decode jdk_42_method_147_code 1 = .ok (.invokevirtual 335, 3) := by decide +kernel
theorem dGb_4 : decode jdk_42_method_147_code 4 = .ok (.iload_n 3, 1) := by decide +kernel
theorem dGb_5 : decode jdk_42_method_147_code 5 = .ok (.if_icmp .ne 23, 3) := by decide +kernel
theorem dGb_8 : decode jdk_42_method_147_code 8 = .ok (.aload_n 0, 1) := by decide +kernel
theorem dGb_9 : decode jdk_42_method_147_code 9 = .ok (.getfield 9, 3) := by decide +kernel
theorem dGb_12 : decode jdk_42_method_147_code 12 = .ok (.iconst 0, 1) := by decide +kernel
theorem dGb_13 : decode jdk_42_method_147_code 13 = .ok (.aload_n 1, 1) := by decide +kernel
theorem dGb_14 : decode jdk_42_method_147_code 14 = .ok (.iload_n 2, 1) := by decide +kernel
theorem dGb_15 : decode jdk_42_method_147_code 15 = .ok (.iload_n 3, 1) := by decide +kernel
theorem dGb_16 : decode jdk_42_method_147_code 16 = .ok (.ishl, 1) := by decide +kernel
theorem dGb_17 : decode jdk_42_method_147_code 17 = .ok (.aload_n 0, 1) := by decide +kernel
theorem dGb_18 : decode jdk_42_method_147_code 18 = .ok (.getfield 9, 3) := by decide +kernel
theorem dGb_21 : decode jdk_42_method_147_code 21 = .ok (.arraylength, 1) := by decide +kernel
theorem dGb_22 : decode jdk_42_method_147_code 22 = .ok (.invokestatic 212, 3) := by decide +kernel
theorem dGb_25 : decode jdk_42_method_147_code 25 = .ok (.goto 18, 3) := by decide +kernel
theorem dGb_43 : decode jdk_42_method_147_code 43 = .ok (.return_, 1) := by decide +kernel
theorem dIf_0 : decode jdk_68_method_71_code 0 = .ok (.getstatic 18, 3) := by decide +kernel
theorem dIf_3 : decode jdk_68_method_71_code 3 = .ok (.ifCond .eq 18, 3) := by decide +kernel
theorem dIf_6 : decode jdk_68_method_71_code 6 = .ok (.aload_n 0, 1) := by decide +kernel
theorem dIf_7 : decode jdk_68_method_71_code 7 = .ok (.getfield 22, 3) := by decide +kernel
theorem dIf_10 : decode jdk_68_method_71_code 10 = .ok (.aload_n 1, 1) := by decide +kernel
theorem dIf_11 : decode jdk_68_method_71_code 11 = .ok (.invokevirtual 40, 3) := by decide +kernel
theorem dIf_14 : decode jdk_68_method_71_code 14 = .ok (.if_icmp .eq 7, 3) := by decide +kernel
theorem dIf_21 : decode jdk_68_method_71_code 21 = .ok (.return_, 1) := by decide +kernel
theorem dPs_0 : decode jdk_68_method_73_code 0 = .ok (.aload_n 0, 1) := by decide +kernel
theorem dPs_1 : decode jdk_68_method_73_code 1 = .ok (.aload_n 2, 1) := by decide +kernel
theorem dPs_2 : decode jdk_68_method_73_code 2 = .ok (.invokevirtual 397, 3) := by decide +kernel
theorem dPs_5 : decode jdk_68_method_73_code 5 = .ok (.aload_n 2, 1) := by decide +kernel
theorem dPs_6 : decode jdk_68_method_73_code 6 = .ok (.aload_n 0, 1) := by decide +kernel
theorem dPs_7 : decode jdk_68_method_73_code 7 = .ok (.getfield 15, 3) := by decide +kernel
theorem dPs_10 : decode jdk_68_method_73_code 10 = .ok (.iload_n 1, 1) := by decide +kernel
theorem dPs_11 : decode jdk_68_method_73_code 11 = .ok (.aload_n 0, 1) := by decide +kernel
theorem dPs_12 : decode jdk_68_method_73_code 12 = .ok (.getfield 22, 3) := by decide +kernel
theorem dPs_15 : decode jdk_68_method_73_code 15 = .ok (.invokevirtual 399, 3) := by decide +kernel
theorem dPs_18 : decode jdk_68_method_73_code 18 = .ok (.return_, 1) := by decide +kernel
theorem dEc_0 : decode jdk_68_method_9_code 0 = .ok (.aload_n 0, 1) := by decide +kernel
theorem dEc_1 : decode jdk_68_method_9_code 1 = .ok (.getfield 15, 3) := by decide +kernel
theorem dEc_4 : decode jdk_68_method_9_code 4 = .ok (.arraylength, 1) := by decide +kernel
theorem dEc_5 : decode jdk_68_method_9_code 5 = .ok (.aload_n 0, 1) := by decide +kernel
theorem dEc_6 : decode jdk_68_method_9_code 6 = .ok (.getfield 22, 3) := by decide +kernel
theorem dEc_9 : decode jdk_68_method_9_code 9 = .ok (.ishr, 1) := by decide +kernel
theorem dEc_10 : decode jdk_68_method_9_code 10 = .ok (.istore_n 2, 1) := by decide +kernel
theorem dEc_11 : decode jdk_68_method_9_code 11 = .ok (.iload_n 1, 1) := by decide +kernel
theorem dEc_12 : decode jdk_68_method_9_code 12 = .ok (.iload_n 2, 1) := by decide +kernel
theorem dEc_13 : decode jdk_68_method_9_code 13 = .ok (.isub, 1) := by decide +kernel
theorem dEc_14 : decode jdk_68_method_9_code 14 = .ok (.ifCond .le 24, 3) := by decide +kernel
theorem dEc_38 : decode jdk_68_method_9_code 38 = .ok (.return_, 1) := by decide +kernel
theorem dAa_0 : decode jdk_68_method_22_code 0 = .ok (.aload_n 1, 1) := by decide +kernel
theorem dAa_1 : decode jdk_68_method_22_code 1 = .ok (.ifnonnull 8, 3) := by decide +kernel
theorem dAa_9 : decode jdk_68_method_22_code 9 = .ok (.aload_n 1, 1) := by decide +kernel
theorem dAa_10 : decode jdk_68_method_22_code 10 = .ok (.invokevirtual 32, 3) := by decide +kernel
theorem dAa_13 : decode jdk_68_method_22_code 13 = .ok (.istore_n 2, 1) := by decide +kernel
theorem dAa_14 : decode jdk_68_method_22_code 14 = .ok (.aload_n 0, 1) := by decide +kernel
theorem dAa_15 : decode jdk_68_method_22_code 15 = .ok (.aload_n 0, 1) := by decide +kernel
theorem dAa_16 : decode jdk_68_method_22_code 16 = .ok (.getfield 79, 3) := by decide +kernel
theorem dAa_19 : decode jdk_68_method_22_code 19 = .ok (.iload_n 2, 1) := by decide +kernel
theorem dAa_20 : decode jdk_68_method_22_code 20 = .ok (.iadd, 1) := by decide +kernel
theorem dAa_21 : decode jdk_68_method_22_code 21 = .ok (.invokevirtual 100, 3) := by decide +kernel
theorem dAa_24 : decode jdk_68_method_22_code 24 = .ok (.aload_n 0, 1) := by decide +kernel
theorem dAa_25 : decode jdk_68_method_22_code 25 = .ok (.aload_n 0, 1) := by decide +kernel
theorem dAa_26 : decode jdk_68_method_22_code 26 = .ok (.getfield 79, 3) := by decide +kernel
theorem dAa_29 : decode jdk_68_method_22_code 29 = .ok (.aload_n 1, 1) := by decide +kernel
theorem dAa_30 : decode jdk_68_method_22_code 30 = .ok (.invokevirtual 208, 3) := by decide +kernel
theorem dAa_33 : decode jdk_68_method_22_code 33 = .ok (.aload_n 0, 1) := by decide +kernel
theorem dAa_34 : decode jdk_68_method_22_code 34 = .ok (.dup, 1) := by decide +kernel
theorem dAa_35 : decode jdk_68_method_22_code 35 = .ok (.getfield 79, 3) := by decide +kernel
theorem dAa_38 : decode jdk_68_method_22_code 38 = .ok (.iload_n 2, 1) := by decide +kernel
theorem dAa_39 : decode jdk_68_method_22_code 39 = .ok (.iadd, 1) := by decide +kernel
theorem dAa_40 : decode jdk_68_method_22_code 40 = .ok (.putfield 79, 3) := by decide +kernel
theorem dAa_43 : decode jdk_68_method_22_code 43 = .ok (.aload_n 0, 1) := by decide +kernel
theorem dAa_44 : decode jdk_68_method_22_code 44 = .ok (.areturn, 1) := by decide +kernel
theorem dSa_0 : decode jdk_67_method_7_code 0 = .ok (.aload_n 0, 1) := by decide +kernel
theorem dSa_1 : decode jdk_67_method_7_code 1 = .ok (.aload_n 1, 1) := by decide +kernel
theorem dSa_2 : decode jdk_67_method_7_code 2 = .ok (.invokespecial 29, 3) := by decide +kernel
theorem dSa_5 : decode jdk_67_method_7_code 5 = .ok (.pop, 1) := by decide +kernel
theorem dSa_6 : decode jdk_67_method_7_code 6 = .ok (.aload_n 0, 1) := by decide +kernel
theorem dSa_7 : decode jdk_67_method_7_code 7 = .ok (.areturn, 1) := by decide +kernel
theorem dGv_0 : decode jdk_68_method_64_code 0 = .ok (.aload_n 0, 1) := by decide +kernel
theorem dGv_1 : decode jdk_68_method_64_code 1 = .ok (.getfield 15, 3) := by decide +kernel
theorem dGv_4 : decode jdk_68_method_64_code 4 = .ok (.areturn, 1) := by decide +kernel
theorem dAl_0 : decode jdk_68_method_6_code 0 = .ok (.aload_n 0, 1) := by decide +kernel
theorem dAl_1 : decode jdk_68_method_6_code 1 = .ok (.getfield 79, 3) := by decide +kernel
theorem dAl_4 : decode jdk_68_method_6_code 4 = .ok (.ireturn, 1) := by decide +kernel
theorem dSl_0 : decode jdk_67_method_93_code 0 = .ok (.aload_n 0, 1) := by decide +kernel
theorem dSl_1 : decode jdk_67_method_93_code 1 = .ok (.invokespecial 343, 3) := by decide +kernel
theorem dSl_4 : decode jdk_67_method_93_code 4 = .ok (.ireturn, 1) := by decide +kernel
theorem dIl_0 : decode jdk_68_method_68_code 0 = .ok (.getstatic 18, 3) := by decide +kernel
theorem dIl_3 : decode jdk_68_method_68_code 3 = .ok (.ifCond .eq 14, 3) := by decide +kernel
theorem dIl_6 : decode jdk_68_method_68_code 6 = .ok (.aload_n 0, 1) := by decide +kernel
theorem dIl_7 : decode jdk_68_method_68_code 7 = .ok (.getfield 22, 3) := by decide +kernel
theorem dIl_10 : decode jdk_68_method_68_code 10 = .ok (.ifCond .ne 7, 3) := by decide +kernel
theorem dIl_13 : decode jdk_68_method_68_code 13 = .ok (.iconst 1, 1) := by decide +kernel
theorem dIl_14 : decode jdk_68_method_68_code 14 = .ok (.goto 4, 3) := by decide +kernel
theorem dIl_18 : decode jdk_68_method_68_code 18 = .ok (.ireturn, 1) := by decide +kernel
theorem dCl_0 : decode jdk_65_method_131_code 0 = .ok (.iload_n 1, 1) := by decide +kernel
theorem dCl_1 : decode jdk_65_method_131_code 1 = .ok (.iload_n 0, 1) := by decide +kernel
theorem dCl_2 : decode jdk_65_method_131_code 2 = .ok (.if_icmp .ge 35, 3) := by decide +kernel
theorem dCl_37 : decode jdk_65_method_131_code 37 = .ok (.return_, 1) := by decide +kernel
theorem dCb_0 : decode jdk_65_method_133_code 0 = .ok (.iload_n 1, 1) := by decide +kernel
theorem dCb_1 : decode jdk_65_method_133_code 1 = .ok (.iload_n 2, 1) := by decide +kernel
theorem dCb_2 : decode jdk_65_method_133_code 2 = .ok (.invokestatic 343, 3) := by decide +kernel
theorem dCb_5 : decode jdk_65_method_133_code 5 = .ok (.iload_n 2, 1) := by decide +kernel
theorem dCb_6 : decode jdk_65_method_133_code 6 = .ok (.iload_n 1, 1) := by decide +kernel
theorem dCb_7 : decode jdk_65_method_133_code 7 = .ok (.isub, 1) := by decide +kernel
theorem dCb_8 : decode jdk_65_method_133_code 8 = .ok (.istore_n 3, 1) := by decide +kernel
theorem dCb_9 : decode jdk_65_method_133_code 9 = .ok (.iload_n 3, 1) := by decide +kernel
theorem dCb_10 : decode jdk_65_method_133_code 10 = .ok (.newarray .byte, 2) := by decide +kernel
theorem dCb_12 : decode jdk_65_method_133_code 12 = .ok (.astore 4, 2) := by decide +kernel
theorem dCb_14 : decode jdk_65_method_133_code 14 = .ok (.aload_n 0, 1) := by decide +kernel
theorem dCb_15 : decode jdk_65_method_133_code 15 = .ok (.iload_n 1, 1) := by decide +kernel
theorem dCb_16 : decode jdk_65_method_133_code 16 = .ok (.aload 4, 2) := by decide +kernel
theorem dCb_18 : decode jdk_65_method_133_code 18 = .ok (.iconst 0, 1) := by decide +kernel
theorem dCb_19 : decode jdk_65_method_133_code 19 = .ok (.aload_n 0, 1) := by decide +kernel
theorem dCb_20 : decode jdk_65_method_133_code 20 = .ok (.arraylength, 1) := by decide +kernel
theorem dCb_21 : decode jdk_65_method_133_code 21 = .ok (.iload_n 1, 1) := by decide +kernel
theorem dCb_22 : decode jdk_65_method_133_code 22 = .ok (.isub, 1) := by decide +kernel
theorem dCb_23 : decode jdk_65_method_133_code 23 = .ok (.iload_n 3, 1) := by decide +kernel
theorem dCb_24 : decode jdk_65_method_133_code 24 = .ok (.invokestatic 304, 3) := by decide +kernel
theorem dCb_27 : decode jdk_65_method_133_code 27 = .ok (.invokestatic 150, 3) := by decide +kernel
theorem dCb_30 : decode jdk_65_method_133_code 30 = .ok (.aload 4, 2) := by decide +kernel
theorem dCb_32 : decode jdk_65_method_133_code 32 = .ok (.areturn, 1) := by decide +kernel
theorem dCr_0 : decode jdk_65_method_132_code 0 = .ok (.iload_n 1, 1) := by decide +kernel
theorem dCr_1 : decode jdk_65_method_132_code 1 = .ok (.ifCond .ne 9, 3) := by decide +kernel
theorem dCr_4 : decode jdk_65_method_132_code 4 = .ok (.iload_n 2, 1) := by decide +kernel
theorem dCr_5 : decode jdk_65_method_132_code 5 = .ok (.aload_n 0, 1) := by decide +kernel
theorem dCr_6 : decode jdk_65_method_132_code 6 = .ok (.arraylength, 1) := by decide +kernel
theorem dCr_7 : decode jdk_65_method_132_code 7 = .ok (.if_icmp .eq 10, 3) := by decide +kernel
theorem dCr_10 : decode jdk_65_method_132_code 10 = .ok (.aload_n 0, 1) := by decide +kernel
theorem dCr_11 : decode jdk_65_method_132_code 11 = .ok (.iload_n 1, 1) := by decide +kernel
theorem dCr_12 : decode jdk_65_method_132_code 12 = .ok (.iload_n 2, 1) := by decide +kernel
theorem dCr_13 : decode jdk_65_method_132_code 13 = .ok (.invokestatic 339, 3) := by decide +kernel
theorem dCr_16 : decode jdk_65_method_132_code 16 = .ok (.areturn, 1) := by decide +kernel
theorem dSb_0 : decode jdk_42_method_150_code 0 = .ok (.aload_n 0, 1) := by decide +kernel
theorem dSb_1 : decode jdk_42_method_150_code 1 = .ok (.invokespecial 1, 3) := by decide +kernel
theorem dSb_4 : decode jdk_42_method_150_code 4 = .ok (.aload_n 1, 1) := by decide +kernel
theorem dSb_5 : decode jdk_42_method_150_code 5 = .ok (.invokevirtual 552, 3) := by decide +kernel
theorem dSb_8 : decode jdk_42_method_150_code 8 = .ok (.astore_n 3, 1) := by decide +kernel
theorem dSb_9 : decode jdk_42_method_150_code 9 = .ok (.aload_n 1, 1) := by decide +kernel
theorem dSb_10 : decode jdk_42_method_150_code 10 = .ok (.invokevirtual 549, 3) := by decide +kernel
theorem dSb_13 : decode jdk_42_method_150_code 13 = .ok (.istore 4, 2) := by decide +kernel
theorem dSb_15 : decode jdk_42_method_150_code 15 = .ok (.aload_n 1, 1) := by decide +kernel
theorem dSb_16 : decode jdk_42_method_150_code 16 = .ok (.invokevirtual 1047, 3) := by decide +kernel
theorem dSb_19 : decode jdk_42_method_150_code 19 = .ok (.ifCond .eq 22, 3) := by decide +kernel
theorem dSb_22 : decode jdk_42_method_150_code 22 = .ok (.aload_n 0, 1) := by decide +kernel
theorem dSb_23 : decode jdk_42_method_150_code 23 = .ok (.iconst 0, 1) := by decide +kernel
theorem dSb_24 : decode jdk_42_method_150_code 24 = .ok (.putfield 15, 3) := by decide +kernel
theorem dSb_27 : decode jdk_42_method_150_code 27 = .ok (.aload_n 0, 1) := by decide +kernel
theorem dSb_28 : decode jdk_42_method_150_code 28 = .ok (.aload_n 3, 1) := by decide +kernel
theorem dSb_29 : decode jdk_42_method_150_code 29 = .ok (.iconst 0, 1) := by decide +kernel
theorem dSb_30 : decode jdk_42_method_150_code 30 = .ok (.iload 4, 2) := by decide +kernel
theorem dSb_32 : decode jdk_42_method_150_code 32 = .ok (.invokestatic 54, 3) := by decide +kernel
theorem dSb_35 : decode jdk_42_method_150_code 35 = .ok (.putfield 9, 3) := by decide +kernel
theorem dSb_38 : decode jdk_42_method_150_code 38 = .ok (.goto 59, 3) := by decide +kernel
theorem dSb_97 : decode jdk_42_method_150_code 97 = .ok (.return_, 1) := by decide +kernel
theorem dSc_0 : decode jdk_42_method_53_code 0 = .ok (.aload_n 0, 1) := by decide +kernel
theorem dSc_1 : decode jdk_42_method_53_code 1 = .ok (.aload_n 1, 1) := by decide +kernel
theorem dSc_2 : decode jdk_42_method_53_code 2 = .ok (.aconst_null, 1) := by decide +kernel
theorem dSc_3 : decode jdk_42_method_53_code 3 = .ok (.invokespecial 489, 3) := by decide +kernel
theorem dSc_6 : decode jdk_42_method_53_code 6 = .ok (.return_, 1) := by decide +kernel
theorem dTs_0 : decode jdk_67_method_42_code 0 = .ok (.new 18, 3) := by decide +kernel
theorem dTs_3 : decode jdk_67_method_42_code 3 = .ok (.dup, 1) := by decide +kernel
theorem dTs_4 : decode jdk_67_method_42_code 4 = .ok (.aload_n 0, 1) := by decide +kernel
theorem dTs_5 : decode jdk_67_method_42_code 5 = .ok (.invokespecial 137, 3) := by decide +kernel
theorem dTs_8 : decode jdk_67_method_42_code 8 = .ok (.areturn, 1) := by decide +kernel
theorem dBr_0 : decode jdk_67_method_80_code 0 = .ok (.aload_n 0, 1) := by decide +kernel
theorem dBr_1 : decode jdk_67_method_80_code 1 = .ok (.aload_n 1, 1) := by decide +kernel
theorem dBr_2 : decode jdk_67_method_80_code 2 = .ok (.invokevirtual 23, 3) := by decide +kernel
theorem dBr_5 : decode jdk_67_method_80_code 5 = .ok (.areturn, 1) := by decide +kernel
theorem dAj_0 : decode jdk_68_method_3_code 0 = .ok (.aload_n 0, 1) := by decide +kernel
theorem dAj_1 : decode jdk_68_method_3_code 1 = .ok (.invokespecial 3, 3) := by decide +kernel
theorem dAj_4 : decode jdk_68_method_3_code 4 = .ok (.aload_n 1, 1) := by decide +kernel
theorem dAj_5 : decode jdk_68_method_3_code 5 = .ok (.invokevirtual 32, 3) := by decide +kernel
theorem dAj_8 : decode jdk_68_method_3_code 8 = .ok (.istore_n 2, 1) := by decide +kernel
theorem dAj_9 : decode jdk_68_method_3_code 9 = .ok (.iload_n 2, 1) := by decide +kernel
theorem dAj_10 : decode jdk_68_method_3_code 10 = .ok (.ldc 38, 2) := by decide +kernel
theorem dAj_12 : decode jdk_68_method_3_code 12 = .ok (.if_icmp .ge 10, 3) := by decide +kernel
theorem dAj_15 : decode jdk_68_method_3_code 15 = .ok (.iload_n 2, 1) := by decide +kernel
theorem dAj_16 : decode jdk_68_method_3_code 16 = .ok (.bipush 16, 2) := by decide +kernel
theorem dAj_18 : decode jdk_68_method_3_code 18 = .ok (.iadd, 1) := by decide +kernel
theorem dAj_19 : decode jdk_68_method_3_code 19 = .ok (.goto 5, 3) := by decide +kernel
theorem dAj_24 : decode jdk_68_method_3_code 24 = .ok (.istore_n 3, 1) := by decide +kernel
theorem dAj_25 : decode jdk_68_method_3_code 25 = .ok (.aload_n 1, 1) := by decide +kernel
theorem dAj_26 : decode jdk_68_method_3_code 26 = .ok (.invokevirtual 40, 3) := by decide +kernel
theorem dAj_29 : decode jdk_68_method_3_code 29 = .ok (.istore 4, 2) := by decide +kernel
theorem dAj_31 : decode jdk_68_method_3_code 31 = .ok (.aload_n 0, 1) := by decide +kernel
theorem dAj_32 : decode jdk_68_method_3_code 32 = .ok (.iload 4, 2) := by decide +kernel
theorem dAj_34 : decode jdk_68_method_3_code 34 = .ok (.putfield 22, 3) := by decide +kernel
theorem dAj_37 : decode jdk_68_method_3_code 37 = .ok (.aload_n 0, 1) := by decide +kernel
theorem dAj_38 : decode jdk_68_method_3_code 38 = .ok (.iload 4, 2) := by decide +kernel
theorem dAj_40 : decode jdk_68_method_3_code 40 = .ok (.ifCond .ne 9, 3) := by decide +kernel
theorem dAj_43 : decode jdk_68_method_3_code 43 = .ok (.iload_n 3, 1) := by decide +kernel
theorem dAj_44 : decode jdk_68_method_3_code 44 = .ok (.newarray .byte, 2) := by decide +kernel
theorem dAj_46 : decode jdk_68_method_3_code 46 = .ok (.goto 7, 3) := by decide +kernel
theorem dAj_53 : decode jdk_68_method_3_code 53 = .ok (.putfield 15, 3) := by decide +kernel
theorem dAj_56 : decode jdk_68_method_3_code 56 = .ok (.aload_n 0, 1) := by decide +kernel
theorem dAj_57 : decode jdk_68_method_3_code 57 = .ok (.aload_n 1, 1) := by decide +kernel
theorem dAj_58 : decode jdk_68_method_3_code 58 = .ok (.invokevirtual 43, 3) := by decide +kernel
theorem dAj_61 : decode jdk_68_method_3_code 61 = .ok (.pop, 1) := by decide +kernel
theorem dAj_62 : decode jdk_68_method_3_code 62 = .ok (.return_, 1) := by decide +kernel
theorem dSj_0 : decode jdk_67_method_3_code 0 = .ok (.aload_n 0, 1) := by decide +kernel
theorem dSj_1 : decode jdk_67_method_3_code 1 = .ok (.aload_n 1, 1) := by decide +kernel
theorem dSj_2 : decode jdk_67_method_3_code 2 = .ok (.invokespecial 7, 3) := by decide +kernel
theorem dSj_5 : decode jdk_67_method_3_code 5 = .ok (.return_, 1) := by decide +kernel
theorem d149_0 : decode jdk_42_method_149_code 0 = .ok (.aload_n 0, 1) := by decide +kernel
theorem d149_1 : decode jdk_42_method_149_code 1 = .ok (.invokespecial 1, 3) := by decide +kernel
theorem d149_4 : decode jdk_42_method_149_code 4 = .ok (.iload_n 3, 1) := by decide +kernel
theorem d149_5 : decode jdk_42_method_149_code 5 = .ok (.ifCond .ne 22, 3) := by decide +kernel
theorem d149_8 : decode jdk_42_method_149_code 8 = .ok (.aload_n 0, 1) := by decide +kernel
theorem d149_9 : decode jdk_42_method_149_code 9 = .ok (.ldc 7, 2) := by decide +kernel
theorem d149_11 : decode jdk_42_method_149_code 11 = .ok (.getfield 9, 3) := by decide +kernel
theorem d149_14 : decode jdk_42_method_149_code 14 = .ok (.putfield 9, 3) := by decide +kernel
theorem d149_17 : decode jdk_42_method_149_code 17 = .ok (.aload_n 0, 1) := by decide +kernel
theorem d149_18 : decode jdk_42_method_149_code 18 = .ok (.ldc 7, 2) := by decide +kernel
theorem d149_20 : decode jdk_42_method_149_code 20 = .ok (.getfield 15, 3) := by decide +kernel
theorem d149_23 : decode jdk_42_method_149_code 23 = .ok (.putfield 15, 3) := by decide +kernel
theorem d149_26 : decode jdk_42_method_149_code 26 = .ok (.return_, 1) := by decide +kernel
theorem d3_0 : decode jdk_42_method_3_code 0 = .ok (.aload_n 0, 1) := by decide +kernel
theorem d3_1 : decode jdk_42_method_3_code 1 = .ok (.aload_n 1, 1) := by decide +kernel
theorem d3_2 : decode jdk_42_method_3_code 2 = .ok (.iconst 0, 1) := by decide +kernel
theorem d3_3 : decode jdk_42_method_3_code 3 = .ok (.aload_n 1, 1) := by decide +kernel
theorem d3_4 : decode jdk_42_method_3_code 4 = .ok (.arraylength, 1) := by decide +kernel
theorem d3_5 : decode jdk_42_method_3_code 5 = .ok (.aconst_null, 1) := by decide +kernel
theorem d3_6 : decode jdk_42_method_3_code 6 = .ok (.invokespecial 27, 3) := by decide +kernel
theorem d3_9 : decode jdk_42_method_3_code 9 = .ok (.return_, 1) := by decide +kernel
theorem dPo_0 : decode jdk_123_method_3_code 0 = .ok (.iload_n 1, 1) := by decide +kernel
theorem dPo_1 : decode jdk_123_method_3_code 1 = .ok (.iload_n 2, 1) := by decide +kernel
theorem dPo_2 : decode jdk_123_method_3_code 2 = .ok (.iadd, 1) := by decide +kernel
theorem dPo_3 : decode jdk_123_method_3_code 3 = .ok (.istore_n 3, 1) := by decide +kernel
theorem dPo_4 : decode jdk_123_method_3_code 4 = .ok (.iload_n 1, 1) := by decide +kernel
theorem dPo_5 : decode jdk_123_method_3_code 5 = .ok (.istore 4, 2) := by decide +kernel
theorem dPo_7 : decode jdk_123_method_3_code 7 = .ok (.iload 4, 2) := by decide +kernel
theorem dPo_9 : decode jdk_123_method_3_code 9 = .ok (.iload_n 3, 1) := by decide +kernel
theorem dPo_10 : decode jdk_123_method_3_code 10 = .ok (.if_icmp .ge 21, 3) := by decide +kernel
theorem dPo_13 : decode jdk_123_method_3_code 13 = .ok (.aload_n 0, 1) := by decide +kernel
theorem dPo_14 : decode jdk_123_method_3_code 14 = .ok (.iload 4, 2) := by decide +kernel
theorem dPo_16 : decode jdk_123_method_3_code 16 = .ok (.baload, 1) := by decide +kernel
theorem dPo_17 : decode jdk_123_method_3_code 17 = .ok (.ifCond .ge 8, 3) := by decide +kernel
theorem dPo_25 : decode jdk_123_method_3_code 25 = .ok (.iinc 4 1, 3) := by decide +kernel
theorem dPo_28 : decode jdk_123_method_3_code 28 = .ok (.goto (-21), 3) := by decide +kernel
theorem dPo_31 : decode jdk_123_method_3_code 31 = .ok (.iload_n 2, 1) := by decide +kernel
theorem dPo_32 : decode jdk_123_method_3_code 32 = .ok (.ireturn, 1) := by decide +kernel
theorem dHn_0 : decode jdk_123_method_2_code 0 = .ok (.aload_n 0, 1) := by decide +kernel
theorem dHn_1 : decode jdk_123_method_2_code 1 = .ok (.iload_n 1, 1) := by decide +kernel
theorem dHn_2 : decode jdk_123_method_2_code 2 = .ok (.iload_n 2, 1) := by decide +kernel
theorem dHn_3 : decode jdk_123_method_2_code 3 = .ok (.invokestatic 7, 3) := by decide +kernel
theorem dHn_6 : decode jdk_123_method_2_code 6 = .ok (.iload_n 2, 1) := by decide +kernel
theorem dHn_7 : decode jdk_123_method_2_code 7 = .ok (.if_icmp .eq 7, 3) := by decide +kernel
theorem dHn_14 : decode jdk_123_method_2_code 14 = .ok (.iconst 0, 1) := by decide +kernel
theorem dHn_15 : decode jdk_123_method_2_code 15 = .ok (.ireturn, 1) := by decide +kernel
theorem dEu_0 : decode jdk_42_method_46_code 0 = .ok (.iload_n 0, 1) := by decide +kernel
theorem dEu_1 : decode jdk_42_method_46_code 1 = .ok (.iconst 1, 1) := by decide +kernel
theorem dEu_2 : decode jdk_42_method_46_code 2 = .ok (.if_icmp .ne 9, 3) := by decide +kernel
theorem dEu_11 : decode jdk_42_method_46_code 11 = .ok (.aload_n 1, 1) := by decide +kernel
theorem dEu_12 : decode jdk_42_method_46_code 12 = .ok (.iconst 0, 1) := by decide +kernel
theorem dEu_13 : decode jdk_42_method_46_code 13 = .ok (.aload_n 1, 1) := by decide +kernel
theorem dEu_14 : decode jdk_42_method_46_code 14 = .ok (.arraylength, 1) := by decide +kernel
theorem dEu_15 : decode jdk_42_method_46_code 15 = .ok (.invokestatic 128, 3) := by decide +kernel
theorem dEu_18 : decode jdk_42_method_46_code 18 = .ok (.ifCond .ne 11, 3) := by decide +kernel
theorem dEu_21 : decode jdk_42_method_46_code 21 = .ok (.aload_n 1, 1) := by decide +kernel
theorem dEu_22 : decode jdk_42_method_46_code 22 = .ok (.invokevirtual 279, 3) := by decide +kernel
theorem dEu_25 : decode jdk_42_method_46_code 25 = .ok (.checkcast 280, 3) := by decide +kernel
theorem dEu_28 : decode jdk_42_method_46_code 28 = .ok (.areturn, 1) := by decide +kernel
theorem dEn_0 : decode jdk_42_method_18_code 0 = .ok (.aload_n 0, 1) := by decide +kernel
theorem dEn_1 : decode jdk_42_method_18_code 1 = .ok (.getstatic 86, 3) := by decide +kernel
theorem dEn_4 : decode jdk_42_method_18_code 4 = .ok (.if_acmp .ne 10, 3) := by decide +kernel
theorem dEn_7 : decode jdk_42_method_18_code 7 = .ok (.iload_n 1, 1) := by decide +kernel
theorem dEn_8 : decode jdk_42_method_18_code 8 = .ok (.aload_n 2, 1) := by decide +kernel
theorem dEn_9 : decode jdk_42_method_18_code 9 = .ok (.iconst 1, 1) := by decide +kernel
theorem dEn_10 : decode jdk_42_method_18_code 10 = .ok (.invokestatic 252, 3) := by decide +kernel
theorem dEn_13 : decode jdk_42_method_18_code 13 = .ok (.areturn, 1) := by decide +kernel
theorem dGc_0 : decode jdk_42_method_64_code 0 = .ok (.aload_n 1, 1) := by decide +kernel
theorem dGc_1 : decode jdk_42_method_64_code 1 = .ok (.ifnonnull 11, 3) := by decide +kernel
theorem dGc_12 : decode jdk_42_method_64_code 12 = .ok (.aload_n 1, 1) := by decide +kernel
theorem dGc_13 : decode jdk_42_method_64_code 13 = .ok (.aload_n 0, 1) := by decide +kernel
theorem dGc_14 : decode jdk_42_method_64_code 14 = .ok (.invokevirtual 335, 3) := by decide +kernel
theorem dGc_17 : decode jdk_42_method_64_code 17 = .ok (.aload_n 0, 1) := by decide +kernel
theorem dGc_18 : decode jdk_42_method_64_code 18 = .ok (.getfield 9, 3) := by decide +kernel
theorem dGc_21 : decode jdk_42_method_64_code 21 = .ok (.invokestatic 535, 3) := by decide +kernel
theorem dGc_24 : decode jdk_42_method_64_code 24 = .ok (.areturn, 1) := by decide +kernel
theorem dBy_0 : decode prog_22_method_8_code 0 = .ok (.aload_n 0, 1) := by decide +kernel
theorem dBy_1 : decode prog_22_method_8_code 1 = .ok (.getfield 14, 3) := by decide +kernel
theorem dBy_4 : decode prog_22_method_8_code 4 = .ok (.invokevirtual 48, 3) := by decide +kernel
theorem dBy_7 : decode prog_22_method_8_code 7 = .ok (.getstatic 52, 3) := by decide +kernel
theorem dBy_10 : decode prog_22_method_8_code 10 = .ok (.invokevirtual 58, 3) := by decide +kernel
theorem dBy_13 : decode prog_22_method_8_code 13 = .ok (.areturn, 1) := by decide +kernel
theorem dHi_0 : decode prog_22_method_1_code 0 = .ok (.aload_n 0, 1) := by decide +kernel
theorem dHi_1 : decode prog_22_method_1_code 1 = .ok (.invokespecial 1, 3) := by decide +kernel
theorem dHi_4 : decode prog_22_method_1_code 4 = .ok (.aload_n 0, 1) := by decide +kernel
theorem dHi_5 : decode prog_22_method_1_code 5 = .ok (.new 7, 3) := by decide +kernel
theorem dHi_8 : decode prog_22_method_1_code 8 = .ok (.dup, 1) := by decide +kernel
theorem dHi_9 : decode prog_22_method_1_code 9 = .ok (.ldc 9, 2) := by decide +kernel
theorem dHi_11 : decode prog_22_method_1_code 11 = .ok (.invokespecial 11, 3) := by decide +kernel
theorem dHi_14 : decode prog_22_method_1_code 14 = .ok (.putfield 14, 3) := by decide +kernel
theorem dHi_17 : decode prog_22_method_1_code 17 = .ok (.return_, 1) := by decide +kernel
theorem dHc_0 : decode prog_22_method_4_code 0 = .ok (.aload_n 0, 1) := by decide +kernel
theorem dHc_1 : decode prog_22_method_4_code 1 = .ok (.getfield 14, 3) := by decide +kernel
theorem dHc_4 : decode prog_22_method_4_code 4 = .ok (.ldc 34, 2) := by decide +kernel
theorem dHc_6 : decode prog_22_method_4_code 6 = .ok (.invokevirtual 24, 3) := by decide +kernel
theorem dHc_9 : decode prog_22_method_4_code 9 = .ok (.aload_n 1, 1) := by decide +kernel
theorem dHc_10 : decode prog_22_method_4_code 10 = .ok (.invokevirtual 24, 3) := by decide +kernel
theorem dHc_13 : decode prog_22_method_4_code 13 = .ok (.ldc 36, 2) := by decide +kernel
theorem dHc_15 : decode prog_22_method_4_code 15 = .ok (.invokevirtual 24, 3) := by decide +kernel
theorem dHc_18 : decode prog_22_method_4_code 18 = .ok (.pop, 1) := by decide +kernel
theorem dHc_19 : decode prog_22_method_4_code 19 = .ok (.aload_n 0, 1) := by decide +kernel
theorem dHc_20 : decode prog_22_method_4_code 20 = .ok (.areturn, 1) := by decide +kernel
theorem dNm_0 : decode method_3_code 0 = .ok (.iload_n 0, 1) := by decide +kernel
theorem dNm_1 : decode method_3_code 1 = .ok (.iconst 3, 1) := by decide +kernel
theorem dNm_2 : decode method_3_code 2 = .ok (.iand, 1) := by decide +kernel
theorem dNm_3 : decode method_3_code 3 = .ok (.istore_n 2, 1) := by decide +kernel
theorem dNm_4 : decode method_3_code 4 = .ok (.iload_n 2, 1) := by decide +kernel
theorem dNm_5 : decode method_3_code 5 = .ok (.newarray .char, 2) := by decide +kernel
theorem dNm_7 : decode method_3_code 7 = .ok (.astore_n 3, 1) := by decide +kernel
theorem dNm_8 : decode method_3_code 8 = .ok (.iload_n 2, 1) := by decide +kernel
theorem dNm_9 : decode method_3_code 9 = .ok (.ifCond .le 11, 3) := by decide +kernel
theorem dNm_12 : decode method_3_code 12 = .ok (.aload_n 3, 1) := by decide +kernel
theorem dNm_13 : decode method_3_code 13 = .ok (.iconst 0, 1) := by decide +kernel
theorem dNm_14 : decode method_3_code 14 = .ok (.iload_n 1, 1) := by decide +kernel
theorem dNm_15 : decode method_3_code 15 = .ok (.bipush 127, 2) := by decide +kernel
theorem dNm_17 : decode method_3_code 17 = .ok (.iand, 1) := by decide +kernel
theorem dNm_18 : decode method_3_code 18 = .ok (.i2c, 1) := by decide +kernel
theorem dNm_19 : decode method_3_code 19 = .ok (.castore, 1) := by decide +kernel
theorem dNm_20 : decode method_3_code 20 = .ok (.iload_n 2, 1) := by decide +kernel
theorem dNm_21 : decode method_3_code 21 = .ok (.iconst 1, 1) := by decide +kernel
theorem dNm_22 : decode method_3_code 22 = .ok (.if_icmp .le 14, 3) := by decide +kernel
theorem dNm_25 : decode method_3_code 25 = .ok (.aload_n 3, 1) := by decide +kernel
theorem dNm_26 : decode method_3_code 26 = .ok (.iconst 1, 1) := by decide +kernel
theorem dNm_27 : decode method_3_code 27 = .ok (.iload_n 1, 1) := by decide +kernel
theorem dNm_28 : decode method_3_code 28 = .ok (.bipush 8, 2) := by decide +kernel
theorem dNm_30 : decode method_3_code 30 = .ok (.iushr, 1) := by decide +kernel
theorem dNm_31 : decode method_3_code 31 = .ok (.bipush 127, 2) := by decide +kernel
theorem dNm_33 : decode method_3_code 33 = .ok (.iand, 1) := by decide +kernel
theorem dNm_34 : decode method_3_code 34 = .ok (.i2c, 1) := by decide +kernel
theorem dNm_35 : decode method_3_code 35 = .ok (.castore, 1) := by decide +kernel
theorem dNm_36 : decode method_3_code 36 = .ok (.iload_n 2, 1) := by decide +kernel
theorem dNm_37 : decode method_3_code 37 = .ok (.iconst 2, 1) := by decide +kernel
theorem dNm_38 : decode method_3_code 38 = .ok (.if_icmp .le 14, 3) := by decide +kernel
theorem dNm_41 : decode method_3_code 41 = .ok (.aload_n 3, 1) := by decide +kernel
theorem dNm_42 : decode method_3_code 42 = .ok (.iconst 2, 1) := by decide +kernel
theorem dNm_43 : decode method_3_code 43 = .ok (.iload_n 1, 1) := by decide +kernel
theorem dNm_44 : decode method_3_code 44 = .ok (.bipush 16, 2) := by decide +kernel
theorem dNm_46 : decode method_3_code 46 = .ok (.iushr, 1) := by decide +kernel
theorem dNm_47 : decode method_3_code 47 = .ok (.bipush 127, 2) := by decide +kernel
theorem dNm_49 : decode method_3_code 49 = .ok (.iand, 1) := by decide +kernel
theorem dNm_50 : decode method_3_code 50 = .ok (.i2c, 1) := by decide +kernel
theorem dNm_51 : decode method_3_code 51 = .ok (.castore, 1) := by decide +kernel
theorem dNm_52 : decode method_3_code 52 = .ok (.aload_n 3, 1) := by decide +kernel
theorem dNm_53 : decode method_3_code 53 = .ok (.areturn, 1) := by decide +kernel
theorem dTl_0 : decode method_4_code 0 = .ok (.aload_n 2, 1) := by decide +kernel
theorem dTl_1 : decode method_4_code 1 = .ok (.arraylength, 1) := by decide +kernel
theorem dTl_2 : decode method_4_code 2 = .ok (.istore_n 3, 1) := by decide +kernel
theorem dTl_3 : decode method_4_code 3 = .ok (.aload_n 0, 1) := by decide +kernel
theorem dTl_4 : decode method_4_code 4 = .ok (.iload_n 1, 1) := by decide +kernel
theorem dTl_5 : decode method_4_code 5 = .ok (.baload, 1) := by decide +kernel
theorem dTl_6 : decode method_4_code 6 = .ok (.bipush 60, 2) := by decide +kernel
theorem dTl_8 : decode method_4_code 8 = .ok (.if_icmp .ne 13, 3) := by decide +kernel
theorem dTl_11 : decode method_4_code 11 = .ok (.aload_n 0, 1) := by decide +kernel
theorem dTl_12 : decode method_4_code 12 = .ok (.iload_n 1, 1) := by decide +kernel
theorem dTl_13 : decode method_4_code 13 = .ok (.iconst 1, 1) := by decide +kernel
theorem dTl_14 : decode method_4_code 14 = .ok (.iadd, 1) := by decide +kernel
theorem dTl_15 : decode method_4_code 15 = .ok (.baload, 1) := by decide +kernel
theorem dTl_16 : decode method_4_code 16 = .ok (.bipush 47, 2) := by decide +kernel
theorem dTl_18 : decode method_4_code 18 = .ok (.if_icmp .eq 5, 3) := by decide +kernel
theorem dTl_23 : decode method_4_code 23 = .ok (.iload_n 3, 1) := by decide +kernel
theorem dTl_24 : decode method_4_code 24 = .ok (.ifCond .le 16, 3) := by decide +kernel
theorem dTl_27 : decode method_4_code 27 = .ok (.aload_n 0, 1) := by decide +kernel
theorem dTl_28 : decode method_4_code 28 = .ok (.iload_n 1, 1) := by decide +kernel
theorem dTl_29 : decode method_4_code 29 = .ok (.iconst 2, 1) := by decide +kernel
theorem dTl_30 : decode method_4_code 30 = .ok (.iadd, 1) := by decide +kernel
theorem dTl_31 : decode method_4_code 31 = .ok (.baload, 1) := by decide +kernel
theorem dTl_32 : decode method_4_code 32 = .ok (.aload_n 2, 1) := by decide +kernel
theorem dTl_33 : decode method_4_code 33 = .ok (.iconst 0, 1) := by decide +kernel
theorem dTl_34 : decode method_4_code 34 = .ok (.caload, 1) := by decide +kernel
theorem dTl_35 : decode method_4_code 35 = .ok (.if_icmp .eq 5, 3) := by decide +kernel
theorem dTl_40 : decode method_4_code 40 = .ok (.iload_n 3, 1) := by decide +kernel
theorem dTl_41 : decode method_4_code 41 = .ok (.iconst 1, 1) := by decide +kernel
theorem dTl_42 : decode method_4_code 42 = .ok (.if_icmp .le 16, 3) := by decide +kernel
theorem dTl_45 : decode method_4_code 45 = .ok (.aload_n 0, 1) := by decide +kernel
theorem dTl_46 : decode method_4_code 46 = .ok (.iload_n 1, 1) := by decide +kernel
theorem dTl_47 : decode method_4_code 47 = .ok (.iconst 3, 1) := by decide +kernel
theorem dTl_48 : decode method_4_code 48 = .ok (.iadd, 1) := by decide +kernel
theorem dTl_49 : decode method_4_code 49 = .ok (.baload, 1) := by decide +kernel
theorem dTl_50 : decode method_4_code 50 = .ok (.aload_n 2, 1) := by decide +kernel
theorem dTl_51 : decode method_4_code 51 = .ok (.iconst 1, 1) := by decide +kernel
theorem dTl_52 : decode method_4_code 52 = .ok (.caload, 1) := by decide +kernel
theorem dTl_53 : decode method_4_code 53 = .ok (.if_icmp .eq 5, 3) := by decide +kernel
theorem dTl_58 : decode method_4_code 58 = .ok (.iload_n 3, 1) := by decide +kernel
theorem dTl_59 : decode method_4_code 59 = .ok (.iconst 2, 1) := by decide +kernel
theorem dTl_60 : decode method_4_code 60 = .ok (.if_icmp .le 16, 3) := by decide +kernel
theorem dTl_63 : decode method_4_code 63 = .ok (.aload_n 0, 1) := by decide +kernel
theorem dTl_64 : decode method_4_code 64 = .ok (.iload_n 1, 1) := by decide +kernel
theorem dTl_65 : decode method_4_code 65 = .ok (.iconst 4, 1) := by decide +kernel
theorem dTl_66 : decode method_4_code 66 = .ok (.iadd, 1) := by decide +kernel
theorem dTl_67 : decode method_4_code 67 = .ok (.baload, 1) := by decide +kernel
theorem dTl_68 : decode method_4_code 68 = .ok (.aload_n 2, 1) := by decide +kernel
theorem dTl_69 : decode method_4_code 69 = .ok (.iconst 2, 1) := by decide +kernel
theorem dTl_70 : decode method_4_code 70 = .ok (.caload, 1) := by decide +kernel
theorem dTl_71 : decode method_4_code 71 = .ok (.if_icmp .eq 5, 3) := by decide +kernel
theorem dTl_76 : decode method_4_code 76 = .ok (.iload_n 1, 1) := by decide +kernel
theorem dTl_77 : decode method_4_code 77 = .ok (.iconst 2, 1) := by decide +kernel
theorem dTl_78 : decode method_4_code 78 = .ok (.iadd, 1) := by decide +kernel
theorem dTl_79 : decode method_4_code 79 = .ok (.iload_n 3, 1) := by decide +kernel
theorem dTl_80 : decode method_4_code 80 = .ok (.iadd, 1) := by decide +kernel
theorem dTl_81 : decode method_4_code 81 = .ok (.istore 4, 2) := by decide +kernel
theorem dTl_83 : decode method_4_code 83 = .ok (.aload_n 0, 1) := by decide +kernel
theorem dTl_84 : decode method_4_code 84 = .ok (.iload 4, 2) := by decide +kernel
theorem dTl_86 : decode method_4_code 86 = .ok (.baload, 1) := by decide +kernel
theorem dTl_87 : decode method_4_code 87 = .ok (.bipush 62, 2) := by decide +kernel
theorem dTl_89 : decode method_4_code 89 = .ok (.if_icmp .ne 18, 3) := by decide +kernel
theorem dTl_92 : decode method_4_code 92 = .ok (.aload_n 0, 1) := by decide +kernel
theorem dTl_93 : decode method_4_code 93 = .ok (.iload 4, 2) := by decide +kernel
theorem dTl_95 : decode method_4_code 95 = .ok (.iconst 1, 1) := by decide +kernel
theorem dTl_96 : decode method_4_code 96 = .ok (.iadd, 1) := by decide +kernel
theorem dTl_97 : decode method_4_code 97 = .ok (.baload, 1) := by decide +kernel
theorem dTl_98 : decode method_4_code 98 = .ok (.bipush 10, 2) := by decide +kernel
theorem dTl_100 : decode method_4_code 100 = .ok (.if_icmp .ne 7, 3) := by decide +kernel
theorem dTl_103 : decode method_4_code 103 = .ok (.iconst 1, 1) := by decide +kernel
theorem dTl_104 : decode method_4_code 104 = .ok (.goto 4, 3) := by decide +kernel
theorem dTl_108 : decode method_4_code 108 = .ok (.ireturn, 1) := by decide +kernel
theorem pn0 : plainName "com/example/waybill/waybill/board/Html" = true := by first | (simp [plainName, overriddenIn]; done) | decide +kernel
theorem pn1 : plainName "com/example/waybill/waybill/board/HtmlClosePinLaw" = true := by first | (simp [plainName, overriddenIn]; done) | decide +kernel
theorem pd0 : parseMethodDescriptor "()B" = some ⟨[], some .byte⟩ := by decide +kernel
theorem pd1 : parseMethodDescriptor "(Ljava/lang/String;)V" = some ⟨[(.object "java/lang/String")], none⟩ := by decide +kernel
theorem pd2 : parseMethodDescriptor "([BIB)V" = some ⟨[(.array .byte), .int, .byte], none⟩ := by decide +kernel
theorem pd3 : parseMethodDescriptor "()I" = some ⟨[], some .int⟩ := by decide +kernel
theorem pd4 : parseMethodDescriptor "(I)V" = some ⟨[.int], none⟩ := by decide +kernel
theorem pd5 : parseMethodDescriptor "(ILjava/lang/String;)V" = some ⟨[.int, (.object "java/lang/String")], none⟩ := by decide +kernel
theorem pd6 : parseMethodDescriptor "(Ljava/lang/String;)Ljava/lang/AbstractStringBuilder;" = some ⟨[(.object "java/lang/String")], some (.object "java/lang/AbstractStringBuilder")⟩ := by decide +kernel
theorem pd7 : parseMethodDescriptor "(II)V" = some ⟨[.int, .int], none⟩ := by decide +kernel
theorem pd8 : parseMethodDescriptor "(II)I" = some ⟨[.int, .int], some .int⟩ := by decide +kernel
theorem pd9 : parseMethodDescriptor "([BII)[B" = some ⟨[(.array .byte), .int, .int], some (.array .byte)⟩ := by decide +kernel
theorem pd10 : parseMethodDescriptor "()[B" = some ⟨[], some (.array .byte)⟩ := by decide +kernel
theorem pd11 : parseMethodDescriptor "()Z" = some ⟨[], some .boolean⟩ := by decide +kernel
theorem pd12 : parseMethodDescriptor "(Ljava/lang/AbstractStringBuilder;Ljava/lang/Void;)V" = some ⟨[(.object "java/lang/AbstractStringBuilder"), (.object "java/lang/Void")], none⟩ := by decide +kernel
theorem pd13 : parseMethodDescriptor "(Ljava/lang/StringBuilder;)V" = some ⟨[(.object "java/lang/StringBuilder")], none⟩ := by decide +kernel
theorem pd14 : parseMethodDescriptor "(Ljava/lang/String;)Ljava/lang/StringBuilder;" = some ⟨[(.object "java/lang/String")], some (.object "java/lang/StringBuilder")⟩ := by decide +kernel
theorem pd15 : parseMethodDescriptor "([CIILjava/lang/Void;)V" = some ⟨[(.array .char), .int, .int, (.object "java/lang/Void")], none⟩ := by decide +kernel
theorem pd16 : parseMethodDescriptor "([BII)I" = some ⟨[(.array .byte), .int, .int], some .int⟩ := by decide +kernel
theorem pd17 : parseMethodDescriptor "([BII)Z" = some ⟨[(.array .byte), .int, .int], some .boolean⟩ := by decide +kernel
theorem pd18 : parseMethodDescriptor "(B[BZ)[B" = some ⟨[.byte, (.array .byte), .boolean], some (.array .byte)⟩ := by decide +kernel
theorem pd19 : parseMethodDescriptor "(Ljava/nio/charset/Charset;B[B)[B" = some ⟨[(.object "java/nio/charset/Charset"), .byte, (.array .byte)], some (.array .byte)⟩ := by decide +kernel
theorem pd20 : parseMethodDescriptor "()Ljava/lang/String;" = some ⟨[], some (.object "java/lang/String")⟩ := by decide +kernel
theorem pd21 : parseMethodDescriptor "(Ljava/nio/charset/Charset;)[B" = some ⟨[(.object "java/nio/charset/Charset")], some (.array .byte)⟩ := by decide +kernel
theorem pd22 : parseMethodDescriptor "(II)[C" = some ⟨[.int, .int], some (.array .char)⟩ := by decide +kernel
theorem pd23 : parseMethodDescriptor "([C)V" = some ⟨[(.array .char)], none⟩ := by decide +kernel
theorem pd24 : parseMethodDescriptor "()V" = some ⟨[], none⟩ := by decide +kernel
theorem pd25 : parseMethodDescriptor "(Ljava/lang/String;)Lcom/example/waybill/waybill/board/Html;" = some ⟨[(.object "java/lang/String")], some (.object "com/example/waybill/waybill/board/Html")⟩ := by decide +kernel
theorem pd26 : parseMethodDescriptor "([BI[C)Z" = some ⟨[(.array .byte), .int, (.array .char)], some .boolean⟩ := by decide +kernel
theorem own_wS {a0 : Array Value} {Z : State} (hw : ∀ d ∈ tables_1, d.before a0 Z = true) : ∀ d ∈ Bundle.stringAtoms, d.before a0 Z = true := by
  intro d hd
  simp only [Bundle.stringAtoms, List.mem_cons, List.not_mem_nil, or_false] at hd
  rcases hd with rfl | rfl | rfl | rfl | rfl | rfl | rfl
  · exact hw _ (List.mem_of_getElem? (i := 7) rfl)
  · exact hw _ (List.mem_of_getElem? (i := 6) rfl)
  · exact hw _ (List.mem_of_getElem? (i := 19) rfl)
  · exact hw _ (List.mem_of_getElem? (i := 20) rfl)
  · exact hw _ (List.mem_of_getElem? (i := 21) rfl)
  · exact hw _ (List.mem_of_getElem? (i := 22) rfl)
  · exact hw _ (List.mem_of_getElem? (i := 23) rfl)
theorem own_EW {a0 : Array Value} {Z : State} (hw : ∀ d ∈ tables_1, d.before a0 Z = true) : EW Z a0 consts_1 := (EW.cons (hw _ (List.mem_of_getElem? (i := 47) rfl)) (by decide +kernel) (EW.cons (hw _ (List.mem_of_getElem? (i := 122) rfl)) (by decide +kernel) (EW.cons (hw _ (List.mem_of_getElem? (i := 124) rfl)) (by decide +kernel) (EW.cons (hw _ (List.mem_of_getElem? (i := 18) rfl)) (by decide +kernel) EW.nil))))
theorem own_EWcons {Z : State} {a0 : Array Value} {EL : List (String × Nat)} {own text : String} {index N : Nat} (w : (Cond.stringLink own index text).before a0 Z = true) (ht : ∀ c ∈ text.toList, c.toNat < 256) (hl : text.toList.length < N) (E : ∀ p ∈ EL, ∃ text : String, (Cond.stringLink p.1 p.2 text).before a0 Z = true ∧ (∀ c ∈ text.toList, c.toNat < 256) ∧ text.toList.length < N) : ∀ p ∈ (own, index) :: EL, ∃ text : String, (Cond.stringLink p.1 p.2 text).before a0 Z = true ∧ (∀ c ∈ text.toList, c.toNat < 256) ∧ text.toList.length < N := fun p hp => by
  rcases List.mem_cons.mp hp with rfl | hp
  · exact ⟨text, w, ht, hl⟩
  · exact E p hp
theorem own_EWL {a0 : Array Value} {Z : State} (hw : ∀ d ∈ tables_1, d.before a0 Z = true) : ∀ p ∈ consts_1, ∃ text : String, (Cond.stringLink p.1 p.2 text).before a0 Z = true ∧ (∀ c ∈ text.toList, c.toNat < 256) ∧ text.toList.length < 32 := (own_EWcons (hw _ (List.mem_of_getElem? (i := 47) rfl)) (by decide +kernel) (by decide +kernel) (own_EWcons (hw _ (List.mem_of_getElem? (i := 122) rfl)) (by decide +kernel) (by decide +kernel) (own_EWcons (hw _ (List.mem_of_getElem? (i := 124) rfl)) (by decide +kernel) (by decide +kernel) (own_EWcons (hw _ (List.mem_of_getElem? (i := 18) rfl)) (by decide +kernel) (by decide +kernel) (fun p hp => by cases hp)))))
theorem own_nar (y : Int32) : nar .char ((y &&& (255 : Int32)).toUInt32.toUInt16.toUInt32.toInt32) = y &&& 255 := by
  rw [i2c_mask]; show (y &&& 255).toUInt32.toUInt16.toUInt32.toInt32 = _; exact i2c_mask y
theorem own_m255 (y : Int32) : ¬ (y &&& (255 : Int32)) < 0 ∧ ¬ (255 : Int32) < (y &&& (255 : Int32)) := by
  have e1 : (y &&& 255).toInt = y.toInt % 2 ^ 8 := Jvm.Kit.i32_mask y 255 (k := 8) (by decide) (by decide)
  rw [Int32.lt_iff_toInt_lt, Int32.lt_iff_toInt_lt, e1, show (0 : Int32).toInt = 0 from rfl, show (255 : Int32).toInt = 255 from rfl]; omega
theorem own_nar8 (c : Int32) : nar .byte (c.toInt8.toInt32) = c.toInt8.toInt32 := by
  show c.toInt8.toInt32.toInt8.toInt32 = _
  rw [Int8.toInt8_toInt32]
theorem own_m3 (y : Int32) : (y &&& (3 : Int32)) = 0 ∨ (y &&& (3 : Int32)) = 1 ∨ (y &&& (3 : Int32)) = 2 ∨ (y &&& (3 : Int32)) = 3 := by
  have e1 : (y &&& 3).toInt = y.toInt % 2 ^ 2 := Jvm.Kit.i32_mask y 3 (k := 2) (by decide) (by decide)
  simp only [← Int32.toInt_inj, e1, show (0 : Int32).toInt = 0 from rfl, show (1 : Int32).toInt = 1 from rfl, show (2 : Int32).toInt = 2 from rfl, show (3 : Int32).toInt = 3 from rfl]; omega
theorem own_m127 (y : Int32) : ¬ (y &&& (127 : Int32)) < 0 ∧ ¬ (127 : Int32) < (y &&& (127 : Int32)) := by
  have e1 : (y &&& 127).toInt = y.toInt % 2 ^ 7 := Jvm.Kit.i32_mask y 127 (k := 7) (by decide) (by decide)
  rw [Int32.lt_iff_toInt_lt, Int32.lt_iff_toInt_lt, e1, show (0 : Int32).toInt = 0 from rfl, show (127 : Int32).toInt = 127 from rfl]; omega
theorem own_nar7 (y : Int32) : nar .char ((y &&& (127 : Int32)).toUInt32.toUInt16.toUInt32.toInt32) = y &&& 127 := by
  rw [show y &&& (127 : Int32) = (y &&& 127) &&& 255 by rw [Int32.and_assoc]; rfl]; exact own_nar _

abbrev own_ST : String := "java/lang/String"
/-- r is a String of the chars cs (each 0 to 255), its bytes at t -/
def own_Str (Z : State) (h : Heap) (r t : Addr) (cs : List Int32) : Prop := Exa Z h r own_ST ∧ Fld Z h r own_ST "coder" "B" (.int 0) ∧ Fld Z h r own_ST "value" "[B" (.ref t) ∧ (∃ k, Arv Z h t k .byte (Int32.ofNat cs.length) ((cs.map fun c => c.toInt8.toInt32).map Value.int) (.int 0)) ∧ (∀ c ∈ cs, ¬ c < 0 ∧ ¬ (255 : Int32) < c) ∧ cs.length ≤ 4000
theorem own_Str.ext {Z : State} {h h' : Heap} {r t : Addr} {cs : List Int32} (S : own_Str Z h r t cs) (E : Ext h h') : own_Str Z h' r t cs := by
  obtain ⟨a, b, c, ⟨k, d⟩, e⟩ := S
  exact ⟨a.ext E, b.ext E, c.ext E, ⟨k, d.ext E⟩, e⟩
theorem own_Str.keep {Z : State} {h h' : Heap} {r t : Addr} {cs : List Int32} {ws : List Addr} (S : own_Str Z h r t cs) (K : Keep h h' ws) (h1 : r ∉ ws) (h2 : t ∉ ws) : own_Str Z h' r t cs := by
  obtain ⟨a, b, c, ⟨k, d⟩, e⟩ := S
  exact ⟨a.keep K, b.keep K h1, c.keep K h1, ⟨k, d.keep K h2⟩, e⟩
theorem own_Str.keep0 {Z : State} {h h' : Heap} {r t : Addr} {cs : List Int32} (S : own_Str Z h r t cs) (K : Keep h h' []) : own_Str Z h' r t cs := S.keep K (fun q => by cases q) (fun q => by cases q)
theorem own_Str.keep1 {Z : State} {h h' : Heap} {r t o : Addr} {cs : List Int32} {C : String} {n : Nat} {a0 : Array Value} (S : own_Str Z h r t cs) (K : Keep h h' [o]) (E : Exa Z h o C) (hC : C ≠ own_ST) (w : (Cond.instantiable C n).before a0 Z = true) : own_Str Z h' r t cs := by
  obtain ⟨a, b, c, ⟨k, d⟩, e⟩ := S
  have h1 : o ≠ r := E.ne a hC
  have h2 : o ≠ t := E.neArv d w
  exact own_Str.keep ⟨a, b, c, ⟨k, d⟩, e⟩ K (fun q => h1 (List.mem_singleton.mp q).symm) (fun q => h2 (List.mem_singleton.mp q).symm)
theorem own_Str.cod {Z : State} {h : Heap} {r t : Addr} {cs : List Int32} (S : own_Str Z h r t cs) : StrChars.Road.CodA cs 0 (Int32.ofNat cs.length) ((cs.map fun c => c.toInt8.toInt32).map Value.int) := StrChars.Road.codOf rfl fun c hc => (S.2.2.2.2.1 c hc).2
theorem own_Str.wide {Z : State} {h : Heap} {r t : Addr} {cs : List Int32} (S : own_Str Z h r t cs) : ∀ c ∈ cs, ¬ c < 0 ∧ ¬ (65535 : Int32) < c := fun c hc => by
  have h1 := (S.2.2.2.2.1 c hc).1
  have h2 := (S.2.2.2.2.1 c hc).2
  refine ⟨h1, fun q => h2 ?_⟩
  rw [Int32.lt_iff_toInt_lt] at *
  have e1 : (65535 : Int32).toInt = 65535 := rfl
  have e2 : (255 : Int32).toInt = 255 := rfl
  omega

abbrev own_SBN : String := "java/lang/StringBuilder"
abbrev own_ASB : String := "java/lang/AbstractStringBuilder"
abbrev own_by (cs : List Int32) : List Value := (cs.map fun c => c.toInt8.toInt32).map Value.int
/-- b is a StringBuilder of the chars cs over the byte[] t of cap places -/
def own_SB (Z : State) (h : Heap) (b t : Addr) (cap : Nat) (cs : List Int32) : Prop := Exa Z h b own_SBN ∧ Fld Z h b own_ASB "coder" "B" (.int 0) ∧ Fld Z h b own_ASB "count" "I" (.int (Int32.ofNat cs.length)) ∧ Fld Z h b own_ASB "value" "[B" (.ref t) ∧ (∃ k, Arv Z h t k .byte (Int32.ofNat cap) (own_by cs) (.int 0) ∧ Exa Z h t "[B") ∧ (∀ c ∈ cs, ¬ c < 0 ∧ ¬ (255 : Int32) < c) ∧ cs.length ≤ cap ∧ cap ≤ 1000
theorem own_SB.ext {Z : State} {h h' : Heap} {b t : Addr} {cap : Nat} {cs : List Int32} (S : own_SB Z h b t cap cs) (E : Ext h h') : own_SB Z h' b t cap cs := by
  obtain ⟨a1, a2, a3, a4, ⟨k, a5, a7⟩, a6⟩ := S
  exact ⟨a1.ext E, a2.ext E, a3.ext E, a4.ext E, ⟨k, a5.ext E, a7.ext E⟩, a6⟩
theorem own_SB.keep0 {Z : State} {h h' : Heap} {b t : Addr} {cap : Nat} {cs : List Int32} (S : own_SB Z h b t cap cs) (K : Keep h h' []) : own_SB Z h' b t cap cs := by
  obtain ⟨a1, a2, a3, a4, ⟨k, a5, a7⟩, a6⟩ := S
  exact ⟨a1.keep K, a2.keep K (fun q => by cases q), a3.keep K (fun q => by cases q), a4.keep K (fun q => by cases q), ⟨k, a5.keep K (fun q => by cases q), a7.keep K⟩, a6⟩
theorem own_SB.keep {Z : State} {h h' : Heap} {b t : Addr} {cap : Nat} {cs : List Int32} {ws : List Addr} (S : own_SB Z h b t cap cs) (K : Keep h h' ws) (h1 : b ∉ ws) (h2 : t ∉ ws) : own_SB Z h' b t cap cs := by
  obtain ⟨a1, a2, a3, a4, ⟨k, a5, a7⟩, a6⟩ := S
  exact ⟨a1.keep K, a2.keep K h1, a3.keep K h1, a4.keep K h1, ⟨k, a5.keep K h2, a7.keep K⟩, a6⟩
theorem own_Kmono {h h' : Heap} {ws ws' : List Addr} (K : Keep h h' ws) (q : ∀ x ∈ ws, x ∈ ws') : Keep h h' ws' := ⟨K.1, fun x c a r => K.2.1 x c a (fun z => r (q x z)), K.2.2⟩
theorem own_i32 {n : Nat} (h : n ≤ 2000) : (Int32.ofNat n).toInt = (n : Int) := Int32.toInt_ofNat_of_lt (by omega)
theorem own_nat {n : Nat} (h : n ≤ 2000) : (Int32.ofNat n).toNatClampNeg = n := by
  show (Int32.ofNat n).toInt.toNat = n
  rw [own_i32 h]; omega
theorem own_nn {n : Nat} (h : n ≤ 2000) : ¬ Int32.ofNat n < 0 := by
  rw [Int32.lt_iff_toInt_lt, own_i32 h, show (0 : Int32).toInt = 0 from rfl]; omega
theorem own_addn {a b : Nat} (h : a + b ≤ 2000) : Int32.ofNat a + Int32.ofNat b = Int32.ofNat (a + b) := by
  rw [← Int32.toInt_inj, Jvm.Kit.i32_add (by rw [own_i32 (by omega), own_i32 (by omega)]; omega) (by rw [own_i32 (by omega), own_i32 (by omega)]; omega), own_i32 (by omega), own_i32 (by omega), own_i32 h]; omega
theorem own_sub2 {a b : Int32} (low : -2 ^ 31 ≤ a.toInt - b.toInt) (high : a.toInt - b.toInt < 2 ^ 31) : (a - b).toInt = a.toInt - b.toInt := by
  rw [Int32.toInt_sub]; exact Int.bmod_eq_of_le (by omega) (by omega)
theorem own_subn {a b : Nat} (h : a ≤ 2000) (hb : b ≤ a) : Int32.ofNat a - Int32.ofNat b = Int32.ofNat (a - b) := by
  rw [← Int32.toInt_inj, own_sub2 (by rw [own_i32 h, own_i32 (by omega)]; omega) (by rw [own_i32 h, own_i32 (by omega)]; omega), own_i32 h, own_i32 (by omega), own_i32 (by omega)]; omega
theorem own_shr0 (x : Int32) : x >>> ((0 : Int32) &&& 31) = x := by
  rw [show (0 : Int32) &&& 31 = 0 from rfl, ← Int32.toBitVec_inj]
  simp
theorem own_shl0 (x : Int32) : x <<< ((0 : Int32) &&& 31) = x := by
  rw [show (0 : Int32) &&& 31 = 0 from rfl, ← Int32.toBitVec_inj]
  simp
theorem own_bylen (cs : List Int32) : (own_by cs).length = cs.length := by simp
theorem own_byapp (cs ds : List Int32) : own_by (cs ++ ds) = own_by cs ++ own_by ds := by simp
theorem own_rangeget (vs : List Value) (d : Value) : (List.range vs.length).map (fun i => vs.getD (0 + i) d) = vs := by
  apply List.ext_getElem?
  intro i
  by_cases h : i < vs.length
  · simp [h]
  · simp [h]
theorem own_gt {a b : Nat} (ha : a ≤ 2000) (hb : b ≤ 2000) (h : a ≤ b) : ¬ 0 < Int32.ofNat a - Int32.ofNat b := by
  rw [Int32.lt_iff_toInt_lt, own_sub2 (by rw [own_i32 ha, own_i32 hb]; omega) (by rw [own_i32 ha, own_i32 hb]; omega), own_i32 ha, own_i32 hb, show (0 : Int32).toInt = 0 from rfl]; omega
theorem own_gt' {a b : Nat} (ha : a ≤ 2000) (hb : b ≤ 2000) (h : ¬ a ≤ b) : 0 < Int32.ofNat a - Int32.ofNat b := by
  rw [Int32.lt_iff_toInt_lt, own_sub2 (by rw [own_i32 ha, own_i32 hb]; omega) (by rw [own_i32 ha, own_i32 hb]; omega), own_i32 ha, own_i32 hb, show (0 : Int32).toInt = 0 from rfl]; omega
theorem own_ltn {a b : Nat} (ha : a ≤ 2000) (hb : b ≤ 2000) : Int32.ofNat a < Int32.ofNat b ↔ a < b := by
  rw [Int32.lt_iff_toInt_lt, own_i32 ha, own_i32 hb]; omega
theorem own_eqn {a b : Nat} (ha : a ≤ 2000) (hb : b ≤ 2000) : Int32.ofNat a = Int32.ofNat b ↔ a = b := by
  rw [← Int32.toInt_inj, own_i32 ha, own_i32 hb]; omega
theorem own_soft {n : Nat} (h : n ≤ 2000) : ¬ (2147483639 : Int32) < Int32.ofNat n := by
  rw [Int32.lt_iff_toInt_lt, own_i32 h, show (2147483639 : Int32).toInt = 2147483639 from rfl]; omega
theorem own_max {n : Nat} (h : n ≤ 2000) : ¬ Int32.ofNat n = (2147483647 : Int32) := by
  rw [← Int32.toInt_inj, own_i32 h, show (2147483647 : Int32).toInt = 2147483647 from rfl]; omega
theorem own_lim {n : Nat} (h : n ≤ 2000) : Int32.ofNat n < (2147483631 : Int32) := by
  rw [Int32.lt_iff_toInt_lt, own_i32 h, show (2147483631 : Int32).toInt = 2147483631 from rfl]; omega
theorem own_ld {Z : State} {h : Heap} {a : Addr} {k : ClassId} {ty : FieldType} {N : Nat} {vs : List Value} {d v : Value} (A : Arv Z h a k ty (Int32.ofNat N) vs d) (hN : N ≤ 2000) {i : Nat} (hi : i < N) {j : Int32} (hj : j = Int32.ofNat i) (hv : vs.getD i d = v) :
    ∃ cl : Cell, Arr Z h a cl ty ∧ ¬ (j < 0 ∨ cl.slots.size ≤ j.toNatClampNeg) ∧ cl.slots[j.toNatClampNeg]? = some v := by
  obtain ⟨cl, Ar, -, S, -, H, -⟩ := A
  subst hj
  rw [own_nat hN] at S
  refine ⟨cl, Ar, ?_, ?_⟩
  · rw [own_nat (by omega), S]
    exact fun q => q.elim (own_nn (by omega)) (by omega)
  · rw [own_nat (by omega), H i (by omega), hv]
theorem own_byget (cs : List Int32) (i : Nat) : (own_by cs).getD i (.int 0) = .int ((cs.getD i 0).toInt8.toInt32) := by
  simp only [List.getD_eq_getElem?_getD, List.getElem?_map]
  cases cs[i]? <;> rfl
theorem own_chget (cs : List Int32) (i : Nat) : (cs.map Value.int).getD i (.int 0) = .int (cs.getD i 0) := by
  simp only [List.getD_eq_getElem?_getD, List.getElem?_map]
  cases cs[i]? <;> rfl
theorem own_b7 {c : Int32} (h0 : ¬ c < 0) (h1 : ¬ (127 : Int32) < c) : c.toInt8.toInt32 = c := by
  rw [Int32.lt_iff_toInt_lt, show (0 : Int32).toInt = 0 from rfl] at h0
  rw [Int32.lt_iff_toInt_lt, show (127 : Int32).toInt = 127 from rfl] at h1
  rw [← Int32.toInt_inj, Int8.toInt_toInt32, Int32.toInt_toInt8]
  exact Int.bmod_eq_of_le (by omega) (by omega)
theorem own_get7 {cs : List Int32} (hp : ∀ c ∈ cs, ¬ c < 0 ∧ ¬ (127 : Int32) < c) (i : Nat) : ¬ cs.getD i 0 < 0 ∧ ¬ (127 : Int32) < cs.getD i 0 := by
  rw [List.getD_eq_getElem?_getD]
  cases q : cs[i]? with
  | none => exact ⟨by decide, by decide⟩
  | some c => exact hp c (List.mem_of_getElem? q)
theorem own_by7 {cs : List Int32} (hp : ∀ c ∈ cs, ¬ c < 0 ∧ ¬ (127 : Int32) < c) (i : Nat) : (own_by cs).getD i (.int 0) = .int (cs.getD i 0) := by
  rw [own_byget, own_b7 (own_get7 hp i).1 (own_get7 hp i).2]

theorem own_nmem {a b t n : Nat} (h : a < n) (hb : n ≤ b) (ht : n ≤ t) : a ∉ [b, t] := fun q => by
  simp only [List.mem_cons, List.not_mem_nil, or_false] at q; omega
theorem own_7to8 {cs : List Int32} (hp : ∀ c ∈ cs, ¬ c < 0 ∧ ¬ (127 : Int32) < c) : ∀ c ∈ cs, ¬ c < 0 ∧ ¬ (255 : Int32) < c := fun c hc => by
  have h1 := (hp c hc).2
  refine ⟨(hp c hc).1, fun q => h1 ?_⟩
  rw [Int32.lt_iff_toInt_lt] at *
  have e1 : (127 : Int32).toInt = 127 := rfl
  have e2 : (255 : Int32).toInt = 255 := rfl
  omega
theorem own_sum (x y : Nat) (hx : x ≤ 3) (hy : y ≤ 3) : Int32.ofNat (x + y + 24) = ((((16 : Int32) + Int32.ofNat x) + (4 : Int32)) + Int32.ofNat y) + (4 : Int32) := by
  rw [show (16 : Int32) + Int32.ofNat x = Int32.ofNat (16 + x) from own_addn (a := 16) (by omega), show Int32.ofNat (16 + x) + (4 : Int32) = Int32.ofNat (16 + x + 4) from own_addn (b := 4) (by omega), own_addn (by omega), show Int32.ofNat (16 + x + 4 + y) + (4 : Int32) = Int32.ofNat (16 + x + 4 + y + 4) from own_addn (b := 4) (by omega)]
  congr 1; omega
theorem own_gat (A B C : List Int32) (n j : Nat) (hn : A.length = n) (hj : j < B.length) : ((A ++ B) ++ C).getD (n + j) 0 = B.getD j 0 := by
  subst hn
  rw [List.append_assoc]
  simp only [List.getD_eq_getElem?_getD]
  rw [List.getElem?_append_right (by omega), List.getElem?_append_left (by omega)]
  congr 2; omega
theorem own_res (u v : List Int32) (hu : u.length ≤ 3) (hv : v.length ≤ 3) (pu : ∀ c ∈ u, ¬ c < 0 ∧ ¬ (127 : Int32) < c) (pv : ∀ c ∈ v, ¬ c < 0 ∧ ¬ (127 : Int32) < c) :
    ((((((([60, 33, 68, 79, 67, 84, 89, 80, 69, 32, 104, 116, 109, 108, 62, 10] : List Int32) ++ ([60, 47] : List Int32)) ++ u) ++ ([62, 10] : List Int32)) ++ ([60, 47] : List Int32)) ++ v) ++ ([62, 10] : List Int32)).length = u.length + v.length + 24 ∧ (∀ c ∈ ((((((([60, 33, 68, 79, 67, 84, 89, 80, 69, 32, 104, 116, 109, 108, 62, 10] : List Int32) ++ ([60, 47] : List Int32)) ++ u) ++ ([62, 10] : List Int32)) ++ ([60, 47] : List Int32)) ++ v) ++ ([62, 10] : List Int32)), ¬ c < 0 ∧ ¬ (127 : Int32) < c) ∧ ((((((([60, 33, 68, 79, 67, 84, 89, 80, 69, 32, 104, 116, 109, 108, 62, 10] : List Int32) ++ ([60, 47] : List Int32)) ++ u) ++ ([62, 10] : List Int32)) ++ ([60, 47] : List Int32)) ++ v) ++ ([62, 10] : List Int32)).getD 0 0 = 60 ∧ ((((((([60, 33, 68, 79, 67, 84, 89, 80, 69, 32, 104, 116, 109, 108, 62, 10] : List Int32) ++ ([60, 47] : List Int32)) ++ u) ++ ([62, 10] : List Int32)) ++ ([60, 47] : List Int32)) ++ v) ++ ([62, 10] : List Int32)).getD 15 0 = 10 ∧
    ((((((([60, 33, 68, 79, 67, 84, 89, 80, 69, 32, 104, 116, 109, 108, 62, 10] : List Int32) ++ ([60, 47] : List Int32)) ++ u) ++ ([62, 10] : List Int32)) ++ ([60, 47] : List Int32)) ++ v) ++ ([62, 10] : List Int32)).getD 16 0 = 60 ∧ ((((((([60, 33, 68, 79, 67, 84, 89, 80, 69, 32, 104, 116, 109, 108, 62, 10] : List Int32) ++ ([60, 47] : List Int32)) ++ u) ++ ([62, 10] : List Int32)) ++ ([60, 47] : List Int32)) ++ v) ++ ([62, 10] : List Int32)).getD (16 + 1) 0 = 47 ∧ (∀ j, j < u.length → ((((((([60, 33, 68, 79, 67, 84, 89, 80, 69, 32, 104, 116, 109, 108, 62, 10] : List Int32) ++ ([60, 47] : List Int32)) ++ u) ++ ([62, 10] : List Int32)) ++ ([60, 47] : List Int32)) ++ v) ++ ([62, 10] : List Int32)).getD (16 + 2 + j) 0 = u.getD j 0) ∧ ((((((([60, 33, 68, 79, 67, 84, 89, 80, 69, 32, 104, 116, 109, 108, 62, 10] : List Int32) ++ ([60, 47] : List Int32)) ++ u) ++ ([62, 10] : List Int32)) ++ ([60, 47] : List Int32)) ++ v) ++ ([62, 10] : List Int32)).getD (16 + 2 + u.length) 0 = 62 ∧ ((((((([60, 33, 68, 79, 67, 84, 89, 80, 69, 32, 104, 116, 109, 108, 62, 10] : List Int32) ++ ([60, 47] : List Int32)) ++ u) ++ ([62, 10] : List Int32)) ++ ([60, 47] : List Int32)) ++ v) ++ ([62, 10] : List Int32)).getD (16 + 2 + u.length + 1) 0 = 10 ∧
    ((((((([60, 33, 68, 79, 67, 84, 89, 80, 69, 32, 104, 116, 109, 108, 62, 10] : List Int32) ++ ([60, 47] : List Int32)) ++ u) ++ ([62, 10] : List Int32)) ++ ([60, 47] : List Int32)) ++ v) ++ ([62, 10] : List Int32)).getD (20 + u.length) 0 = 60 ∧ ((((((([60, 33, 68, 79, 67, 84, 89, 80, 69, 32, 104, 116, 109, 108, 62, 10] : List Int32) ++ ([60, 47] : List Int32)) ++ u) ++ ([62, 10] : List Int32)) ++ ([60, 47] : List Int32)) ++ v) ++ ([62, 10] : List Int32)).getD (20 + u.length + 1) 0 = 47 ∧ (∀ j, j < v.length → ((((((([60, 33, 68, 79, 67, 84, 89, 80, 69, 32, 104, 116, 109, 108, 62, 10] : List Int32) ++ ([60, 47] : List Int32)) ++ u) ++ ([62, 10] : List Int32)) ++ ([60, 47] : List Int32)) ++ v) ++ ([62, 10] : List Int32)).getD (20 + u.length + 2 + j) 0 = v.getD j 0) ∧ ((((((([60, 33, 68, 79, 67, 84, 89, 80, 69, 32, 104, 116, 109, 108, 62, 10] : List Int32) ++ ([60, 47] : List Int32)) ++ u) ++ ([62, 10] : List Int32)) ++ ([60, 47] : List Int32)) ++ v) ++ ([62, 10] : List Int32)).getD (20 + u.length + 2 + v.length) 0 = 62 ∧ ((((((([60, 33, 68, 79, 67, 84, 89, 80, 69, 32, 104, 116, 109, 108, 62, 10] : List Int32) ++ ([60, 47] : List Int32)) ++ u) ++ ([62, 10] : List Int32)) ++ ([60, 47] : List Int32)) ++ v) ++ ([62, 10] : List Int32)).getD (20 + u.length + 2 + v.length + 1) 0 = 10 := by
  have key : ∀ (A B C : List Int32) (n j : Nat), ((((((([60, 33, 68, 79, 67, 84, 89, 80, 69, 32, 104, 116, 109, 108, 62, 10] : List Int32) ++ ([60, 47] : List Int32)) ++ u) ++ ([62, 10] : List Int32)) ++ ([60, 47] : List Int32)) ++ v) ++ ([62, 10] : List Int32)) = (A ++ B) ++ C → A.length = n → j < B.length → ((((((([60, 33, 68, 79, 67, 84, 89, 80, 69, 32, 104, 116, 109, 108, 62, 10] : List Int32) ++ ([60, 47] : List Int32)) ++ u) ++ ([62, 10] : List Int32)) ++ ([60, 47] : List Int32)) ++ v) ++ ([62, 10] : List Int32)).getD (n + j) 0 = B.getD j 0 := fun A B C n j e hn hj => by rw [e]; exact own_gat A B C n j hn hj
  have k1 := fun j hj => key ([60, 33, 68, 79, 67, 84, 89, 80, 69, 32, 104, 116, 109, 108, 62, 10] : List Int32) ([60, 47] : List Int32) (u ++ (([62, 10] : List Int32) ++ (([60, 47] : List Int32) ++ (v ++ ([62, 10] : List Int32))))) 16 j (by simp only [List.append_assoc]) rfl hj
  have k2 := fun j hj => key (([60, 33, 68, 79, 67, 84, 89, 80, 69, 32, 104, 116, 109, 108, 62, 10] : List Int32) ++ ([60, 47] : List Int32)) u (([62, 10] : List Int32) ++ (([60, 47] : List Int32) ++ (v ++ ([62, 10] : List Int32)))) 18 j (by simp only [List.append_assoc]) rfl hj
  have k3 := fun j hj => key ((([60, 33, 68, 79, 67, 84, 89, 80, 69, 32, 104, 116, 109, 108, 62, 10] : List Int32) ++ ([60, 47] : List Int32)) ++ u) ([62, 10] : List Int32) (([60, 47] : List Int32) ++ (v ++ ([62, 10] : List Int32))) (18 + u.length) j (by simp only [List.append_assoc]) (by rw [List.length_append]; rfl) hj
  have k4 := fun j hj => key (((([60, 33, 68, 79, 67, 84, 89, 80, 69, 32, 104, 116, 109, 108, 62, 10] : List Int32) ++ ([60, 47] : List Int32)) ++ u) ++ ([62, 10] : List Int32)) ([60, 47] : List Int32) (v ++ ([62, 10] : List Int32)) (20 + u.length) j (by simp only [List.append_assoc]) (by simp only [List.length_append, List.length_cons, List.length_nil]; omega) hj
  have k5 := fun j hj => key ((((([60, 33, 68, 79, 67, 84, 89, 80, 69, 32, 104, 116, 109, 108, 62, 10] : List Int32) ++ ([60, 47] : List Int32)) ++ u) ++ ([62, 10] : List Int32)) ++ ([60, 47] : List Int32)) v ([62, 10] : List Int32) (22 + u.length) j (by simp only [List.append_assoc]) (by simp only [List.length_append, List.length_cons, List.length_nil]; omega) hj
  have k6 := fun j hj => key (((((([60, 33, 68, 79, 67, 84, 89, 80, 69, 32, 104, 116, 109, 108, 62, 10] : List Int32) ++ ([60, 47] : List Int32)) ++ u) ++ ([62, 10] : List Int32)) ++ ([60, 47] : List Int32)) ++ v) ([62, 10] : List Int32) [] (22 + u.length + v.length) j (by simp only [List.append_assoc, List.append_nil]) (by simp only [List.length_append, List.length_cons, List.length_nil]; omega) hj
  refine ⟨?_, ?_, ?_, ?_, k1 0 (by decide), k1 1 (by decide), fun j hj => k2 j hj, k3 0 (by decide), k3 1 (by decide), k4 0 (by decide), k4 1 (by decide), ?_, ?_, ?_⟩
  · simp only [List.length_append, List.length_cons, List.length_nil]; omega
  · intro c hc
    simp only [List.mem_append] at hc
    rcases hc with ((((((hc | hc) | hc) | hc) | hc) | hc) | hc)
    · exact (by decide : ∀ c ∈ ([60, 33, 68, 79, 67, 84, 89, 80, 69, 32, 104, 116, 109, 108, 62, 10] : List Int32), ¬ c < 0 ∧ ¬ (127 : Int32) < c) c hc
    · exact (by decide : ∀ c ∈ ([60, 47] : List Int32), ¬ c < 0 ∧ ¬ (127 : Int32) < c) c hc
    · exact pu c hc
    · exact (by decide : ∀ c ∈ ([62, 10] : List Int32), ¬ c < 0 ∧ ¬ (127 : Int32) < c) c hc
    · exact (by decide : ∀ c ∈ ([60, 47] : List Int32), ¬ c < 0 ∧ ¬ (127 : Int32) < c) c hc
    · exact pv c hc
    · exact (by decide : ∀ c ∈ ([62, 10] : List Int32), ¬ c < 0 ∧ ¬ (127 : Int32) < c) c hc
  · rfl
  · rfl
  · intro j hj; rw [show 20 + u.length + 2 + j = 22 + u.length + j by omega]; exact k5 j hj
  · rw [show 20 + u.length + 2 + v.length = 22 + u.length + v.length + 0 by omega]; exact k6 0 (by decide)
  · rw [show 20 + u.length + 2 + v.length + 1 = 22 + u.length + v.length + 1 by omega]; exact k6 1 (by decide)

def QCo (Z : State) (a : Addr) (G1 : Int32) (h0 : Heap) (n0 : Nat) (v : Option Value) (h : Heap) (L : List Loc) : Prop := v = some (.int 0) ∧ Fr n0 L ∧ h = h0
theorem efCo (m : MethodId) (a : Addr) : entryFrame m #[(.ref a)] 1 = mkF m 0 #[.val (.ref a)] [] := by first | (simp [entryFrame, mkF, argsToLocals, Value.category, List.replicate]; done) | rfl
set_option maxRecDepth 65536 in
set_option maxHeartbeats 40000000 in
theorem rmCo (l : Launch) (Z : State) (a0 : Array Value) (hw : ∀ d ∈ tables_1, d.before a0 Z = true) (ws : List Jvm.Cond) (a : Addr) (G1 : Int32) (h0 : Heap) (n0 : Nat) (Z0 : n0 ≤ h0.size) (O2 : Sta Z Z.heap "java/lang/String" "COMPACT_STRINGS" "Z" (.int G1)) (P5 : ¬ G1 = 0) (X00 : Old Z n0 h0) (Fc : Fld Z h0 a "java/lang/String" "coder" "B" (.int 0)) :
    MetFree l (⟨"java/lang/String", "coder", "()B"⟩ : MethodName) (head1 (Jvm.Cond.code (⟨"java/lang/String", "coder", "()B"⟩ : MethodName) jdk_42_method_152_code 1 (some .byte) :: ws) ({ frames := 0, cells := 0, slots := 0, locals := 0 } : Room)) (fun aa UU => aa = #[(.ref a)] ∧ Z.Warmed39 UU.vm ∧ UU.heap = h0) (fun _ _ _ _ _ => True) (fun _ UU oo UT => ∃ vv LL, oo = .returned vv ∧ QCo Z a G1 h0 n0 vv UT.heap LL ∧ FrameEnd UU oo UT LL ({ frames := 0, cells := 0, slots := 0, locals := 0 } : Room).cells ({ frames := 0, cells := 0, slots := 0, locals := 0 } : Room).slots) := by
  refine MetFree.of_bodySF (by decide +kernel) hisR ?_
  intro p e s m args below meth c s₁ Bd hml0 hP hK
  obtain ⟨rfl, hZ, hh⟩ := hP
  have hx := Bd.exec
  have hby := Bd.bytes
  have hml : c.maxLocals = 1 := hml0
  have hown : s.vm.findClass "java/lang/String" = some m.cls := findClass_of_methodNamed Bd.named
  have hnm := (name_of_methodNamed Bd.named Bd.method).1
  have X0 : Stand p l e ({ frames := 0, cells := 0, slots := 0, locals := 0 } : Room) s m #[(.ref a)] below meth c s₁ [] 0 0 := Stand.of_body Bd
  have e0 : s₁.heap = h0 := by rw [← hh, Bd.state]; rfl
  have N0 := Fr.nil n0
  have c0 : Steps p.tables e below (s₁.setTop (entryFrame m #[(.ref a)] 1)) (s₁.setTop (mkF m 0 #[.val (.ref a)] [])) := castTop (efCo m a) (Steps.refl _)
  show ∃ s₂ oo, Steps p.tables e below (s₁.setTop (entryFrame m #[(.ref a)] 1)) s₂ ∧ _ ∧ _ ∧ _
  generalize s₁.setTop (entryFrame m #[(.ref a)] 1) = S0 at c0 ⊢
  obtain ⟨T1, X1, e1, st1⟩ := getS X0 hx hZ hown (host := "") (hw _ (List.mem_of_getElem? (i := 26) rfl)) Via.refl e0 (O2.ext X00.2) (g := (mkF m 0 #[.val (.ref a)] [])) rfl (hb hby dCo_0)
  have c1 : Steps p.tables e below S0 (T1.setTop (mkF m 3 #[.val (.ref a)] [(.int G1)])) := by
    refine c0.trans ?_
    show Steps p.tables e below (s₁.setTop (mkF m 0 #[.val (.ref a)] [])) _
    refine st1 _ ?_
    exact Steps.refl _
  have c2 : Steps p.tables e below S0 (T1.setTop (mkF m 6 #[.val (.ref a)] [])) := by
    refine c1.trans ?_
    show Steps p.tables e below (T1.setTop (mkF m 3 #[.val (.ref a)] [(.int G1)])) _
    refine XS.ifNo X1.here hx rfl (hb hby dCo_3) rfl ((if0 _ _).trans (feq P5).1) ?_
    exact Steps.refl _
  have c3 : Steps p.tables e below S0 (T1.setTop (mkF m 7 #[.val (.ref a)] [(.ref a)])) := by
    refine c2.trans ?_
    show Steps p.tables e below (T1.setTop (mkF m 6 #[.val (.ref a)] [])) _
    refine XS.aloadN X1.here hx rfl (hb hby dCo_6) rfl rfl ?_
    exact Steps.refl _
  obtain ⟨T4, X4, e4, st4⟩ := getF X1 hx hZ hown (host := "") (Or.inl (hw _ (List.mem_of_getElem? (i := 25) rfl))) Via.refl e1 Fc (g := (mkF m 7 #[.val (.ref a)] [(.ref a)])) rfl rfl (hb hby dCo_7)
  have c4 : Steps p.tables e below S0 (T4.setTop (mkF m 10 #[.val (.ref a)] [(.int (0 : Int32))])) := by
    refine c3.trans ?_
    show Steps p.tables e below (T1.setTop (mkF m 7 #[.val (.ref a)] [(.ref a)])) _
    refine st4 _ ?_
    exact Steps.refl _
  have c5 : Steps p.tables e below S0 (T4.setTop (mkF m 14 #[.val (.ref a)] [(.int (0 : Int32))])) := by
    refine c4.trans ?_
    show Steps p.tables e below (T4.setTop (mkF m 10 #[.val (.ref a)] [(.int (0 : Int32))])) _
    refine XS.goto X4.here hx rfl (pc0 := 10) (pc' := 14) rfl (hb hby dCo_10) (by decide) (by decide) ?_
    exact Steps.refl _
  obtain ⟨fs, hr, hrun, hended, hW, hsame⟩ := X4.leave (v := some (.int 0)) (fun h => by rw [Bd.returns] at h; cases h)
  refine ⟨_, _, c5.trans ?_, hrun, hended, _, _, rfl, ?_, ⟨_, rfl⟩, hW, hsame.mono (by decide) (by decide)⟩
  · show Steps p.tables e below (T4.setTop (mkF m 14 #[.val (.ref a)] [(.int (0 : Int32))])) _
    exact retN X4 hx (t := .byte) Bd.returns (by simp) (hb hby dCo_14) hr
  · show QCo Z a G1 h0 n0 _ T4.heap _
    rw [e4]
    exact ⟨rfl, N0, rfl⟩
def QLe (Z : State) (a : Addr) (ta : Addr) (ds : List Int32) (G1 : Int32) (h0 : Heap) (n0 : Nat) (v : Option Value) (h : Heap) (L : List Loc) : Prop := v = some (.int (Int32.ofNat ds.length)) ∧ Fr n0 L ∧ h = h0
theorem efLe (m : MethodId) (a : Addr) : entryFrame m #[(.ref a)] 1 = mkF m 0 #[.val (.ref a)] [] := by first | (simp [entryFrame, mkF, argsToLocals, Value.category, List.replicate]; done) | rfl
set_option maxRecDepth 65536 in
set_option maxHeartbeats 40000000 in
theorem rmLe (l : Launch) (Z : State) (a0 : Array Value) (hw : ∀ d ∈ tables_1, d.before a0 Z = true) (ws : List Jvm.Cond) (a : Addr) (ta : Addr) (ds : List Int32) (G1 : Int32) (h0 : Heap) (n0 : Nat) (Z0 : n0 ≤ h0.size) (O2 : Sta Z Z.heap "java/lang/String" "COMPACT_STRINGS" "Z" (.int G1)) (P5 : ¬ G1 = 0) (X00 : Old Z n0 h0) (S : own_Str Z h0 a ta ds) (hl : ds.length ≤ 2000) :
    MetFree l (⟨"java/lang/String", "length", "()I"⟩ : MethodName) (head1 (Jvm.Cond.code (⟨"java/lang/String", "length", "()I"⟩ : MethodName) jdk_42_method_54_code 1 (some .int) :: ws) ({ frames := 1, cells := 0, slots := 0, locals := 14 } : Room)) (fun aa UU => aa = #[(.ref a)] ∧ Z.Warmed39 UU.vm ∧ UU.heap = h0) (fun _ _ _ _ _ => True) (fun _ UU oo UT => ∃ vv LL, oo = .returned vv ∧ QLe Z a ta ds G1 h0 n0 vv UT.heap LL ∧ FrameEnd UU oo UT LL ({ frames := 1, cells := 0, slots := 0, locals := 14 } : Room).cells ({ frames := 1, cells := 0, slots := 0, locals := 14 } : Room).slots) := by
  refine MetFree.of_bodySF (by decide +kernel) hisR ?_
  intro p e s m args below meth c s₁ Bd hml0 hP hK
  obtain ⟨rfl, hZ, hh⟩ := hP
  have hx := Bd.exec
  have hby := Bd.bytes
  have hml : c.maxLocals = 1 := hml0
  have hown : s.vm.findClass "java/lang/String" = some m.cls := findClass_of_methodNamed Bd.named
  have hnm := (name_of_methodNamed Bd.named Bd.method).1
  have X0 : Stand p l e ({ frames := 1, cells := 0, slots := 0, locals := 14 } : Room) s m #[(.ref a)] below meth c s₁ [] 0 0 := Stand.of_body Bd
  have e0 : s₁.heap = h0 := by rw [← hh, Bd.state]; rfl
  have N0 := Fr.nil n0
  have c0 : Steps p.tables e below (s₁.setTop (entryFrame m #[(.ref a)] 1)) (s₁.setTop (mkF m 0 #[.val (.ref a)] [])) := castTop (efLe m a) (Steps.refl _)
  show ∃ s₂ oo, Steps p.tables e below (s₁.setTop (entryFrame m #[(.ref a)] 1)) s₂ ∧ _ ∧ _ ∧ _
  generalize s₁.setTop (entryFrame m #[(.ref a)] 1) = S0 at c0 ⊢
  obtain ⟨Ea, Fc, Fv, ⟨ka, Va⟩, -⟩ := id S
  obtain ⟨cl, Ar, -, Sz, Mz, -, -⟩ := Va
  have c1 : Steps p.tables e below S0 (s₁.setTop (mkF m 1 #[.val (.ref a)] [(.ref a)])) := by
    refine c0.trans ?_
    show Steps p.tables e below (s₁.setTop (mkF m 0 #[.val (.ref a)] [])) _
    refine XS.aloadN X0.here hx rfl (hb hby dLe_0) rfl rfl ?_
    exact Steps.refl _
  obtain ⟨T2, X2, e2, st2⟩ := getF X0 hx hZ hown (host := "") (Or.inl (hw _ (List.mem_of_getElem? (i := 24) rfl))) Via.refl e0 Fv (g := (mkF m 1 #[.val (.ref a)] [(.ref a)])) rfl rfl (hb hby dLe_1)
  have c2 : Steps p.tables e below S0 (T2.setTop (mkF m 4 #[.val (.ref a)] [(.ref ta)])) := by
    refine c1.trans ?_
    show Steps p.tables e below (s₁.setTop (mkF m 1 #[.val (.ref a)] [(.ref a)])) _
    refine st2 _ ?_
    exact Steps.refl _
  have c3 : Steps p.tables e below S0 (T2.setTop (mkF m 5 #[.val (.ref a)] [(.int (Int32.ofNat ds.length))])) := by
    refine c2.trans ?_
    show Steps p.tables e below (T2.setTop (mkF m 4 #[.val (.ref a)] [(.ref ta)])) _
    refine X2.arraylength hx (by rw [e2]; exact Ar.1) (State.isArrayOf_alike hZ.alike Ar.2.1) (g := (mkF m 4 #[.val (.ref a)] [(.ref ta)])) rfl rfl (hb hby dLe_4) _ ?_
    rw [len_of Sz Mz]
    exact Steps.refl _
  have c4 : Steps p.tables e below S0 (T2.setTop (mkF m 6 #[.val (.ref a)] [(.ref a), (.int (Int32.ofNat ds.length))])) := by
    refine c3.trans ?_
    show Steps p.tables e below (T2.setTop (mkF m 5 #[.val (.ref a)] [(.int (Int32.ofNat ds.length))])) _
    refine XS.aloadN X2.here hx rfl (hb hby dLe_5) rfl rfl ?_
    exact Steps.refl _
  obtain ⟨cq5, kq5, q5a, q5b, q5c⟩ := isOf hZ e2 Ea
  obtain ⟨_, _, ⟨T5, L5, k5, n5⟩, -, X5, ⟨Lc5, hQ5, l5, y5, z5⟩, st5⟩ := X2.virtualBack hx (y := (⟨"java/lang/String", "coder", "()B"⟩ : MethodName)) (z := (⟨"java/lang/String", "coder", "()B"⟩ : MethodName)) hown (mvT hZ (hw _ (List.mem_of_getElem? (i := 63) rfl))) (mvT hZ (hw _ (List.mem_of_getElem? (i := 64) rfl))) (notFace_of_selects (args := #[]) (mvT hZ (hw _ (List.mem_of_getElem? (i := 66) rfl)))) (mvT hZ (hw _ (List.mem_of_getElem? (i := 66) rfl))) (mvT hZ (hw _ (List.mem_of_getElem? (i := 65) rfl))) (by decide) (backOf (W := 1) (rmCo l Z a0 hw [] a G1 h0 n0 Z0 O2 P5 X00 Fc) hZ (hw _ (List.mem_of_getElem? (i := 67) rfl)) (hw _ (List.mem_of_getElem? (i := 7) rfl)) (by decide) (by decide)) q5a q5c (g := (mkF m 6 #[.val (.ref a)] [(.ref a), (.int (Int32.ofNat ds.length))])) rfl (by rw [hml]; rfl) (Steps.refl _) (argsL := []) (rest := [(.int (Int32.ofNat ds.length))]) (lenOf pd0 rfl) rfl (by show 2 * 0 + _ ≤ _; exact Nat.le_of_eq rfl) (hb hby dLe_6) (fun _ _ => ⟨rfl, e2, (by decide : 0 + 0 ≤ _), (by decide : 0 + 0 ≤ _)⟩)
  dsimp only [Pt.U, Pt.locs, Pt.cells, Pt.slots] at X5 l5 y5 z5 st5 hQ5
  subst l5 y5 z5
  obtain ⟨rfl, N1, e1⟩ := hQ5
  have c5 : Steps p.tables e below S0 (T5.setTop (mkF m 9 #[.val (.ref a)] [(.int (0 : Int32)), (.int (Int32.ofNat ds.length))])) := by
    refine c4.trans ?_
    show Steps p.tables e below (T2.setTop (mkF m 6 #[.val (.ref a)] [(.ref a), (.int (Int32.ofNat ds.length))])) _
    refine st5.trans ?_
    exact Steps.refl _
  have c6 : Steps p.tables e below S0 (T5.setTop (mkF m 10 #[.val (.ref a)] [(.int ((Int32.ofNat ds.length) >>> ((0 : Int32) &&& 31)))])) := by
    refine c5.trans ?_
    show Steps p.tables e below (T5.setTop (mkF m 9 #[.val (.ref a)] [(.int (0 : Int32)), (.int (Int32.ofNat ds.length))])) _
    refine XS.ishr X5.here hx rfl (hb hby dLe_9) rfl ?_
    exact Steps.refl _
  rw [own_shr0] at c6
  obtain ⟨fs, hr, hrun, hended, hW, hsame⟩ := X5.leave (v := some (.int (Int32.ofNat ds.length))) (fun h => by rw [Bd.returns] at h; cases h)
  refine ⟨_, _, c6.trans ?_, hrun, hended, _, _, rfl, ?_, ⟨_, rfl⟩, hW, hsame.mono (by decide) (by decide)⟩
  · show Steps p.tables e below (T5.setTop (mkF m 10 #[.val (.ref a)] [(.int (Int32.ofNat ds.length))])) _
    exact retI X5 hx Bd.returns (hb hby dLe_10) hr
  · show QLe Z a ta ds G1 h0 n0 _ T5.heap _
    rw [e1]
    exact ⟨rfl, Fr.app N0 N1, rfl⟩
def QMi (Z : State) (x : Int32) (y : Int32) (h0 : Heap) (n0 : Nat) (v : Option Value) (h : Heap) (L : List Loc) : Prop := v = some (.int (if y < x then y else x)) ∧ Fr n0 L ∧ h = h0
theorem efMi (m : MethodId) (x : Int32) (y : Int32) : entryFrame m #[(.int x), (.int y)] 2 = mkF m 0 #[.val (.int x), .val (.int y)] [] := by first | (simp [entryFrame, mkF, argsToLocals, Value.category, List.replicate]; done) | rfl
set_option maxRecDepth 65536 in
set_option maxHeartbeats 40000000 in
theorem rmMi (l : Launch) (Z : State) (a0 : Array Value) (hw : ∀ d ∈ tables_1, d.before a0 Z = true) (ws : List Jvm.Cond) (x : Int32) (y : Int32) (h0 : Heap) (n0 : Nat) (Z0 : n0 ≤ h0.size)  :
    MetFree l (⟨"java/lang/Math", "min", "(II)I"⟩ : MethodName) (head1 (Jvm.Cond.code (⟨"java/lang/Math", "min", "(II)I"⟩ : MethodName) jdk_29_method_69_code 2 (some .int) :: ws) ({ frames := 0, cells := 0, slots := 0, locals := 0 } : Room)) (fun aa UU => aa = #[(.int x), (.int y)] ∧ Z.Warmed39 UU.vm ∧ UU.heap = h0) (fun _ _ _ _ _ => True) (fun _ UU oo UT => ∃ vv LL, oo = .returned vv ∧ QMi Z x y h0 n0 vv UT.heap LL ∧ FrameEnd UU oo UT LL ({ frames := 0, cells := 0, slots := 0, locals := 0 } : Room).cells ({ frames := 0, cells := 0, slots := 0, locals := 0 } : Room).slots) := by
  refine MetFree.of_bodySF (by decide +kernel) hisR ?_
  intro p e s m args below meth c s₁ Bd hml0 hP hK
  obtain ⟨rfl, hZ, hh⟩ := hP
  have hx := Bd.exec
  have hby := Bd.bytes
  have hml : c.maxLocals = 2 := hml0
  have hown : s.vm.findClass "java/lang/Math" = some m.cls := findClass_of_methodNamed Bd.named
  have hnm := (name_of_methodNamed Bd.named Bd.method).1
  have X0 : Stand p l e ({ frames := 0, cells := 0, slots := 0, locals := 0 } : Room) s m #[(.int x), (.int y)] below meth c s₁ [] 0 0 := Stand.of_body Bd
  have e0 : s₁.heap = h0 := by rw [← hh, Bd.state]; rfl
  have N0 := Fr.nil n0
  have c0 : Steps p.tables e below (s₁.setTop (entryFrame m #[(.int x), (.int y)] 2)) (s₁.setTop (mkF m 0 #[.val (.int x), .val (.int y)] [])) := castTop (efMi m x y) (Steps.refl _)
  show ∃ s₂ oo, Steps p.tables e below (s₁.setTop (entryFrame m #[(.int x), (.int y)] 2)) s₂ ∧ _ ∧ _ ∧ _
  generalize s₁.setTop (entryFrame m #[(.int x), (.int y)] 2) = S0 at c0 ⊢
  have c1 : Steps p.tables e below S0 (s₁.setTop (mkF m 2 #[.val (.int x), .val (.int y)] [(.int y), (.int x)])) := by
    refine c0.trans ?_
    show Steps p.tables e below (s₁.setTop (mkF m 0 #[.val (.int x), .val (.int y)] [])) _
    refine XS.iloadN X0.here hx rfl (hb hby dMi_0) rfl ?_
    show Steps p.tables e below (s₁.setTop (mkF m 1 #[.val (.int x), .val (.int y)] [(.int x)])) _
    refine XS.iloadN X0.here hx rfl (hb hby dMi_1) rfl ?_
    exact Steps.refl _
  by_cases hc : y < x
  · have c2 : Steps p.tables e below S0 (s₁.setTop (mkF m 9 #[.val (.int x), .val (.int y)] [])) := by
      refine c1.trans ?_
      show Steps p.tables e below (s₁.setTop (mkF m 2 #[.val (.int x), .val (.int y)] [(.int y), (.int x)])) _
      refine XS.icmpYes X0.here hx rfl (pc0 := 2) (pc' := 9) rfl (hb hby dMi_2) rfl (tlt hc).2.2.1 (by decide) (by decide) ?_
      exact Steps.refl _
    have c3 : Steps p.tables e below S0 (s₁.setTop (mkF m 10 #[.val (.int x), .val (.int y)] [(.int y)])) := by
      refine c2.trans ?_
      show Steps p.tables e below (s₁.setTop (mkF m 9 #[.val (.int x), .val (.int y)] [])) _
      refine XS.iloadN X0.here hx rfl (hb hby dMi_9) rfl ?_
      exact Steps.refl _
    obtain ⟨fs, hr, hrun, hended, hW, hsame⟩ := X0.leave (v := some (.int y)) (fun h => by rw [Bd.returns] at h; cases h)
    refine ⟨_, _, c3.trans ?_, hrun, hended, _, _, rfl, ?_, ⟨_, rfl⟩, hW, hsame.mono (by decide) (by decide)⟩
    · show Steps p.tables e below (s₁.setTop (mkF m 10 #[.val (.int x), .val (.int y)] [(.int y)])) _
      exact retI X0 hx Bd.returns (hb hby dMi_10) hr
    · show QMi Z x y h0 n0 _ s₁.heap _
      rw [e0]
      exact ⟨by rw [if_pos hc], N0, rfl⟩
  · have c4 : Steps p.tables e below S0 (s₁.setTop (mkF m 10 #[.val (.int x), .val (.int y)] [(.int x)])) := by
      refine c1.trans ?_
      show Steps p.tables e below (s₁.setTop (mkF m 2 #[.val (.int x), .val (.int y)] [(.int y), (.int x)])) _
      refine XS.icmpNo X0.here hx rfl (hb hby dMi_2) rfl (flt hc).2.2.1 ?_
      show Steps p.tables e below (s₁.setTop (mkF m 5 #[.val (.int x), .val (.int y)] [])) _
      refine XS.iloadN X0.here hx rfl (hb hby dMi_5) rfl ?_
      show Steps p.tables e below (s₁.setTop (mkF m 6 #[.val (.int x), .val (.int y)] [(.int x)])) _
      refine XS.goto X0.here hx rfl (pc0 := 6) (pc' := 10) rfl (hb hby dMi_6) (by decide) (by decide) ?_
      exact Steps.refl _
    obtain ⟨fs, hr, hrun, hended, hW, hsame⟩ := X0.leave (v := some (.int x)) (fun h => by rw [Bd.returns] at h; cases h)
    refine ⟨_, _, c4.trans ?_, hrun, hended, _, _, rfl, ?_, ⟨_, rfl⟩, hW, hsame.mono (by decide) (by decide)⟩
    · show Steps p.tables e below (s₁.setTop (mkF m 10 #[.val (.int x), .val (.int y)] [(.int x)])) _
      exact retI X0 hx Bd.returns (hb hby dMi_10) hr
    · show QMi Z x y h0 n0 _ s₁.heap _
      rw [e0]
      exact ⟨by rw [if_neg hc], N0, rfl⟩
def QGb (Z : State) (a : Addr) (ta : Addr) (ds : List Int32) (t : Addr) (kt : ClassId) (cap : Nat) (cs : List Int32) (G1 : Int32) (h0 : Heap) (n0 : Nat) (v : Option Value) (h : Heap) (L : List Loc) : Prop := v = none ∧ Fr n0 L ∧ Keep h0 h [t] ∧ Arv Z h t kt .byte (Int32.ofNat cap) (own_by (cs ++ ds)) (.int 0)
theorem efGb (m : MethodId) (a : Addr) (t : Addr) (cs : List Int32) : entryFrame m #[(.ref a), (.ref t), (.int (Int32.ofNat cs.length)), (.int (0 : Int32))] 4 = mkF m 0 #[.val (.ref a), .val (.ref t), .val (.int (Int32.ofNat cs.length)), .val (.int (0 : Int32))] [] := by first | (simp [entryFrame, mkF, argsToLocals, Value.category, List.replicate]; done) | rfl
set_option maxRecDepth 65536 in
set_option maxHeartbeats 40000000 in
theorem rmGb (l : Launch) (Z : State) (a0 : Array Value) (hw : ∀ d ∈ tables_1, d.before a0 Z = true) (ws : List Jvm.Cond) (a : Addr) (ta : Addr) (ds : List Int32) (t : Addr) (kt : ClassId) (cap : Nat) (cs : List Int32) (G1 : Int32) (h0 : Heap) (n0 : Nat) (Z0 : n0 ≤ h0.size) (O2 : Sta Z Z.heap "java/lang/String" "COMPACT_STRINGS" "Z" (.int G1)) (P5 : ¬ G1 = 0) (X00 : Old Z n0 h0) (S : own_Str Z h0 a ta ds) (hl : ds.length ≤ 500) (Vt : Arv Z h0 t kt .byte (Int32.ofNat cap) (own_by cs) (.int 0)) (hc : cs.length + ds.length ≤ cap) (hcap : cap ≤ 1000) (gt : n0 ≤ t) :
    MetFree l (⟨"java/lang/String", "getBytes", "([BIB)V"⟩ : MethodName) (head1 (Jvm.Cond.code (⟨"java/lang/String", "getBytes", "([BIB)V"⟩ : MethodName) jdk_42_method_147_code 4 none :: ws) ({ frames := 1, cells := 0, slots := 0, locals := 40 } : Room)) (fun aa UU => aa = #[(.ref a), (.ref t), (.int (Int32.ofNat cs.length)), (.int (0 : Int32))] ∧ Z.Warmed39 UU.vm ∧ UU.heap = h0) (fun _ _ _ _ _ => True) (fun _ UU oo UT => ∃ vv LL, oo = .returned vv ∧ QGb Z a ta ds t kt cap cs G1 h0 n0 vv UT.heap LL ∧ FrameEnd UU oo UT LL ({ frames := 1, cells := 0, slots := 0, locals := 40 } : Room).cells ({ frames := 1, cells := 0, slots := 0, locals := 40 } : Room).slots) := by
  refine MetFree.of_bodySF (by decide +kernel) hisR ?_
  intro p e s m args below meth c s₁ Bd hml0 hP hK
  obtain ⟨rfl, hZ, hh⟩ := hP
  have hx := Bd.exec
  have hby := Bd.bytes
  have hml : c.maxLocals = 4 := hml0
  have hown : s.vm.findClass "java/lang/String" = some m.cls := findClass_of_methodNamed Bd.named
  have hnm := (name_of_methodNamed Bd.named Bd.method).1
  have X0 : Stand p l e ({ frames := 1, cells := 0, slots := 0, locals := 40 } : Room) s m #[(.ref a), (.ref t), (.int (Int32.ofNat cs.length)), (.int (0 : Int32))] below meth c s₁ [] 0 0 := Stand.of_body Bd
  have e0 : s₁.heap = h0 := by rw [← hh, Bd.state]; rfl
  have N0 := Fr.nil n0
  have c0 : Steps p.tables e below (s₁.setTop (entryFrame m #[(.ref a), (.ref t), (.int (Int32.ofNat cs.length)), (.int (0 : Int32))] 4)) (s₁.setTop (mkF m 0 #[.val (.ref a), .val (.ref t), .val (.int (Int32.ofNat cs.length)), .val (.int (0 : Int32))] [])) := castTop (efGb m a t cs) (Steps.refl _)
  show ∃ s₂ oo, Steps p.tables e below (s₁.setTop (entryFrame m #[(.ref a), (.ref t), (.int (Int32.ofNat cs.length)), (.int (0 : Int32))] 4)) s₂ ∧ _ ∧ _ ∧ _
  generalize s₁.setTop (entryFrame m #[(.ref a), (.ref t), (.int (Int32.ofNat cs.length)), (.int (0 : Int32))] 4) = S0 at c0 ⊢
  obtain ⟨Ea, Fc, Fv, ⟨ka, Va⟩, -⟩ := id S
  obtain ⟨cl, Ar, -, Sz, Mz, -, -⟩ := id Va
  have c1 : Steps p.tables e below S0 (s₁.setTop (mkF m 1 #[.val (.ref a), .val (.ref t), .val (.int (Int32.ofNat cs.length)), .val (.int (0 : Int32))] [(.ref a)])) := by
    refine c0.trans ?_
    show Steps p.tables e below (s₁.setTop (mkF m 0 #[.val (.ref a), .val (.ref t), .val (.int (Int32.ofNat cs.length)), .val (.int (0 : Int32))] [])) _
    refine XS.aloadN X0.here hx rfl (hb hby dGb_0) rfl rfl ?_
    exact Steps.refl _
  obtain ⟨cq2, kq2, q2a, q2b, q2c⟩ := isOf hZ e0 Ea
  obtain ⟨_, _, ⟨T2, L2, k2, n2⟩, -, X2, ⟨Lc2, hQ2, l2, y2, z2⟩, st2⟩ := X0.virtualBack hx (y := (⟨"java/lang/String", "coder", "()B"⟩ : MethodName)) (z := (⟨"java/lang/String", "coder", "()B"⟩ : MethodName)) hown (mvT hZ (hw _ (List.mem_of_getElem? (i := 63) rfl))) (mvT hZ (hw _ (List.mem_of_getElem? (i := 64) rfl))) (notFace_of_selects (args := #[]) (mvT hZ (hw _ (List.mem_of_getElem? (i := 66) rfl)))) (mvT hZ (hw _ (List.mem_of_getElem? (i := 66) rfl))) (mvT hZ (hw _ (List.mem_of_getElem? (i := 65) rfl))) (by decide) (backOf (W := 0) (rmCo l Z a0 hw [] a G1 h0 n0 Z0 O2 P5 X00 Fc) hZ (hw _ (List.mem_of_getElem? (i := 67) rfl)) (hw _ (List.mem_of_getElem? (i := 7) rfl)) (by decide) (by decide)) q2a q2c (g := (mkF m 1 #[.val (.ref a), .val (.ref t), .val (.int (Int32.ofNat cs.length)), .val (.int (0 : Int32))] [(.ref a)])) rfl (by rw [hml]; rfl) (Steps.refl _) (argsL := []) (rest := []) (lenOf pd0 rfl) rfl (by show 2 * 0 + _ ≤ _; exact Nat.le_of_eq rfl) (hb hby dGb_1) (fun _ _ => ⟨rfl, e0, (by decide : 0 + 0 ≤ _), (by decide : 0 + 0 ≤ _)⟩)
  dsimp only [Pt.U, Pt.locs, Pt.cells, Pt.slots] at X2 l2 y2 z2 st2 hQ2
  subst l2 y2 z2
  obtain ⟨rfl, N1, e1⟩ := hQ2
  have c2 : Steps p.tables e below S0 (T2.setTop (mkF m 4 #[.val (.ref a), .val (.ref t), .val (.int (Int32.ofNat cs.length)), .val (.int (0 : Int32))] [(.int (0 : Int32))])) := by
    refine c1.trans ?_
    show Steps p.tables e below (s₁.setTop (mkF m 1 #[.val (.ref a), .val (.ref t), .val (.int (Int32.ofNat cs.length)), .val (.int (0 : Int32))] [(.ref a)])) _
    refine st2.trans ?_
    exact Steps.refl _
  have c3 : Steps p.tables e below S0 (T2.setTop (mkF m 8 #[.val (.ref a), .val (.ref t), .val (.int (Int32.ofNat cs.length)), .val (.int (0 : Int32))] [])) := by
    refine c2.trans ?_
    show Steps p.tables e below (T2.setTop (mkF m 4 #[.val (.ref a), .val (.ref t), .val (.int (Int32.ofNat cs.length)), .val (.int (0 : Int32))] [(.int (0 : Int32))])) _
    refine XS.iloadN X2.here hx rfl (hb hby dGb_4) rfl ?_
    show Steps p.tables e below (T2.setTop (mkF m 5 #[.val (.ref a), .val (.ref t), .val (.int (Int32.ofNat cs.length)), .val (.int (0 : Int32))] [(.int (0 : Int32)), (.int (0 : Int32))])) _
    refine XS.icmpNo X2.here hx rfl (hb hby dGb_5) rfl (teq rfl).2 ?_
    exact Steps.refl _
  have c4 : Steps p.tables e below S0 (T2.setTop (mkF m 9 #[.val (.ref a), .val (.ref t), .val (.int (Int32.ofNat cs.length)), .val (.int (0 : Int32))] [(.ref a)])) := by
    refine c3.trans ?_
    show Steps p.tables e below (T2.setTop (mkF m 8 #[.val (.ref a), .val (.ref t), .val (.int (Int32.ofNat cs.length)), .val (.int (0 : Int32))] [])) _
    refine XS.aloadN X2.here hx rfl (hb hby dGb_8) rfl rfl ?_
    exact Steps.refl _
  obtain ⟨T5, X5, e5, st5⟩ := getF X2 hx hZ hown (host := "") (Or.inl (hw _ (List.mem_of_getElem? (i := 24) rfl))) Via.refl e1 Fv (g := (mkF m 9 #[.val (.ref a), .val (.ref t), .val (.int (Int32.ofNat cs.length)), .val (.int (0 : Int32))] [(.ref a)])) rfl rfl (hb hby dGb_9)
  have c5 : Steps p.tables e below S0 (T5.setTop (mkF m 12 #[.val (.ref a), .val (.ref t), .val (.int (Int32.ofNat cs.length)), .val (.int (0 : Int32))] [(.ref ta)])) := by
    refine c4.trans ?_
    show Steps p.tables e below (T2.setTop (mkF m 9 #[.val (.ref a), .val (.ref t), .val (.int (Int32.ofNat cs.length)), .val (.int (0 : Int32))] [(.ref a)])) _
    refine st5 _ ?_
    exact Steps.refl _
  have c6 : Steps p.tables e below S0 (T5.setTop (mkF m 17 #[.val (.ref a), .val (.ref t), .val (.int (Int32.ofNat cs.length)), .val (.int (0 : Int32))] [(.int ((Int32.ofNat cs.length) <<< ((0 : Int32) &&& 31))), (.ref t), (.int (0 : Int32)), (.ref ta)])) := by
    refine c5.trans ?_
    show Steps p.tables e below (T5.setTop (mkF m 12 #[.val (.ref a), .val (.ref t), .val (.int (Int32.ofNat cs.length)), .val (.int (0 : Int32))] [(.ref ta)])) _
    refine XS.iconst X5.here hx rfl (hb hby dGb_12) ?_
    show Steps p.tables e below (T5.setTop (mkF m 13 #[.val (.ref a), .val (.ref t), .val (.int (Int32.ofNat cs.length)), .val (.int (0 : Int32))] [(.int (0 : Int32)), (.ref ta)])) _
    refine XS.aloadN X5.here hx rfl (hb hby dGb_13) rfl rfl ?_
    show Steps p.tables e below (T5.setTop (mkF m 14 #[.val (.ref a), .val (.ref t), .val (.int (Int32.ofNat cs.length)), .val (.int (0 : Int32))] [(.ref t), (.int (0 : Int32)), (.ref ta)])) _
    refine XS.iloadN X5.here hx rfl (hb hby dGb_14) rfl ?_
    show Steps p.tables e below (T5.setTop (mkF m 15 #[.val (.ref a), .val (.ref t), .val (.int (Int32.ofNat cs.length)), .val (.int (0 : Int32))] [(.int (Int32.ofNat cs.length)), (.ref t), (.int (0 : Int32)), (.ref ta)])) _
    refine XS.iloadN X5.here hx rfl (hb hby dGb_15) rfl ?_
    show Steps p.tables e below (T5.setTop (mkF m 16 #[.val (.ref a), .val (.ref t), .val (.int (Int32.ofNat cs.length)), .val (.int (0 : Int32))] [(.int (0 : Int32)), (.int (Int32.ofNat cs.length)), (.ref t), (.int (0 : Int32)), (.ref ta)])) _
    refine XS.ishl X5.here hx rfl (hb hby dGb_16) rfl ?_
    exact Steps.refl _
  rw [own_shl0] at c6
  have c7 : Steps p.tables e below S0 (T5.setTop (mkF m 18 #[.val (.ref a), .val (.ref t), .val (.int (Int32.ofNat cs.length)), .val (.int (0 : Int32))] [(.ref a), (.int (Int32.ofNat cs.length)), (.ref t), (.int (0 : Int32)), (.ref ta)])) := by
    refine c6.trans ?_
    show Steps p.tables e below (T5.setTop (mkF m 17 #[.val (.ref a), .val (.ref t), .val (.int (Int32.ofNat cs.length)), .val (.int (0 : Int32))] [(.int (Int32.ofNat cs.length)), (.ref t), (.int (0 : Int32)), (.ref ta)])) _
    refine XS.aloadN X5.here hx rfl (hb hby dGb_17) rfl rfl ?_
    exact Steps.refl _
  obtain ⟨T8, X8, e8, st8⟩ := getF X5 hx hZ hown (host := "") (Or.inl (hw _ (List.mem_of_getElem? (i := 24) rfl))) Via.refl e5 Fv (g := (mkF m 18 #[.val (.ref a), .val (.ref t), .val (.int (Int32.ofNat cs.length)), .val (.int (0 : Int32))] [(.ref a), (.int (Int32.ofNat cs.length)), (.ref t), (.int (0 : Int32)), (.ref ta)])) rfl rfl (hb hby dGb_18)
  have c8 : Steps p.tables e below S0 (T8.setTop (mkF m 21 #[.val (.ref a), .val (.ref t), .val (.int (Int32.ofNat cs.length)), .val (.int (0 : Int32))] [(.ref ta), (.int (Int32.ofNat cs.length)), (.ref t), (.int (0 : Int32)), (.ref ta)])) := by
    refine c7.trans ?_
    show Steps p.tables e below (T5.setTop (mkF m 18 #[.val (.ref a), .val (.ref t), .val (.int (Int32.ofNat cs.length)), .val (.int (0 : Int32))] [(.ref a), (.int (Int32.ofNat cs.length)), (.ref t), (.int (0 : Int32)), (.ref ta)])) _
    refine st8 _ ?_
    exact Steps.refl _
  have c9 : Steps p.tables e below S0 (T8.setTop (mkF m 22 #[.val (.ref a), .val (.ref t), .val (.int (Int32.ofNat cs.length)), .val (.int (0 : Int32))] [(.int (Int32.ofNat ds.length)), (.int (Int32.ofNat cs.length)), (.ref t), (.int (0 : Int32)), (.ref ta)])) := by
    refine c8.trans ?_
    show Steps p.tables e below (T8.setTop (mkF m 21 #[.val (.ref a), .val (.ref t), .val (.int (Int32.ofNat cs.length)), .val (.int (0 : Int32))] [(.ref ta), (.int (Int32.ofNat cs.length)), (.ref t), (.int (0 : Int32)), (.ref ta)])) _
    refine X8.arraylength hx (by rw [e8]; exact Ar.1) (State.isArrayOf_alike hZ.alike Ar.2.1) (g := (mkF m 21 #[.val (.ref a), .val (.ref t), .val (.int (Int32.ofNat cs.length)), .val (.int (0 : Int32))] [(.ref ta), (.int (Int32.ofNat cs.length)), (.ref t), (.int (0 : Int32)), (.ref ta)])) rfl rfl (hb hby dGb_21) _ ?_
    rw [len_of Sz Mz]
    exact Steps.refl _
  have Vp : Arv Z h0 t kt .byte (Int32.ofNat cap) (own_by cs ++ List.replicate ds.length (.int 0)) (.int 0) := Vt.pad (pad_rep (own_by cs) (.int 0) ds.length)
  have z0 : (0 : Int32).toNatClampNeg = 0 := rfl
  have zc := own_nat (n := cs.length) (by omega)
  have zd := own_nat (n := ds.length) (by omega)
  have zp := own_nat (n := cap) (by omega)
  obtain ⟨T10, h10, L10, X10, e10, N10, K10, V10, st10⟩ := cpA X8 hx hZ hown (hw _ (List.mem_of_getElem? (i := 111) rfl)) (hw _ (List.mem_of_getElem? (i := 114) rfl)) (hw _ (List.mem_of_getElem? (i := 112) rfl)) (hw _ (List.mem_of_getElem? (i := 113) rfl)) e8 (us := own_by ds) Va Vp (Or.inl ⟨rfl, rfl⟩) (by decide) (own_nn (by omega)) (own_nn (by omega)) (by rw [z0, zd]; omega) (by rw [zc, zd, zp]; exact hc) (by rw [z0, zd, ← own_bylen ds]; exact (own_rangeget _ _).symm) (by rw [zc, zd]; simp) (Fr.app N0 N1) gt (g := (mkF m 22 #[.val (.ref a), .val (.ref t), .val (.int (Int32.ofNat cs.length)), .val (.int (0 : Int32))] [(.int (Int32.ofNat ds.length)), (.int (Int32.ofNat cs.length)), (.ref t), (.int (0 : Int32)), (.ref ta)])) rfl (by rw [hml]; rfl) rfl (hb hby dGb_22) (by decide) (W := 0) (by show 2 * 0 + _ ≤ _; exact Nat.le_of_eq rfl) (by decide)
  have c10 : Steps p.tables e below S0 (T10.setTop (mkF m 25 #[.val (.ref a), .val (.ref t), .val (.int (Int32.ofNat cs.length)), .val (.int (0 : Int32))] [])) := by
    refine c9.trans ?_
    show Steps p.tables e below (T8.setTop (mkF m 22 #[.val (.ref a), .val (.ref t), .val (.int (Int32.ofNat cs.length)), .val (.int (0 : Int32))] [(.int (Int32.ofNat ds.length)), (.int (Int32.ofNat cs.length)), (.ref t), (.int (0 : Int32)), (.ref ta)])) _
    refine st10 _ ?_
    exact Steps.refl _
  have Vf : Arv Z h10 t kt .byte (Int32.ofNat cap) (own_by (cs ++ ds)) (.int 0) := by
    have := V10
    rw [zc, zd, List.take_left' (own_bylen cs), List.drop_of_length_le (by simp), List.append_nil, ← own_byapp] at this
    exact this
  have c11 : Steps p.tables e below S0 (T10.setTop (mkF m 43 #[.val (.ref a), .val (.ref t), .val (.int (Int32.ofNat cs.length)), .val (.int (0 : Int32))] [])) := by
    refine c10.trans ?_
    show Steps p.tables e below (T10.setTop (mkF m 25 #[.val (.ref a), .val (.ref t), .val (.int (Int32.ofNat cs.length)), .val (.int (0 : Int32))] [])) _
    refine XS.goto X10.here hx rfl (pc0 := 25) (pc' := 43) rfl (hb hby dGb_25) (by decide) (by decide) ?_
    exact Steps.refl _
  obtain ⟨fs, hr, hrun, hended, hW, hsame⟩ := X10.leave (v := none) (fun _ => rfl)
  refine ⟨_, _, c11.trans ?_, hrun, hended, _, _, rfl, ?_, ⟨_, rfl⟩, hW, hsame.mono (by decide) (by decide)⟩
  · show Steps p.tables e below (T10.setTop (mkF m 43 #[.val (.ref a), .val (.ref t), .val (.int (Int32.ofNat cs.length)), .val (.int (0 : Int32))] [])) _
    exact X10.returnOut hx Bd.returns (hb hby dGb_43) hr
  · show QGb Z a ta ds t kt cap cs G1 h0 n0 _ T10.heap _
    rw [e10]
    exact ⟨rfl, N10, K10, Vf⟩
def QIf (Z : State) (a : Addr) (ta : Addr) (ds : List Int32) (b : Addr) (G1 : Int32) (h0 : Heap) (n0 : Nat) (v : Option Value) (h : Heap) (L : List Loc) : Prop := v = none ∧ Fr n0 L ∧ h = h0
theorem efIf (m : MethodId) (b : Addr) (a : Addr) : entryFrame m #[(.ref b), (.ref a)] 2 = mkF m 0 #[.val (.ref b), .val (.ref a)] [] := by first | (simp [entryFrame, mkF, argsToLocals, Value.category, List.replicate]; done) | rfl
set_option maxRecDepth 65536 in
set_option maxHeartbeats 40000000 in
theorem rmIf (l : Launch) (Z : State) (a0 : Array Value) (hw : ∀ d ∈ tables_1, d.before a0 Z = true) (ws : List Jvm.Cond) (a : Addr) (ta : Addr) (ds : List Int32) (b : Addr) (G1 : Int32) (h0 : Heap) (n0 : Nat) (Z0 : n0 ≤ h0.size) (O2 : Sta Z Z.heap "java/lang/String" "COMPACT_STRINGS" "Z" (.int G1)) (P5 : ¬ G1 = 0) (X00 : Old Z n0 h0) (S : own_Str Z h0 a ta ds) (hl : ds.length ≤ 500) (Fb : Fld Z h0 b "java/lang/AbstractStringBuilder" "coder" "B" (.int 0)) :
    MetFree l (⟨"java/lang/AbstractStringBuilder", "inflateIfNeededFor", "(Ljava/lang/String;)V"⟩ : MethodName) (head1 (Jvm.Cond.code (⟨"java/lang/AbstractStringBuilder", "inflateIfNeededFor", "(Ljava/lang/String;)V"⟩ : MethodName) jdk_68_method_71_code 2 none :: ws) ({ frames := 1, cells := 0, slots := 0, locals := 14 } : Room)) (fun aa UU => aa = #[(.ref b), (.ref a)] ∧ Z.Warmed39 UU.vm ∧ UU.heap = h0) (fun _ _ _ _ _ => True) (fun _ UU oo UT => ∃ vv LL, oo = .returned vv ∧ QIf Z a ta ds b G1 h0 n0 vv UT.heap LL ∧ FrameEnd UU oo UT LL ({ frames := 1, cells := 0, slots := 0, locals := 14 } : Room).cells ({ frames := 1, cells := 0, slots := 0, locals := 14 } : Room).slots) := by
  refine MetFree.of_bodySF (by decide +kernel) hisR ?_
  intro p e s m args below meth c s₁ Bd hml0 hP hK
  obtain ⟨rfl, hZ, hh⟩ := hP
  have hx := Bd.exec
  have hby := Bd.bytes
  have hml : c.maxLocals = 2 := hml0
  have hown : s.vm.findClass "java/lang/AbstractStringBuilder" = some m.cls := findClass_of_methodNamed Bd.named
  have hnm := (name_of_methodNamed Bd.named Bd.method).1
  have X0 : Stand p l e ({ frames := 1, cells := 0, slots := 0, locals := 14 } : Room) s m #[(.ref b), (.ref a)] below meth c s₁ [] 0 0 := Stand.of_body Bd
  have e0 : s₁.heap = h0 := by rw [← hh, Bd.state]; rfl
  have N0 := Fr.nil n0
  have c0 : Steps p.tables e below (s₁.setTop (entryFrame m #[(.ref b), (.ref a)] 2)) (s₁.setTop (mkF m 0 #[.val (.ref b), .val (.ref a)] [])) := castTop (efIf m b a) (Steps.refl _)
  show ∃ s₂ oo, Steps p.tables e below (s₁.setTop (entryFrame m #[(.ref b), (.ref a)] 2)) s₂ ∧ _ ∧ _ ∧ _
  generalize s₁.setTop (entryFrame m #[(.ref b), (.ref a)] 2) = S0 at c0 ⊢
  obtain ⟨T1, X1, e1, st1⟩ := getS X0 hx hZ hown (host := "") (hw _ (List.mem_of_getElem? (i := 105) rfl)) Via.refl e0 (O2.ext X00.2) (g := (mkF m 0 #[.val (.ref b), .val (.ref a)] [])) rfl (hb hby dIf_0)
  have c1 : Steps p.tables e below S0 (T1.setTop (mkF m 3 #[.val (.ref b), .val (.ref a)] [(.int G1)])) := by
    refine c0.trans ?_
    show Steps p.tables e below (s₁.setTop (mkF m 0 #[.val (.ref b), .val (.ref a)] [])) _
    refine st1 _ ?_
    exact Steps.refl _
  have c2 : Steps p.tables e below S0 (T1.setTop (mkF m 6 #[.val (.ref b), .val (.ref a)] [])) := by
    refine c1.trans ?_
    show Steps p.tables e below (T1.setTop (mkF m 3 #[.val (.ref b), .val (.ref a)] [(.int G1)])) _
    refine XS.ifNo X1.here hx rfl (hb hby dIf_3) rfl ((if0 _ _).trans (feq P5).1) ?_
    exact Steps.refl _
  have c3 : Steps p.tables e below S0 (T1.setTop (mkF m 7 #[.val (.ref b), .val (.ref a)] [(.ref b)])) := by
    refine c2.trans ?_
    show Steps p.tables e below (T1.setTop (mkF m 6 #[.val (.ref b), .val (.ref a)] [])) _
    refine XS.aloadN X1.here hx rfl (hb hby dIf_6) rfl rfl ?_
    exact Steps.refl _
  obtain ⟨T4, X4, e4, st4⟩ := getF X1 hx hZ hown (host := "") (Or.inl (hw _ (List.mem_of_getElem? (i := 70) rfl))) Via.refl e1 Fb (g := (mkF m 7 #[.val (.ref b), .val (.ref a)] [(.ref b)])) rfl rfl (hb hby dIf_7)
  have c4 : Steps p.tables e below S0 (T4.setTop (mkF m 10 #[.val (.ref b), .val (.ref a)] [(.int (0 : Int32))])) := by
    refine c3.trans ?_
    show Steps p.tables e below (T1.setTop (mkF m 7 #[.val (.ref b), .val (.ref a)] [(.ref b)])) _
    refine st4 _ ?_
    exact Steps.refl _
  have c5 : Steps p.tables e below S0 (T4.setTop (mkF m 11 #[.val (.ref b), .val (.ref a)] [(.ref a), (.int (0 : Int32))])) := by
    refine c4.trans ?_
    show Steps p.tables e below (T4.setTop (mkF m 10 #[.val (.ref b), .val (.ref a)] [(.int (0 : Int32))])) _
    refine XS.aloadN X4.here hx rfl (hb hby dIf_10) rfl rfl ?_
    exact Steps.refl _
  obtain ⟨cq6, kq6, q6a, q6b, q6c⟩ := isOf hZ e4 S.1
  obtain ⟨_, _, ⟨T6, L6, k6, n6⟩, -, X6, ⟨Lc6, hQ6, l6, y6, z6⟩, st6⟩ := X4.virtualBack hx (y := (⟨"java/lang/String", "coder", "()B"⟩ : MethodName)) (z := (⟨"java/lang/String", "coder", "()B"⟩ : MethodName)) hown (mvT hZ (hw _ (List.mem_of_getElem? (i := 69) rfl))) (mvT hZ (hw _ (List.mem_of_getElem? (i := 64) rfl))) (notFace_of_selects (args := #[]) (mvT hZ (hw _ (List.mem_of_getElem? (i := 66) rfl)))) (mvT hZ (hw _ (List.mem_of_getElem? (i := 66) rfl))) (mvT hZ (hw _ (List.mem_of_getElem? (i := 65) rfl))) (by decide) (backOf (W := 1) (rmCo l Z a0 hw [] a G1 h0 n0 Z0 O2 P5 X00 S.2.1) hZ (hw _ (List.mem_of_getElem? (i := 67) rfl)) (hw _ (List.mem_of_getElem? (i := 7) rfl)) (by decide) (by decide)) q6a q6c (g := (mkF m 11 #[.val (.ref b), .val (.ref a)] [(.ref a), (.int (0 : Int32))])) rfl (by rw [hml]; rfl) (Steps.refl _) (argsL := []) (rest := [(.int (0 : Int32))]) (lenOf pd0 rfl) rfl (by show 2 * 0 + _ ≤ _; exact Nat.le_of_eq rfl) (hb hby dIf_11) (fun _ _ => ⟨rfl, e4, (by decide : 0 + 0 ≤ _), (by decide : 0 + 0 ≤ _)⟩)
  dsimp only [Pt.U, Pt.locs, Pt.cells, Pt.slots] at X6 l6 y6 z6 st6 hQ6
  subst l6 y6 z6
  obtain ⟨rfl, N1, e1⟩ := hQ6
  have c6 : Steps p.tables e below S0 (T6.setTop (mkF m 14 #[.val (.ref b), .val (.ref a)] [(.int (0 : Int32)), (.int (0 : Int32))])) := by
    refine c5.trans ?_
    show Steps p.tables e below (T4.setTop (mkF m 11 #[.val (.ref b), .val (.ref a)] [(.ref a), (.int (0 : Int32))])) _
    refine st6.trans ?_
    exact Steps.refl _
  have c7 : Steps p.tables e below S0 (T6.setTop (mkF m 21 #[.val (.ref b), .val (.ref a)] [])) := by
    refine c6.trans ?_
    show Steps p.tables e below (T6.setTop (mkF m 14 #[.val (.ref b), .val (.ref a)] [(.int (0 : Int32)), (.int (0 : Int32))])) _
    refine XS.icmpYes X6.here hx rfl (pc0 := 14) (pc' := 21) rfl (hb hby dIf_14) rfl (teq rfl).1 (by decide) (by decide) ?_
    exact Steps.refl _
  obtain ⟨fs, hr, hrun, hended, hW, hsame⟩ := X6.leave (v := none) (fun _ => rfl)
  refine ⟨_, _, c7.trans ?_, hrun, hended, _, _, rfl, ?_, ⟨_, rfl⟩, hW, hsame.mono (by decide) (by decide)⟩
  · show Steps p.tables e below (T6.setTop (mkF m 21 #[.val (.ref b), .val (.ref a)] [])) _
    exact X6.returnOut hx Bd.returns (hb hby dIf_21) hr
  · show QIf Z a ta ds b G1 h0 n0 _ T6.heap _
    rw [e1]
    exact ⟨rfl, Fr.app N0 N1, rfl⟩
def QPs (Z : State) (a : Addr) (ta : Addr) (ds : List Int32) (b : Addr) (t : Addr) (cap : Nat) (cs : List Int32) (G1 : Int32) (h0 : Heap) (n0 : Nat) (v : Option Value) (h : Heap) (L : List Loc) : Prop := v = none ∧ Fr n0 L ∧ Keep h0 h [t] ∧ ∃ k, Arv Z h t k .byte (Int32.ofNat cap) (own_by (cs ++ ds)) (.int 0)
theorem efPs (m : MethodId) (b : Addr) (cs : List Int32) (a : Addr) : entryFrame m #[(.ref b), (.int (Int32.ofNat cs.length)), (.ref a)] 3 = mkF m 0 #[.val (.ref b), .val (.int (Int32.ofNat cs.length)), .val (.ref a)] [] := by first | (simp [entryFrame, mkF, argsToLocals, Value.category, List.replicate]; done) | rfl
set_option maxRecDepth 65536 in
set_option maxHeartbeats 40000000 in
theorem rmPs (l : Launch) (Z : State) (a0 : Array Value) (hw : ∀ d ∈ tables_1, d.before a0 Z = true) (ws : List Jvm.Cond) (a : Addr) (ta : Addr) (ds : List Int32) (b : Addr) (t : Addr) (cap : Nat) (cs : List Int32) (G1 : Int32) (h0 : Heap) (n0 : Nat) (Z0 : n0 ≤ h0.size) (O2 : Sta Z Z.heap "java/lang/String" "COMPACT_STRINGS" "Z" (.int G1)) (P5 : ¬ G1 = 0) (X00 : Old Z n0 h0) (S : own_Str Z h0 a ta ds) (hl : ds.length ≤ 500) (B : own_SB Z h0 b t cap cs) (hc : cs.length + ds.length ≤ cap) (gt : n0 ≤ t) :
    MetFree l (⟨"java/lang/AbstractStringBuilder", "putStringAt", "(ILjava/lang/String;)V"⟩ : MethodName) (head1 (Jvm.Cond.code (⟨"java/lang/AbstractStringBuilder", "putStringAt", "(ILjava/lang/String;)V"⟩ : MethodName) jdk_68_method_73_code 3 none :: ws) ({ frames := 2, cells := 0, slots := 0, locals := 60 } : Room)) (fun aa UU => aa = #[(.ref b), (.int (Int32.ofNat cs.length)), (.ref a)] ∧ Z.Warmed39 UU.vm ∧ UU.heap = h0) (fun _ _ _ _ _ => True) (fun _ UU oo UT => ∃ vv LL, oo = .returned vv ∧ QPs Z a ta ds b t cap cs G1 h0 n0 vv UT.heap LL ∧ FrameEnd UU oo UT LL ({ frames := 2, cells := 0, slots := 0, locals := 60 } : Room).cells ({ frames := 2, cells := 0, slots := 0, locals := 60 } : Room).slots) := by
  refine MetFree.of_bodySF (by decide +kernel) hisR ?_
  intro p e s m args below meth c s₁ Bd hml0 hP hK
  obtain ⟨rfl, hZ, hh⟩ := hP
  have hx := Bd.exec
  have hby := Bd.bytes
  have hml : c.maxLocals = 3 := hml0
  have hown : s.vm.findClass "java/lang/AbstractStringBuilder" = some m.cls := findClass_of_methodNamed Bd.named
  have hnm := (name_of_methodNamed Bd.named Bd.method).1
  have X0 : Stand p l e ({ frames := 2, cells := 0, slots := 0, locals := 60 } : Room) s m #[(.ref b), (.int (Int32.ofNat cs.length)), (.ref a)] below meth c s₁ [] 0 0 := Stand.of_body Bd
  have e0 : s₁.heap = h0 := by rw [← hh, Bd.state]; rfl
  have N0 := Fr.nil n0
  have c0 : Steps p.tables e below (s₁.setTop (entryFrame m #[(.ref b), (.int (Int32.ofNat cs.length)), (.ref a)] 3)) (s₁.setTop (mkF m 0 #[.val (.ref b), .val (.int (Int32.ofNat cs.length)), .val (.ref a)] [])) := castTop (efPs m b cs a) (Steps.refl _)
  show ∃ s₂ oo, Steps p.tables e below (s₁.setTop (entryFrame m #[(.ref b), (.int (Int32.ofNat cs.length)), (.ref a)] 3)) s₂ ∧ _ ∧ _ ∧ _
  generalize s₁.setTop (entryFrame m #[(.ref b), (.int (Int32.ofNat cs.length)), (.ref a)] 3) = S0 at c0 ⊢
  obtain ⟨Eb, Fco, Fcn, Fva, ⟨kt, Vt, Et⟩, -, -, hcap⟩ := id B
  have c1 : Steps p.tables e below S0 (s₁.setTop (mkF m 2 #[.val (.ref b), .val (.int (Int32.ofNat cs.length)), .val (.ref a)] [(.ref a), (.ref b)])) := by
    refine c0.trans ?_
    show Steps p.tables e below (s₁.setTop (mkF m 0 #[.val (.ref b), .val (.int (Int32.ofNat cs.length)), .val (.ref a)] [])) _
    refine XS.aloadN X0.here hx rfl (hb hby dPs_0) rfl rfl ?_
    show Steps p.tables e below (s₁.setTop (mkF m 1 #[.val (.ref b), .val (.int (Int32.ofNat cs.length)), .val (.ref a)] [(.ref b)])) _
    refine XS.aloadN X0.here hx rfl (hb hby dPs_1) rfl rfl ?_
    exact Steps.refl _
  obtain ⟨cq2, q2, q2'⟩ := (Eb).cell
  obtain ⟨_, _, ⟨T2, L2, k2, n2⟩, -, X2, ⟨Lc2, hQ2, l2, y2, z2⟩, st2⟩ := X0.privateBack hx (y := (⟨"java/lang/AbstractStringBuilder", "inflateIfNeededFor", "(Ljava/lang/String;)V"⟩ : MethodName)) hown (mvT hZ (hw _ (List.mem_of_getElem? (i := 100) rfl))) (mvT hZ (hw _ (List.mem_of_getElem? (i := 101) rfl))) (mvT hZ (own_selself (hw _ (List.mem_of_getElem? (i := 103) rfl)) (hw _ (List.mem_of_getElem? (i := 102) rfl)) (hw _ (List.mem_of_getElem? (i := 101) rfl)) (by decide))) (Cond.privateMethod_at (mvP hZ (hw _ (List.mem_of_getElem? (i := 102) rfl)) (args := #[]))) (mvT hZ (hw _ (List.mem_of_getElem? (i := 104) rfl))) (by decide) (backOf (W := 0) (rmIf l Z a0 hw [] a ta ds b G1 h0 n0 Z0 O2 P5 X00 S hl Fco) hZ (hw _ (List.mem_of_getElem? (i := 104) rfl)) (hw _ (List.mem_of_getElem? (i := 55) rfl)) (by decide) (by decide)) (g := (mkF m 2 #[.val (.ref b), .val (.int (Int32.ofNat cs.length)), .val (.ref a)] [(.ref a), (.ref b)])) rfl (by rw [hml]; rfl) (Steps.refl _) (a := b) (by rw [e0]; exact q2) q2' (argsL := [(.ref a)]) (rest := []) (lenOf pd1 rfl) rfl (by show 2 * 0 + _ ≤ _; exact Nat.le_of_eq rfl) (hb hby dPs_2) (fun _ _ => ⟨rfl, e0, (by decide : 0 + 0 ≤ _), (by decide : 0 + 0 ≤ _)⟩)
  dsimp only [Pt.U, Pt.locs, Pt.cells, Pt.slots] at X2 l2 y2 z2 st2 hQ2
  subst l2 y2 z2
  obtain ⟨rfl, N1, e1⟩ := hQ2
  have c2 : Steps p.tables e below S0 (T2.setTop (mkF m 5 #[.val (.ref b), .val (.int (Int32.ofNat cs.length)), .val (.ref a)] [])) := by
    refine c1.trans ?_
    show Steps p.tables e below (s₁.setTop (mkF m 2 #[.val (.ref b), .val (.int (Int32.ofNat cs.length)), .val (.ref a)] [(.ref a), (.ref b)])) _
    refine st2.trans ?_
    exact Steps.refl _
  have c3 : Steps p.tables e below S0 (T2.setTop (mkF m 7 #[.val (.ref b), .val (.int (Int32.ofNat cs.length)), .val (.ref a)] [(.ref b), (.ref a)])) := by
    refine c2.trans ?_
    show Steps p.tables e below (T2.setTop (mkF m 5 #[.val (.ref b), .val (.int (Int32.ofNat cs.length)), .val (.ref a)] [])) _
    refine XS.aloadN X2.here hx rfl (hb hby dPs_5) rfl rfl ?_
    show Steps p.tables e below (T2.setTop (mkF m 6 #[.val (.ref b), .val (.int (Int32.ofNat cs.length)), .val (.ref a)] [(.ref a)])) _
    refine XS.aloadN X2.here hx rfl (hb hby dPs_6) rfl rfl ?_
    exact Steps.refl _
  obtain ⟨T4, X4, e4, st4⟩ := getF X2 hx hZ hown (host := "") (Or.inl (hw _ (List.mem_of_getElem? (i := 72) rfl))) Via.refl e1 Fva (g := (mkF m 7 #[.val (.ref b), .val (.int (Int32.ofNat cs.length)), .val (.ref a)] [(.ref b), (.ref a)])) rfl rfl (hb hby dPs_7)
  have c4 : Steps p.tables e below S0 (T4.setTop (mkF m 10 #[.val (.ref b), .val (.int (Int32.ofNat cs.length)), .val (.ref a)] [(.ref t), (.ref a)])) := by
    refine c3.trans ?_
    show Steps p.tables e below (T2.setTop (mkF m 7 #[.val (.ref b), .val (.int (Int32.ofNat cs.length)), .val (.ref a)] [(.ref b), (.ref a)])) _
    refine st4 _ ?_
    exact Steps.refl _
  have c5 : Steps p.tables e below S0 (T4.setTop (mkF m 12 #[.val (.ref b), .val (.int (Int32.ofNat cs.length)), .val (.ref a)] [(.ref b), (.int (Int32.ofNat cs.length)), (.ref t), (.ref a)])) := by
    refine c4.trans ?_
    show Steps p.tables e below (T4.setTop (mkF m 10 #[.val (.ref b), .val (.int (Int32.ofNat cs.length)), .val (.ref a)] [(.ref t), (.ref a)])) _
    refine XS.iloadN X4.here hx rfl (hb hby dPs_10) rfl ?_
    show Steps p.tables e below (T4.setTop (mkF m 11 #[.val (.ref b), .val (.int (Int32.ofNat cs.length)), .val (.ref a)] [(.int (Int32.ofNat cs.length)), (.ref t), (.ref a)])) _
    refine XS.aloadN X4.here hx rfl (hb hby dPs_11) rfl rfl ?_
    exact Steps.refl _
  obtain ⟨T6, X6, e6, st6⟩ := getF X4 hx hZ hown (host := "") (Or.inl (hw _ (List.mem_of_getElem? (i := 70) rfl))) Via.refl e4 Fco (g := (mkF m 12 #[.val (.ref b), .val (.int (Int32.ofNat cs.length)), .val (.ref a)] [(.ref b), (.int (Int32.ofNat cs.length)), (.ref t), (.ref a)])) rfl rfl (hb hby dPs_12)
  have c6 : Steps p.tables e below S0 (T6.setTop (mkF m 15 #[.val (.ref b), .val (.int (Int32.ofNat cs.length)), .val (.ref a)] [(.int (0 : Int32)), (.int (Int32.ofNat cs.length)), (.ref t), (.ref a)])) := by
    refine c5.trans ?_
    show Steps p.tables e below (T4.setTop (mkF m 12 #[.val (.ref b), .val (.int (Int32.ofNat cs.length)), .val (.ref a)] [(.ref b), (.int (Int32.ofNat cs.length)), (.ref t), (.ref a)])) _
    refine st6 _ ?_
    exact Steps.refl _
  obtain ⟨cq7, kq7, q7a, q7b, q7c⟩ := isOf hZ e6 S.1
  obtain ⟨_, _, ⟨T7, L7, k7, n7⟩, -, X7, ⟨Lc7, hQ7, l7, y7, z7⟩, st7⟩ := X6.virtualBack hx (y := (⟨"java/lang/String", "getBytes", "([BIB)V"⟩ : MethodName)) (z := (⟨"java/lang/String", "getBytes", "([BIB)V"⟩ : MethodName)) hown (mvT hZ (hw _ (List.mem_of_getElem? (i := 106) rfl))) (mvT hZ (hw _ (List.mem_of_getElem? (i := 107) rfl))) (notFace_of_selects (args := #[]) (mvT hZ (hw _ (List.mem_of_getElem? (i := 109) rfl)))) (mvT hZ (hw _ (List.mem_of_getElem? (i := 109) rfl))) (mvT hZ (hw _ (List.mem_of_getElem? (i := 108) rfl))) (by decide) (backOf (W := 0) (rmGb l Z a0 hw [] a ta ds t kt cap cs G1 h0 n0 Z0 O2 P5 X00 S hl Vt hc hcap gt) hZ (hw _ (List.mem_of_getElem? (i := 110) rfl)) (hw _ (List.mem_of_getElem? (i := 7) rfl)) (by decide) (by decide)) q7a q7c (g := (mkF m 15 #[.val (.ref b), .val (.int (Int32.ofNat cs.length)), .val (.ref a)] [(.int (0 : Int32)), (.int (Int32.ofNat cs.length)), (.ref t), (.ref a)])) rfl (by rw [hml]; rfl) (Steps.refl _) (argsL := [(.ref t), (.int (Int32.ofNat cs.length)), (.int (0 : Int32))]) (rest := []) (lenOf pd2 rfl) rfl (by show 2 * 0 + _ ≤ _; exact Nat.le_of_eq rfl) (hb hby dPs_15) (fun _ _ => ⟨rfl, e6, (by decide : 0 + 0 ≤ _), (by decide : 0 + 0 ≤ _)⟩)
  dsimp only [Pt.U, Pt.locs, Pt.cells, Pt.slots] at X7 l7 y7 z7 st7 hQ7
  subst l7 y7 z7
  obtain ⟨rfl, N2, K2, V2⟩ := hQ7
  have c7 : Steps p.tables e below S0 (T7.setTop (mkF m 18 #[.val (.ref b), .val (.int (Int32.ofNat cs.length)), .val (.ref a)] [])) := by
    refine c6.trans ?_
    show Steps p.tables e below (T6.setTop (mkF m 15 #[.val (.ref b), .val (.int (Int32.ofNat cs.length)), .val (.ref a)] [(.int (0 : Int32)), (.int (Int32.ofNat cs.length)), (.ref t), (.ref a)])) _
    refine st7.trans ?_
    exact Steps.refl _
  obtain ⟨fs, hr, hrun, hended, hW, hsame⟩ := X7.leave (v := none) (fun _ => rfl)
  refine ⟨_, _, c7.trans ?_, hrun, hended, _, _, rfl, ?_, ⟨_, rfl⟩, hW, hsame.mono (by decide) (by decide)⟩
  · show Steps p.tables e below (T7.setTop (mkF m 18 #[.val (.ref b), .val (.int (Int32.ofNat cs.length)), .val (.ref a)] [])) _
    exact X7.returnOut hx Bd.returns (hb hby dPs_18) hr
  · show QPs Z a ta ds b t cap cs G1 h0 n0 _ T7.heap _
    exact ⟨rfl, Fr.app (Fr.app N0 N1) N2, K2, _, V2⟩
def QEc (Z : State) (b : Addr) (t : Addr) (cap : Nat) (cs : List Int32) (mn : Nat) (G1 : Int32) (h0 : Heap) (n0 : Nat) (v : Option Value) (h : Heap) (L : List Loc) : Prop := v = none ∧ Fr n0 L ∧ h = h0
theorem efEc (m : MethodId) (b : Addr) (mn : Nat) : entryFrame m #[(.ref b), (.int (Int32.ofNat mn))] 3 = mkF m 0 #[.val (.ref b), .val (.int (Int32.ofNat mn)), .unset] [] := by first | (simp [entryFrame, mkF, argsToLocals, Value.category, List.replicate]; done) | rfl
set_option maxRecDepth 65536 in
set_option maxHeartbeats 40000000 in
theorem rmEc (l : Launch) (Z : State) (a0 : Array Value) (hw : ∀ d ∈ tables_1, d.before a0 Z = true) (ws : List Jvm.Cond) (b : Addr) (t : Addr) (cap : Nat) (cs : List Int32) (mn : Nat) (G1 : Int32) (h0 : Heap) (n0 : Nat) (Z0 : n0 ≤ h0.size) (B : own_SB Z h0 b t cap cs) (hmn : mn ≤ 100) (hfit : mn ≤ cap) :
    MetFree l (⟨"java/lang/AbstractStringBuilder", "ensureCapacityInternal", "(I)V"⟩ : MethodName) (head1 (Jvm.Cond.code (⟨"java/lang/AbstractStringBuilder", "ensureCapacityInternal", "(I)V"⟩ : MethodName) jdk_68_method_9_code 3 none :: ws) ({ frames := 0, cells := 0, slots := 0, locals := 0 } : Room)) (fun aa UU => aa = #[(.ref b), (.int (Int32.ofNat mn))] ∧ Z.Warmed39 UU.vm ∧ UU.heap = h0) (fun _ _ _ _ _ => True) (fun _ UU oo UT => ∃ vv LL, oo = .returned vv ∧ QEc Z b t cap cs mn G1 h0 n0 vv UT.heap LL ∧ FrameEnd UU oo UT LL ({ frames := 0, cells := 0, slots := 0, locals := 0 } : Room).cells ({ frames := 0, cells := 0, slots := 0, locals := 0 } : Room).slots) := by
  refine MetFree.of_bodySF (by decide +kernel) hisR ?_
  intro p e s m args below meth c s₁ Bd hml0 hP hK
  obtain ⟨rfl, hZ, hh⟩ := hP
  have hx := Bd.exec
  have hby := Bd.bytes
  have hml : c.maxLocals = 3 := hml0
  have hown : s.vm.findClass "java/lang/AbstractStringBuilder" = some m.cls := findClass_of_methodNamed Bd.named
  have hnm := (name_of_methodNamed Bd.named Bd.method).1
  have X0 : Stand p l e ({ frames := 0, cells := 0, slots := 0, locals := 0 } : Room) s m #[(.ref b), (.int (Int32.ofNat mn))] below meth c s₁ [] 0 0 := Stand.of_body Bd
  have e0 : s₁.heap = h0 := by rw [← hh, Bd.state]; rfl
  have N0 := Fr.nil n0
  have c0 : Steps p.tables e below (s₁.setTop (entryFrame m #[(.ref b), (.int (Int32.ofNat mn))] 3)) (s₁.setTop (mkF m 0 #[.val (.ref b), .val (.int (Int32.ofNat mn)), .unset] [])) := castTop (efEc m b mn) (Steps.refl _)
  show ∃ s₂ oo, Steps p.tables e below (s₁.setTop (entryFrame m #[(.ref b), (.int (Int32.ofNat mn))] 3)) s₂ ∧ _ ∧ _ ∧ _
  generalize s₁.setTop (entryFrame m #[(.ref b), (.int (Int32.ofNat mn))] 3) = S0 at c0 ⊢
  obtain ⟨Eb, Fco, Fcn, Fva, ⟨kt, Vt, Et⟩, hch, hle, hcap⟩ := id B
  obtain ⟨cl, Ar, -, Sz, Mz, -, -⟩ := id Vt
  have c1 : Steps p.tables e below S0 (s₁.setTop (mkF m 1 #[.val (.ref b), .val (.int (Int32.ofNat mn)), .unset] [(.ref b)])) := by
    refine c0.trans ?_
    show Steps p.tables e below (s₁.setTop (mkF m 0 #[.val (.ref b), .val (.int (Int32.ofNat mn)), .unset] [])) _
    refine XS.aloadN X0.here hx rfl (hb hby dEc_0) rfl rfl ?_
    exact Steps.refl _
  obtain ⟨T2, X2, e2, st2⟩ := getF X0 hx hZ hown (host := "") (Or.inl (hw _ (List.mem_of_getElem? (i := 72) rfl))) Via.refl e0 Fva (g := (mkF m 1 #[.val (.ref b), .val (.int (Int32.ofNat mn)), .unset] [(.ref b)])) rfl rfl (hb hby dEc_1)
  have c2 : Steps p.tables e below S0 (T2.setTop (mkF m 4 #[.val (.ref b), .val (.int (Int32.ofNat mn)), .unset] [(.ref t)])) := by
    refine c1.trans ?_
    show Steps p.tables e below (s₁.setTop (mkF m 1 #[.val (.ref b), .val (.int (Int32.ofNat mn)), .unset] [(.ref b)])) _
    refine st2 _ ?_
    exact Steps.refl _
  have c3 : Steps p.tables e below S0 (T2.setTop (mkF m 5 #[.val (.ref b), .val (.int (Int32.ofNat mn)), .unset] [(.int (Int32.ofNat cap))])) := by
    refine c2.trans ?_
    show Steps p.tables e below (T2.setTop (mkF m 4 #[.val (.ref b), .val (.int (Int32.ofNat mn)), .unset] [(.ref t)])) _
    refine X2.arraylength hx (by rw [e2]; exact Ar.1) (State.isArrayOf_alike hZ.alike Ar.2.1) (g := (mkF m 4 #[.val (.ref b), .val (.int (Int32.ofNat mn)), .unset] [(.ref t)])) rfl rfl (hb hby dEc_4) _ ?_
    rw [len_of Sz Mz]
    exact Steps.refl _
  have c4 : Steps p.tables e below S0 (T2.setTop (mkF m 6 #[.val (.ref b), .val (.int (Int32.ofNat mn)), .unset] [(.ref b), (.int (Int32.ofNat cap))])) := by
    refine c3.trans ?_
    show Steps p.tables e below (T2.setTop (mkF m 5 #[.val (.ref b), .val (.int (Int32.ofNat mn)), .unset] [(.int (Int32.ofNat cap))])) _
    refine XS.aloadN X2.here hx rfl (hb hby dEc_5) rfl rfl ?_
    exact Steps.refl _
  obtain ⟨T5, X5, e5, st5⟩ := getF X2 hx hZ hown (host := "") (Or.inl (hw _ (List.mem_of_getElem? (i := 70) rfl))) Via.refl e2 Fco (g := (mkF m 6 #[.val (.ref b), .val (.int (Int32.ofNat mn)), .unset] [(.ref b), (.int (Int32.ofNat cap))])) rfl rfl (hb hby dEc_6)
  have c5 : Steps p.tables e below S0 (T5.setTop (mkF m 9 #[.val (.ref b), .val (.int (Int32.ofNat mn)), .unset] [(.int (0 : Int32)), (.int (Int32.ofNat cap))])) := by
    refine c4.trans ?_
    show Steps p.tables e below (T2.setTop (mkF m 6 #[.val (.ref b), .val (.int (Int32.ofNat mn)), .unset] [(.ref b), (.int (Int32.ofNat cap))])) _
    refine st5 _ ?_
    exact Steps.refl _
  have c6 : Steps p.tables e below S0 (T5.setTop (mkF m 10 #[.val (.ref b), .val (.int (Int32.ofNat mn)), .unset] [(.int ((Int32.ofNat cap) >>> ((0 : Int32) &&& 31)))])) := by
    refine c5.trans ?_
    show Steps p.tables e below (T5.setTop (mkF m 9 #[.val (.ref b), .val (.int (Int32.ofNat mn)), .unset] [(.int (0 : Int32)), (.int (Int32.ofNat cap))])) _
    refine XS.ishr X5.here hx rfl (hb hby dEc_9) rfl ?_
    exact Steps.refl _
  rw [own_shr0] at c6
  have c7 : Steps p.tables e below S0 (T5.setTop (mkF m 14 #[.val (.ref b), .val (.int (Int32.ofNat mn)), .val (.int (Int32.ofNat cap))] [(.int ((Int32.ofNat mn) - (Int32.ofNat cap)))])) := by
    refine c6.trans ?_
    show Steps p.tables e below (T5.setTop (mkF m 10 #[.val (.ref b), .val (.int (Int32.ofNat mn)), .unset] [(.int (Int32.ofNat cap))])) _
    refine XS.istoreN X5.here hx rfl (hb hby dEc_10) rfl (l' := #[.val (.ref b), .val (.int (Int32.ofNat mn)), .val (.int (Int32.ofNat cap))]) rfl ?_
    show Steps p.tables e below (T5.setTop (mkF m 11 #[.val (.ref b), .val (.int (Int32.ofNat mn)), .val (.int (Int32.ofNat cap))] [])) _
    refine XS.iloadN X5.here hx rfl (hb hby dEc_11) rfl ?_
    show Steps p.tables e below (T5.setTop (mkF m 12 #[.val (.ref b), .val (.int (Int32.ofNat mn)), .val (.int (Int32.ofNat cap))] [(.int (Int32.ofNat mn))])) _
    refine XS.iloadN X5.here hx rfl (hb hby dEc_12) rfl ?_
    show Steps p.tables e below (T5.setTop (mkF m 13 #[.val (.ref b), .val (.int (Int32.ofNat mn)), .val (.int (Int32.ofNat cap))] [(.int (Int32.ofNat cap)), (.int (Int32.ofNat mn))])) _
    refine XS.isub X5.here hx rfl (hb hby dEc_13) rfl ?_
    exact Steps.refl _
  have c8 : Steps p.tables e below S0 (T5.setTop (mkF m 38 #[.val (.ref b), .val (.int (Int32.ofNat mn)), .val (.int (Int32.ofNat cap))] [])) := by
    refine c7.trans ?_
    show Steps p.tables e below (T5.setTop (mkF m 14 #[.val (.ref b), .val (.int (Int32.ofNat mn)), .val (.int (Int32.ofNat cap))] [(.int ((Int32.ofNat mn) - (Int32.ofNat cap)))])) _
    refine XS.ifYes X5.here hx rfl (pc0 := 14) (pc' := 38) rfl (hb hby dEc_14) rfl ((if0 _ _).trans (flt (own_gt (by omega) (by omega) hfit)).2.2.2) (by decide) (by decide) ?_
    exact Steps.refl _
  obtain ⟨fs, hr, hrun, hended, hW, hsame⟩ := X5.leave (v := none) (fun _ => rfl)
  refine ⟨_, _, c8.trans ?_, hrun, hended, _, _, rfl, ?_, ⟨_, rfl⟩, hW, hsame.mono (by decide) (by decide)⟩
  · show Steps p.tables e below (T5.setTop (mkF m 38 #[.val (.ref b), .val (.int (Int32.ofNat mn)), .val (.int (Int32.ofNat cap))] [])) _
    exact X5.returnOut hx Bd.returns (hb hby dEc_38) hr
  · show QEc Z b t cap cs mn G1 h0 n0 _ T5.heap _
    rw [e5]
    exact ⟨rfl, N0, rfl⟩
def QAa (Z : State) (a : Addr) (ta : Addr) (ds : List Int32) (b : Addr) (t : Addr) (cap : Nat) (cs : List Int32) (G1 : Int32) (h0 : Heap) (n0 : Nat) (v : Option Value) (h : Heap) (L : List Loc) : Prop := v = some (.ref b) ∧ Fr n0 L ∧ own_SB Z h b t cap (cs ++ ds) ∧ Keep h0 h [b, t]
theorem efAa (m : MethodId) (b : Addr) (a : Addr) : entryFrame m #[(.ref b), (.ref a)] 3 = mkF m 0 #[.val (.ref b), .val (.ref a), .unset] [] := by first | (simp [entryFrame, mkF, argsToLocals, Value.category, List.replicate]; done) | rfl
set_option maxRecDepth 65536 in
set_option maxHeartbeats 40000000 in
theorem rmAa (l : Launch) (Z : State) (a0 : Array Value) (hw : ∀ d ∈ tables_1, d.before a0 Z = true) (ws : List Jvm.Cond) (a : Addr) (ta : Addr) (ds : List Int32) (b : Addr) (t : Addr) (cap : Nat) (cs : List Int32) (G1 : Int32) (h0 : Heap) (n0 : Nat) (Z0 : n0 ≤ h0.size) (O2 : Sta Z Z.heap "java/lang/String" "COMPACT_STRINGS" "Z" (.int G1)) (P5 : ¬ G1 = 0) (X00 : Old Z n0 h0) (S : own_Str Z h0 a ta ds) (hl : ds.length ≤ 500) (B : own_SB Z h0 b t cap cs) (hc : cs.length + ds.length ≤ cap) (hcap4 : cap ≤ 100) (gb : n0 ≤ b) (gt : n0 ≤ t) :
    MetFree l (⟨"java/lang/AbstractStringBuilder", "append", "(Ljava/lang/String;)Ljava/lang/AbstractStringBuilder;"⟩ : MethodName) (head1 (Jvm.Cond.code (⟨"java/lang/AbstractStringBuilder", "append", "(Ljava/lang/String;)Ljava/lang/AbstractStringBuilder;"⟩ : MethodName) jdk_68_method_22_code 3 (some (.object "java/lang/AbstractStringBuilder")) :: ws) ({ frames := 5, cells := 0, slots := 0, locals := 80 } : Room)) (fun aa UU => aa = #[(.ref b), (.ref a)] ∧ Z.Warmed39 UU.vm ∧ UU.heap = h0) (fun _ _ _ _ _ => True) (fun _ UU oo UT => ∃ vv LL, oo = .returned vv ∧ QAa Z a ta ds b t cap cs G1 h0 n0 vv UT.heap LL ∧ FrameEnd UU oo UT LL ({ frames := 5, cells := 0, slots := 0, locals := 80 } : Room).cells ({ frames := 5, cells := 0, slots := 0, locals := 80 } : Room).slots) := by
  refine MetFree.of_bodySF (by decide +kernel) hisR ?_
  intro p e s m args below meth c s₁ Bd hml0 hP hK
  obtain ⟨rfl, hZ, hh⟩ := hP
  have hx := Bd.exec
  have hby := Bd.bytes
  have hml : c.maxLocals = 3 := hml0
  have hown : s.vm.findClass "java/lang/AbstractStringBuilder" = some m.cls := findClass_of_methodNamed Bd.named
  have hnm := (name_of_methodNamed Bd.named Bd.method).1
  have X0 : Stand p l e ({ frames := 5, cells := 0, slots := 0, locals := 80 } : Room) s m #[(.ref b), (.ref a)] below meth c s₁ [] 0 0 := Stand.of_body Bd
  have e0 : s₁.heap = h0 := by rw [← hh, Bd.state]; rfl
  have N0 := Fr.nil n0
  have c0 : Steps p.tables e below (s₁.setTop (entryFrame m #[(.ref b), (.ref a)] 3)) (s₁.setTop (mkF m 0 #[.val (.ref b), .val (.ref a), .unset] [])) := castTop (efAa m b a) (Steps.refl _)
  show ∃ s₂ oo, Steps p.tables e below (s₁.setTop (entryFrame m #[(.ref b), (.ref a)] 3)) s₂ ∧ _ ∧ _ ∧ _
  generalize s₁.setTop (entryFrame m #[(.ref b), (.ref a)] 3) = S0 at c0 ⊢
  obtain ⟨Eb, Fco, Fcn, Fva, ⟨kt, Vt, Et⟩, hch, hle, hcap⟩ := id B
  have c1 : Steps p.tables e below S0 (s₁.setTop (mkF m 9 #[.val (.ref b), .val (.ref a), .unset] [])) := by
    refine c0.trans ?_
    show Steps p.tables e below (s₁.setTop (mkF m 0 #[.val (.ref b), .val (.ref a), .unset] [])) _
    refine XS.aloadN X0.here hx rfl (hb hby dAa_0) rfl rfl ?_
    show Steps p.tables e below (s₁.setTop (mkF m 1 #[.val (.ref b), .val (.ref a), .unset] [(.ref a)])) _
    refine XS.ifnonnullYes X0.here hx rfl (pc0 := 1) (pc' := 9) rfl (hb hby dAa_1) rfl (by decide) (by decide) ?_
    exact Steps.refl _
  have c2 : Steps p.tables e below S0 (s₁.setTop (mkF m 10 #[.val (.ref b), .val (.ref a), .unset] [(.ref a)])) := by
    refine c1.trans ?_
    show Steps p.tables e below (s₁.setTop (mkF m 9 #[.val (.ref b), .val (.ref a), .unset] [])) _
    refine XS.aloadN X0.here hx rfl (hb hby dAa_9) rfl rfl ?_
    exact Steps.refl _
  obtain ⟨cq3, kq3, q3a, q3b, q3c⟩ := isOf hZ e0 S.1
  obtain ⟨_, _, ⟨T3, L3, k3, n3⟩, -, X3, ⟨Lc3, hQ3, l3, y3, z3⟩, st3⟩ := X0.virtualBack hx (y := (⟨"java/lang/String", "length", "()I"⟩ : MethodName)) (z := (⟨"java/lang/String", "length", "()I"⟩ : MethodName)) hown (mvT hZ (hw _ (List.mem_of_getElem? (i := 58) rfl))) (mvT hZ (hw _ (List.mem_of_getElem? (i := 59) rfl))) (notFace_of_selects (args := #[]) (mvT hZ (hw _ (List.mem_of_getElem? (i := 61) rfl)))) (mvT hZ (hw _ (List.mem_of_getElem? (i := 61) rfl))) (mvT hZ (hw _ (List.mem_of_getElem? (i := 60) rfl))) (by decide) (backOf (W := 0) (rmLe l Z a0 hw [] a ta ds G1 h0 n0 Z0 O2 P5 X00 S (by omega)) hZ (hw _ (List.mem_of_getElem? (i := 62) rfl)) (hw _ (List.mem_of_getElem? (i := 7) rfl)) (by decide) (by decide)) q3a q3c (g := (mkF m 10 #[.val (.ref b), .val (.ref a), .unset] [(.ref a)])) rfl (by rw [hml]; rfl) (Steps.refl _) (argsL := []) (rest := []) (lenOf pd3 rfl) rfl (by show 2 * 0 + _ ≤ _; exact Nat.le_of_eq rfl) (hb hby dAa_10) (fun _ _ => ⟨rfl, e0, (by decide : 0 + 0 ≤ _), (by decide : 0 + 0 ≤ _)⟩)
  dsimp only [Pt.U, Pt.locs, Pt.cells, Pt.slots] at X3 l3 y3 z3 st3 hQ3
  subst l3 y3 z3
  obtain ⟨rfl, N1, e1⟩ := hQ3
  have c3 : Steps p.tables e below S0 (T3.setTop (mkF m 13 #[.val (.ref b), .val (.ref a), .unset] [(.int (Int32.ofNat ds.length))])) := by
    refine c2.trans ?_
    show Steps p.tables e below (s₁.setTop (mkF m 10 #[.val (.ref b), .val (.ref a), .unset] [(.ref a)])) _
    refine st3.trans ?_
    exact Steps.refl _
  have c4 : Steps p.tables e below S0 (T3.setTop (mkF m 16 #[.val (.ref b), .val (.ref a), .val (.int (Int32.ofNat ds.length))] [(.ref b), (.ref b)])) := by
    refine c3.trans ?_
    show Steps p.tables e below (T3.setTop (mkF m 13 #[.val (.ref b), .val (.ref a), .unset] [(.int (Int32.ofNat ds.length))])) _
    refine XS.istoreN X3.here hx rfl (hb hby dAa_13) rfl (l' := #[.val (.ref b), .val (.ref a), .val (.int (Int32.ofNat ds.length))]) rfl ?_
    show Steps p.tables e below (T3.setTop (mkF m 14 #[.val (.ref b), .val (.ref a), .val (.int (Int32.ofNat ds.length))] [])) _
    refine XS.aloadN X3.here hx rfl (hb hby dAa_14) rfl rfl ?_
    show Steps p.tables e below (T3.setTop (mkF m 15 #[.val (.ref b), .val (.ref a), .val (.int (Int32.ofNat ds.length))] [(.ref b)])) _
    refine XS.aloadN X3.here hx rfl (hb hby dAa_15) rfl rfl ?_
    exact Steps.refl _
  obtain ⟨T5, X5, e5, st5⟩ := getF X3 hx hZ hown (host := "") (Or.inl (hw _ (List.mem_of_getElem? (i := 88) rfl))) Via.refl e1 Fcn (g := (mkF m 16 #[.val (.ref b), .val (.ref a), .val (.int (Int32.ofNat ds.length))] [(.ref b), (.ref b)])) rfl rfl (hb hby dAa_16)
  have c5 : Steps p.tables e below S0 (T5.setTop (mkF m 19 #[.val (.ref b), .val (.ref a), .val (.int (Int32.ofNat ds.length))] [(.int (Int32.ofNat cs.length)), (.ref b)])) := by
    refine c4.trans ?_
    show Steps p.tables e below (T3.setTop (mkF m 16 #[.val (.ref b), .val (.ref a), .val (.int (Int32.ofNat ds.length))] [(.ref b), (.ref b)])) _
    refine st5 _ ?_
    exact Steps.refl _
  have c6 : Steps p.tables e below S0 (T5.setTop (mkF m 21 #[.val (.ref b), .val (.ref a), .val (.int (Int32.ofNat ds.length))] [(.int ((Int32.ofNat cs.length) + (Int32.ofNat ds.length))), (.ref b)])) := by
    refine c5.trans ?_
    show Steps p.tables e below (T5.setTop (mkF m 19 #[.val (.ref b), .val (.ref a), .val (.int (Int32.ofNat ds.length))] [(.int (Int32.ofNat cs.length)), (.ref b)])) _
    refine XS.iloadN X5.here hx rfl (hb hby dAa_19) rfl ?_
    show Steps p.tables e below (T5.setTop (mkF m 20 #[.val (.ref b), .val (.ref a), .val (.int (Int32.ofNat ds.length))] [(.int (Int32.ofNat ds.length)), (.int (Int32.ofNat cs.length)), (.ref b)])) _
    refine XS.iadd X5.here hx rfl (hb hby dAa_20) rfl ?_
    exact Steps.refl _
  rw [own_addn (by omega)] at c6
  obtain ⟨cq7, q7, q7'⟩ := (Eb).cell
  obtain ⟨_, _, ⟨T7, L7, k7, n7⟩, -, X7, ⟨Lc7, hQ7, l7, y7, z7⟩, st7⟩ := X5.privateBack hx (y := (⟨"java/lang/AbstractStringBuilder", "ensureCapacityInternal", "(I)V"⟩ : MethodName)) hown (mvT hZ (hw _ (List.mem_of_getElem? (i := 90) rfl))) (mvT hZ (hw _ (List.mem_of_getElem? (i := 91) rfl))) (mvT hZ (own_selself (hw _ (List.mem_of_getElem? (i := 93) rfl)) (hw _ (List.mem_of_getElem? (i := 92) rfl)) (hw _ (List.mem_of_getElem? (i := 91) rfl)) (by decide))) (Cond.privateMethod_at (mvP hZ (hw _ (List.mem_of_getElem? (i := 92) rfl)) (args := #[]))) (mvT hZ (hw _ (List.mem_of_getElem? (i := 94) rfl))) (by decide) (backOf (W := 0) (rmEc l Z a0 hw [] b t cap cs (cs.length + ds.length) G1 h0 n0 Z0 B (by omega) hc) hZ (hw _ (List.mem_of_getElem? (i := 94) rfl)) (hw _ (List.mem_of_getElem? (i := 55) rfl)) (by decide) (by decide)) (g := (mkF m 21 #[.val (.ref b), .val (.ref a), .val (.int (Int32.ofNat ds.length))] [(.int (Int32.ofNat (cs.length + ds.length))), (.ref b)])) rfl (by rw [hml]; rfl) (Steps.refl _) (a := b) (by rw [e5]; exact q7) q7' (argsL := [(.int (Int32.ofNat (cs.length + ds.length)))]) (rest := []) (lenOf pd4 rfl) rfl (by show 2 * 0 + _ ≤ _; exact Nat.le_of_eq rfl) (hb hby dAa_21) (fun _ _ => ⟨rfl, e5, (by decide : 0 + 0 ≤ _), (by decide : 0 + 0 ≤ _)⟩)
  dsimp only [Pt.U, Pt.locs, Pt.cells, Pt.slots] at X7 l7 y7 z7 st7 hQ7
  subst l7 y7 z7
  obtain ⟨rfl, N2, e2⟩ := hQ7
  have c7 : Steps p.tables e below S0 (T7.setTop (mkF m 24 #[.val (.ref b), .val (.ref a), .val (.int (Int32.ofNat ds.length))] [])) := by
    refine c6.trans ?_
    show Steps p.tables e below (T5.setTop (mkF m 21 #[.val (.ref b), .val (.ref a), .val (.int (Int32.ofNat ds.length))] [(.int (Int32.ofNat (cs.length + ds.length))), (.ref b)])) _
    refine st7.trans ?_
    exact Steps.refl _
  have B2 := B
  have S2 := S
  have X02 := X00
  have Eb2 := Eb
  have Fcn2 := Fcn
  have Fco2 := Fco
  have Fva2 := Fva
  have gt2 := gt
  have hc2 := hc
  have Z2 := Z0
  have hcap2 := hcap
  have Et2 := Et
  have c8 : Steps p.tables e below S0 (T7.setTop (mkF m 26 #[.val (.ref b), .val (.ref a), .val (.int (Int32.ofNat ds.length))] [(.ref b), (.ref b)])) := by
    refine c7.trans ?_
    show Steps p.tables e below (T7.setTop (mkF m 24 #[.val (.ref b), .val (.ref a), .val (.int (Int32.ofNat ds.length))] [])) _
    refine XS.aloadN X7.here hx rfl (hb hby dAa_24) rfl rfl ?_
    show Steps p.tables e below (T7.setTop (mkF m 25 #[.val (.ref b), .val (.ref a), .val (.int (Int32.ofNat ds.length))] [(.ref b)])) _
    refine XS.aloadN X7.here hx rfl (hb hby dAa_25) rfl rfl ?_
    exact Steps.refl _
  obtain ⟨T9, X9, e9, st9⟩ := getF X7 hx hZ hown (host := "") (Or.inl (hw _ (List.mem_of_getElem? (i := 88) rfl))) Via.refl e2 Fcn2 (g := (mkF m 26 #[.val (.ref b), .val (.ref a), .val (.int (Int32.ofNat ds.length))] [(.ref b), (.ref b)])) rfl rfl (hb hby dAa_26)
  have c9 : Steps p.tables e below S0 (T9.setTop (mkF m 29 #[.val (.ref b), .val (.ref a), .val (.int (Int32.ofNat ds.length))] [(.int (Int32.ofNat cs.length)), (.ref b)])) := by
    refine c8.trans ?_
    show Steps p.tables e below (T7.setTop (mkF m 26 #[.val (.ref b), .val (.ref a), .val (.int (Int32.ofNat ds.length))] [(.ref b), (.ref b)])) _
    refine st9 _ ?_
    exact Steps.refl _
  have c10 : Steps p.tables e below S0 (T9.setTop (mkF m 30 #[.val (.ref b), .val (.ref a), .val (.int (Int32.ofNat ds.length))] [(.ref a), (.int (Int32.ofNat cs.length)), (.ref b)])) := by
    refine c9.trans ?_
    show Steps p.tables e below (T9.setTop (mkF m 29 #[.val (.ref b), .val (.ref a), .val (.int (Int32.ofNat ds.length))] [(.int (Int32.ofNat cs.length)), (.ref b)])) _
    refine XS.aloadN X9.here hx rfl (hb hby dAa_29) rfl rfl ?_
    exact Steps.refl _
  obtain ⟨cq11, q11, q11'⟩ := (Eb2).cell
  obtain ⟨_, _, ⟨T11, L11, k11, n11⟩, -, X11, ⟨Lc11, hQ11, l11, y11, z11⟩, st11⟩ := X9.privateBack hx (y := (⟨"java/lang/AbstractStringBuilder", "putStringAt", "(ILjava/lang/String;)V"⟩ : MethodName)) hown (mvT hZ (hw _ (List.mem_of_getElem? (i := 95) rfl))) (mvT hZ (hw _ (List.mem_of_getElem? (i := 96) rfl))) (mvT hZ (own_selself (hw _ (List.mem_of_getElem? (i := 98) rfl)) (hw _ (List.mem_of_getElem? (i := 97) rfl)) (hw _ (List.mem_of_getElem? (i := 96) rfl)) (by decide))) (Cond.privateMethod_at (mvP hZ (hw _ (List.mem_of_getElem? (i := 97) rfl)) (args := #[]))) (mvT hZ (hw _ (List.mem_of_getElem? (i := 99) rfl))) (by decide) (backOf (W := 0) (rmPs l Z a0 hw [] a ta ds b t cap cs G1 h0 n0 Z2 O2 P5 X02 S2 hl B2 hc2 gt2) hZ (hw _ (List.mem_of_getElem? (i := 99) rfl)) (hw _ (List.mem_of_getElem? (i := 55) rfl)) (by decide) (by decide)) (g := (mkF m 30 #[.val (.ref b), .val (.ref a), .val (.int (Int32.ofNat ds.length))] [(.ref a), (.int (Int32.ofNat cs.length)), (.ref b)])) rfl (by rw [hml]; rfl) (Steps.refl _) (a := b) (by rw [e9]; exact q11) q11' (argsL := [(.int (Int32.ofNat cs.length)), (.ref a)]) (rest := []) (lenOf pd5 rfl) rfl (by show 2 * 0 + _ ≤ _; exact Nat.le_of_eq rfl) (hb hby dAa_30) (fun _ _ => ⟨rfl, e9, (by decide : 0 + 0 ≤ _), (by decide : 0 + 0 ≤ _)⟩)
  dsimp only [Pt.U, Pt.locs, Pt.cells, Pt.slots] at X11 l11 y11 z11 st11 hQ11
  subst l11 y11 z11
  obtain ⟨rfl, N3, K3, k3, V3⟩ := hQ11
  have c11 : Steps p.tables e below S0 (T11.setTop (mkF m 33 #[.val (.ref b), .val (.ref a), .val (.int (Int32.ofNat ds.length))] [])) := by
    refine c10.trans ?_
    show Steps p.tables e below (T9.setTop (mkF m 30 #[.val (.ref b), .val (.ref a), .val (.int (Int32.ofNat ds.length))] [(.ref a), (.int (Int32.ofNat cs.length)), (.ref b)])) _
    refine st11.trans ?_
    exact Steps.refl _
  have nbt : b ≠ t := Eb2.neArv B2.2.2.2.2.1.choose_spec.1 (hw _ (List.mem_of_getElem? (i := 45) rfl))
  have nb' : b ∉ [t] := fun q => nbt (List.mem_singleton.mp q)
  have c12 : Steps p.tables e below S0 (T11.setTop (mkF m 35 #[.val (.ref b), .val (.ref a), .val (.int (Int32.ofNat ds.length))] [(.ref b), (.ref b)])) := by
    refine c11.trans ?_
    show Steps p.tables e below (T11.setTop (mkF m 33 #[.val (.ref b), .val (.ref a), .val (.int (Int32.ofNat ds.length))] [])) _
    refine XS.aloadN X11.here hx rfl (hb hby dAa_33) rfl rfl ?_
    show Steps p.tables e below (T11.setTop (mkF m 34 #[.val (.ref b), .val (.ref a), .val (.int (Int32.ofNat ds.length))] [(.ref b)])) _
    refine XS.dup X11.here hx rfl (hb hby dAa_34) rfl rfl ?_
    exact Steps.refl _
  obtain ⟨T13, X13, e13, st13⟩ := getF X11 hx hZ hown (host := "") (Or.inl (hw _ (List.mem_of_getElem? (i := 88) rfl))) Via.refl rfl (Fcn2.keep K3 nb') (g := (mkF m 35 #[.val (.ref b), .val (.ref a), .val (.int (Int32.ofNat ds.length))] [(.ref b), (.ref b)])) rfl rfl (hb hby dAa_35)
  have c13 : Steps p.tables e below S0 (T13.setTop (mkF m 38 #[.val (.ref b), .val (.ref a), .val (.int (Int32.ofNat ds.length))] [(.int (Int32.ofNat cs.length)), (.ref b)])) := by
    refine c12.trans ?_
    show Steps p.tables e below (T11.setTop (mkF m 35 #[.val (.ref b), .val (.ref a), .val (.int (Int32.ofNat ds.length))] [(.ref b), (.ref b)])) _
    refine st13 _ ?_
    exact Steps.refl _
  have c14 : Steps p.tables e below S0 (T13.setTop (mkF m 40 #[.val (.ref b), .val (.ref a), .val (.int (Int32.ofNat ds.length))] [(.int ((Int32.ofNat cs.length) + (Int32.ofNat ds.length))), (.ref b)])) := by
    refine c13.trans ?_
    show Steps p.tables e below (T13.setTop (mkF m 38 #[.val (.ref b), .val (.ref a), .val (.int (Int32.ofNat ds.length))] [(.int (Int32.ofNat cs.length)), (.ref b)])) _
    refine XS.iloadN X13.here hx rfl (hb hby dAa_38) rfl ?_
    show Steps p.tables e below (T13.setTop (mkF m 39 #[.val (.ref b), .val (.ref a), .val (.int (Int32.ofNat ds.length))] [(.int (Int32.ofNat ds.length)), (.int (Int32.ofNat cs.length)), (.ref b)])) _
    refine XS.iadd X13.here hx rfl (hb hby dAa_39) rfl ?_
    exact Steps.refl _
  rw [own_addn (by omega)] at c14
  obtain ⟨T15, h15, X15, e15, W15, st15⟩ := putF X13 hx hZ hown (host := "") (Or.inl (hw _ (List.mem_of_getElem? (i := 88) rfl))) Via.refl e13 (Fcn2.keep K3 nb') (Eb2.keep K3) (Or.inl (hw _ (List.mem_of_getElem? (i := 89) rfl))) (hw _ (List.mem_of_getElem? (i := 45) rfl)) (ty := .int) (by decide) rfl rfl (g := (mkF m 40 #[.val (.ref b), .val (.ref a), .val (.int (Int32.ofNat ds.length))] [(.int (Int32.ofNat (cs.length + ds.length))), (.ref b)])) rfl rfl (hb hby dAa_40)
  have c15 : Steps p.tables e below S0 (T15.setTop (mkF m 43 #[.val (.ref b), .val (.ref a), .val (.int (Int32.ofNat ds.length))] [])) := by
    refine c14.trans ?_
    show Steps p.tables e below (T13.setTop (mkF m 40 #[.val (.ref b), .val (.ref a), .val (.int (Int32.ofNat ds.length))] [(.int (Int32.ofNat (cs.length + ds.length))), (.ref b)])) _
    refine st15 _ ?_
    exact Steps.refl _
  have Kx : Keep h0 h15 [b, t] := by
    have q2 : Keep h0 T11.heap [b, t] := own_Kmono K3 (fun x hx => by cases List.mem_singleton.mp hx; simp)
    exact q2.wr W15 (Or.inl (List.mem_of_getElem? (i := 0) rfl))
  have Bf : own_SB Z h15 b t cap (cs ++ ds) := ⟨(Eb2.keep K3).wr W15, (Fco2.keep K3 nb').other W15 (Or.inr (slot_ne (Or.inl (hw _ (List.mem_of_getElem? (i := 71) rfl))) (Or.inl (hw _ (List.mem_of_getElem? (i := 89) rfl))) (by decide) (t := .byte) (t' := .int) (by decide) (by decide))), by rw [List.length_append]; exact (Fcn2.keep K3 nb').same W15, (Fva2.keep K3 nb').other W15 (Or.inr (slot_ne (Or.inl (hw _ (List.mem_of_getElem? (i := 73) rfl))) (Or.inl (hw _ (List.mem_of_getElem? (i := 89) rfl))) (by decide) (t := (.array .byte)) (t' := .int) (by decide) (by decide))), ⟨_, V3.other W15 (Ne.symm nbt), (Et2.keep K3).wr W15⟩, (fun c' hc' => (List.mem_append.mp hc').elim (hch c') (S.2.2.2.2.1 c')), by rw [List.length_append]; exact hc2, hcap2⟩
  have c16 : Steps p.tables e below S0 (T15.setTop (mkF m 44 #[.val (.ref b), .val (.ref a), .val (.int (Int32.ofNat ds.length))] [(.ref b)])) := by
    refine c15.trans ?_
    show Steps p.tables e below (T15.setTop (mkF m 43 #[.val (.ref b), .val (.ref a), .val (.int (Int32.ofNat ds.length))] [])) _
    refine XS.aloadN X15.here hx rfl (hb hby dAa_43) rfl rfl ?_
    exact Steps.refl _
  obtain ⟨fs, hr, hrun, hended, hW, hsame⟩ := X15.leave (v := some (.ref b)) (fun h => by rw [Bd.returns] at h; cases h)
  refine ⟨_, _, c16.trans ?_, hrun, hended, _, _, rfl, ?_, ⟨_, rfl⟩, hW, hsame.mono (by decide) (by decide)⟩
  · show Steps p.tables e below (T15.setTop (mkF m 44 #[.val (.ref b), .val (.ref a), .val (.int (Int32.ofNat ds.length))] [(.ref b)])) _
    exact retA X15 hx Bd.returns rfl rfl (hb hby dAa_44) hr
  · show QAa Z a ta ds b t cap cs G1 h0 n0 _ T15.heap _
    rw [e15]
    exact ⟨rfl, Fr.snoc X15 (Fr.app (Fr.app (Fr.app N0 N1) N2) N3) gb, Bf, Kx⟩
def QSa (Z : State) (a : Addr) (ta : Addr) (ds : List Int32) (b : Addr) (t : Addr) (cap : Nat) (cs : List Int32) (G1 : Int32) (h0 : Heap) (n0 : Nat) (v : Option Value) (h : Heap) (L : List Loc) : Prop := v = some (.ref b) ∧ Fr n0 L ∧ own_SB Z h b t cap (cs ++ ds) ∧ Keep h0 h [b, t]
theorem efSa (m : MethodId) (b : Addr) (a : Addr) : entryFrame m #[(.ref b), (.ref a)] 2 = mkF m 0 #[.val (.ref b), .val (.ref a)] [] := by first | (simp [entryFrame, mkF, argsToLocals, Value.category, List.replicate]; done) | rfl
set_option maxRecDepth 65536 in
set_option maxHeartbeats 40000000 in
theorem rmSa (l : Launch) (Z : State) (a0 : Array Value) (hw : ∀ d ∈ tables_1, d.before a0 Z = true) (ws : List Jvm.Cond) (a : Addr) (ta : Addr) (ds : List Int32) (b : Addr) (t : Addr) (cap : Nat) (cs : List Int32) (G1 : Int32) (h0 : Heap) (n0 : Nat) (Z0 : n0 ≤ h0.size) (O2 : Sta Z Z.heap "java/lang/String" "COMPACT_STRINGS" "Z" (.int G1)) (P5 : ¬ G1 = 0) (X00 : Old Z n0 h0) (S : own_Str Z h0 a ta ds) (hl : ds.length ≤ 500) (B : own_SB Z h0 b t cap cs) (hc : cs.length + ds.length ≤ cap) (hcap4 : cap ≤ 100) (gb : n0 ≤ b) (gt : n0 ≤ t) :
    MetFree l (⟨"java/lang/StringBuilder", "append", "(Ljava/lang/String;)Ljava/lang/StringBuilder;"⟩ : MethodName) (head1 (Jvm.Cond.code (⟨"java/lang/StringBuilder", "append", "(Ljava/lang/String;)Ljava/lang/StringBuilder;"⟩ : MethodName) jdk_67_method_7_code 2 (some (.object "java/lang/StringBuilder")) :: ws) ({ frames := 6, cells := 0, slots := 0, locals := 96 } : Room)) (fun aa UU => aa = #[(.ref b), (.ref a)] ∧ Z.Warmed39 UU.vm ∧ UU.heap = h0) (fun _ _ _ _ _ => True) (fun _ UU oo UT => ∃ vv LL, oo = .returned vv ∧ QSa Z a ta ds b t cap cs G1 h0 n0 vv UT.heap LL ∧ FrameEnd UU oo UT LL ({ frames := 6, cells := 0, slots := 0, locals := 96 } : Room).cells ({ frames := 6, cells := 0, slots := 0, locals := 96 } : Room).slots) := by
  refine MetFree.of_bodySF (by decide +kernel) hisR ?_
  intro p e s m args below meth c s₁ Bd hml0 hP hK
  obtain ⟨rfl, hZ, hh⟩ := hP
  have hx := Bd.exec
  have hby := Bd.bytes
  have hml : c.maxLocals = 2 := hml0
  have hown : s.vm.findClass "java/lang/StringBuilder" = some m.cls := findClass_of_methodNamed Bd.named
  have hnm := (name_of_methodNamed Bd.named Bd.method).1
  have X0 : Stand p l e ({ frames := 6, cells := 0, slots := 0, locals := 96 } : Room) s m #[(.ref b), (.ref a)] below meth c s₁ [] 0 0 := Stand.of_body Bd
  have e0 : s₁.heap = h0 := by rw [← hh, Bd.state]; rfl
  have N0 := Fr.nil n0
  have c0 : Steps p.tables e below (s₁.setTop (entryFrame m #[(.ref b), (.ref a)] 2)) (s₁.setTop (mkF m 0 #[.val (.ref b), .val (.ref a)] [])) := castTop (efSa m b a) (Steps.refl _)
  show ∃ s₂ oo, Steps p.tables e below (s₁.setTop (entryFrame m #[(.ref b), (.ref a)] 2)) s₂ ∧ _ ∧ _ ∧ _
  generalize s₁.setTop (entryFrame m #[(.ref b), (.ref a)] 2) = S0 at c0 ⊢
  have c1 : Steps p.tables e below S0 (s₁.setTop (mkF m 2 #[.val (.ref b), .val (.ref a)] [(.ref a), (.ref b)])) := by
    refine c0.trans ?_
    show Steps p.tables e below (s₁.setTop (mkF m 0 #[.val (.ref b), .val (.ref a)] [])) _
    refine XS.aloadN X0.here hx rfl (hb hby dSa_0) rfl rfl ?_
    show Steps p.tables e below (s₁.setTop (mkF m 1 #[.val (.ref b), .val (.ref a)] [(.ref b)])) _
    refine XS.aloadN X0.here hx rfl (hb hby dSa_1) rfl rfl ?_
    exact Steps.refl _
  obtain ⟨_, _, ⟨T2, L2, k2, n2⟩, -, X2, ⟨Lc2, hQ2, l2, y2, z2⟩, st2⟩ := superBack X0 hx hZ (y := (⟨"java/lang/AbstractStringBuilder", "append", "(Ljava/lang/String;)Ljava/lang/AbstractStringBuilder;"⟩ : MethodName)) hown (hw _ (List.mem_of_getElem? (i := 85) rfl)) (own_same (hw _ (List.mem_of_getElem? (i := 76) rfl)) ⟨own_NI_of (y := (⟨"java/lang/AbstractStringBuilder", "putStringAt", "(ILjava/lang/String;)V"⟩ : MethodName)) (hw _ (List.mem_of_getElem? (i := 98) rfl)), by decide⟩) (hw _ (List.mem_of_getElem? (i := 76) rfl)) (hw _ (List.mem_of_getElem? (i := 86) rfl)) (by decide) (backOf (W := 0) (rmAa l Z a0 hw [] a ta ds b t cap cs G1 h0 n0 Z0 O2 P5 X00 S hl B hc hcap4 gb gt) hZ (hw _ (List.mem_of_getElem? (i := 87) rfl)) (hw _ (List.mem_of_getElem? (i := 55) rfl)) (by decide) (by decide)) e0 (Ins.self (B.1)) (g := (mkF m 2 #[.val (.ref b), .val (.ref a)] [(.ref a), (.ref b)])) rfl (by rw [hml]; rfl) (hw _ (List.mem_of_getElem? (i := 87) rfl)) (argsL := [(.ref a)]) (rest := []) (lenOf pd6 rfl) rfl (by show 2 * 0 + _ ≤ _; exact Nat.le_of_eq rfl) (hb hby dSa_2) (fun _ _ => ⟨rfl, e0, (by decide : 0 + 0 ≤ _), (by decide : 0 + 0 ≤ _)⟩)
  dsimp only [Pt.U, Pt.locs, Pt.cells, Pt.slots] at X2 l2 y2 z2 st2 hQ2
  subst l2 y2 z2
  obtain ⟨rfl, N1, D1⟩ := hQ2
  have c2 : Steps p.tables e below S0 (T2.setTop (mkF m 5 #[.val (.ref b), .val (.ref a)] [(.ref b)])) := by
    refine c1.trans ?_
    show Steps p.tables e below (s₁.setTop (mkF m 2 #[.val (.ref b), .val (.ref a)] [(.ref a), (.ref b)])) _
    refine st2.trans ?_
    exact Steps.refl _
  have c3 : Steps p.tables e below S0 (T2.setTop (mkF m 7 #[.val (.ref b), .val (.ref a)] [(.ref b)])) := by
    refine c2.trans ?_
    show Steps p.tables e below (T2.setTop (mkF m 5 #[.val (.ref b), .val (.ref a)] [(.ref b)])) _
    refine XS.pop X2.here hx rfl (hb hby dSa_5) rfl rfl ?_
    show Steps p.tables e below (T2.setTop (mkF m 6 #[.val (.ref b), .val (.ref a)] [])) _
    refine XS.aloadN X2.here hx rfl (hb hby dSa_6) rfl rfl ?_
    exact Steps.refl _
  obtain ⟨fs, hr, hrun, hended, hW, hsame⟩ := X2.leave (v := some (.ref b)) (fun h => by rw [Bd.returns] at h; cases h)
  refine ⟨_, _, c3.trans ?_, hrun, hended, _, _, rfl, ?_, ⟨_, rfl⟩, hW, hsame.mono (by decide) (by decide)⟩
  · show Steps p.tables e below (T2.setTop (mkF m 7 #[.val (.ref b), .val (.ref a)] [(.ref b)])) _
    exact retA X2 hx Bd.returns rfl rfl (hb hby dSa_7) hr
  · show QSa Z a ta ds b t cap cs G1 h0 n0 _ T2.heap _
    exact ⟨rfl, Fr.app N0 N1, D1⟩
def QGv (Z : State) (b : Addr) (t : Addr) (cap : Nat) (cs : List Int32) (h0 : Heap) (n0 : Nat) (v : Option Value) (h : Heap) (L : List Loc) : Prop := v = some (.ref t) ∧ Fr n0 L ∧ h = h0
theorem efGv (m : MethodId) (b : Addr) : entryFrame m #[(.ref b)] 1 = mkF m 0 #[.val (.ref b)] [] := by first | (simp [entryFrame, mkF, argsToLocals, Value.category, List.replicate]; done) | rfl
set_option maxRecDepth 65536 in
set_option maxHeartbeats 40000000 in
theorem rmGv (l : Launch) (Z : State) (a0 : Array Value) (hw : ∀ d ∈ tables_1, d.before a0 Z = true) (ws : List Jvm.Cond) (b : Addr) (t : Addr) (cap : Nat) (cs : List Int32) (h0 : Heap) (n0 : Nat) (Z0 : n0 ≤ h0.size) (B : own_SB Z h0 b t cap cs) :
    MetFree l (⟨"java/lang/AbstractStringBuilder", "getValue", "()[B"⟩ : MethodName) (head1 (Jvm.Cond.code (⟨"java/lang/AbstractStringBuilder", "getValue", "()[B"⟩ : MethodName) jdk_68_method_64_code 1 (some (.array .byte)) :: ws) ({ frames := 0, cells := 0, slots := 0, locals := 0 } : Room)) (fun aa UU => aa = #[(.ref b)] ∧ Z.Warmed39 UU.vm ∧ UU.heap = h0) (fun _ _ _ _ _ => True) (fun _ UU oo UT => ∃ vv LL, oo = .returned vv ∧ QGv Z b t cap cs h0 n0 vv UT.heap LL ∧ FrameEnd UU oo UT LL ({ frames := 0, cells := 0, slots := 0, locals := 0 } : Room).cells ({ frames := 0, cells := 0, slots := 0, locals := 0 } : Room).slots) := by
  refine MetFree.of_bodySF (by decide +kernel) hisR ?_
  intro p e s m args below meth c s₁ Bd hml0 hP hK
  obtain ⟨rfl, hZ, hh⟩ := hP
  have hx := Bd.exec
  have hby := Bd.bytes
  have hml : c.maxLocals = 1 := hml0
  have hown : s.vm.findClass "java/lang/AbstractStringBuilder" = some m.cls := findClass_of_methodNamed Bd.named
  have hnm := (name_of_methodNamed Bd.named Bd.method).1
  have X0 : Stand p l e ({ frames := 0, cells := 0, slots := 0, locals := 0 } : Room) s m #[(.ref b)] below meth c s₁ [] 0 0 := Stand.of_body Bd
  have e0 : s₁.heap = h0 := by rw [← hh, Bd.state]; rfl
  have N0 := Fr.nil n0
  have c0 : Steps p.tables e below (s₁.setTop (entryFrame m #[(.ref b)] 1)) (s₁.setTop (mkF m 0 #[.val (.ref b)] [])) := castTop (efGv m b) (Steps.refl _)
  show ∃ s₂ oo, Steps p.tables e below (s₁.setTop (entryFrame m #[(.ref b)] 1)) s₂ ∧ _ ∧ _ ∧ _
  generalize s₁.setTop (entryFrame m #[(.ref b)] 1) = S0 at c0 ⊢
  have c1 : Steps p.tables e below S0 (s₁.setTop (mkF m 1 #[.val (.ref b)] [(.ref b)])) := by
    refine c0.trans ?_
    show Steps p.tables e below (s₁.setTop (mkF m 0 #[.val (.ref b)] [])) _
    refine XS.aloadN X0.here hx rfl (hb hby dGv_0) rfl rfl ?_
    exact Steps.refl _
  obtain ⟨T2, X2, e2, st2⟩ := getF X0 hx hZ hown (host := "") (Or.inl (hw _ (List.mem_of_getElem? (i := 72) rfl))) Via.refl e0 B.2.2.2.1 (g := (mkF m 1 #[.val (.ref b)] [(.ref b)])) rfl rfl (hb hby dGv_1)
  have c2 : Steps p.tables e below S0 (T2.setTop (mkF m 4 #[.val (.ref b)] [(.ref t)])) := by
    refine c1.trans ?_
    show Steps p.tables e below (s₁.setTop (mkF m 1 #[.val (.ref b)] [(.ref b)])) _
    refine st2 _ ?_
    exact Steps.refl _
  obtain ⟨fs, hr, hrun, hended, hW, hsame⟩ := X2.leave (v := some (.ref t)) (fun h => by rw [Bd.returns] at h; cases h)
  refine ⟨_, _, c2.trans ?_, hrun, hended, _, _, rfl, ?_, ⟨_, rfl⟩, hW, hsame.mono (by decide) (by decide)⟩
  · show Steps p.tables e below (T2.setTop (mkF m 4 #[.val (.ref b)] [(.ref t)])) _
    exact retA X2 hx Bd.returns rfl rfl (hb hby dGv_4) hr
  · show QGv Z b t cap cs h0 n0 _ T2.heap _
    rw [e2]
    exact ⟨rfl, N0, rfl⟩
def QAl (Z : State) (b : Addr) (t : Addr) (cap : Nat) (cs : List Int32) (h0 : Heap) (n0 : Nat) (v : Option Value) (h : Heap) (L : List Loc) : Prop := v = some (.int (Int32.ofNat cs.length)) ∧ Fr n0 L ∧ h = h0
theorem efAl (m : MethodId) (b : Addr) : entryFrame m #[(.ref b)] 1 = mkF m 0 #[.val (.ref b)] [] := by first | (simp [entryFrame, mkF, argsToLocals, Value.category, List.replicate]; done) | rfl
set_option maxRecDepth 65536 in
set_option maxHeartbeats 40000000 in
theorem rmAl (l : Launch) (Z : State) (a0 : Array Value) (hw : ∀ d ∈ tables_1, d.before a0 Z = true) (ws : List Jvm.Cond) (b : Addr) (t : Addr) (cap : Nat) (cs : List Int32) (h0 : Heap) (n0 : Nat) (Z0 : n0 ≤ h0.size) (B : own_SB Z h0 b t cap cs) :
    MetFree l (⟨"java/lang/AbstractStringBuilder", "length", "()I"⟩ : MethodName) (head1 (Jvm.Cond.code (⟨"java/lang/AbstractStringBuilder", "length", "()I"⟩ : MethodName) jdk_68_method_6_code 1 (some .int) :: ws) ({ frames := 0, cells := 0, slots := 0, locals := 0 } : Room)) (fun aa UU => aa = #[(.ref b)] ∧ Z.Warmed39 UU.vm ∧ UU.heap = h0) (fun _ _ _ _ _ => True) (fun _ UU oo UT => ∃ vv LL, oo = .returned vv ∧ QAl Z b t cap cs h0 n0 vv UT.heap LL ∧ FrameEnd UU oo UT LL ({ frames := 0, cells := 0, slots := 0, locals := 0 } : Room).cells ({ frames := 0, cells := 0, slots := 0, locals := 0 } : Room).slots) := by
  refine MetFree.of_bodySF (by decide +kernel) hisR ?_
  intro p e s m args below meth c s₁ Bd hml0 hP hK
  obtain ⟨rfl, hZ, hh⟩ := hP
  have hx := Bd.exec
  have hby := Bd.bytes
  have hml : c.maxLocals = 1 := hml0
  have hown : s.vm.findClass "java/lang/AbstractStringBuilder" = some m.cls := findClass_of_methodNamed Bd.named
  have hnm := (name_of_methodNamed Bd.named Bd.method).1
  have X0 : Stand p l e ({ frames := 0, cells := 0, slots := 0, locals := 0 } : Room) s m #[(.ref b)] below meth c s₁ [] 0 0 := Stand.of_body Bd
  have e0 : s₁.heap = h0 := by rw [← hh, Bd.state]; rfl
  have N0 := Fr.nil n0
  have c0 : Steps p.tables e below (s₁.setTop (entryFrame m #[(.ref b)] 1)) (s₁.setTop (mkF m 0 #[.val (.ref b)] [])) := castTop (efAl m b) (Steps.refl _)
  show ∃ s₂ oo, Steps p.tables e below (s₁.setTop (entryFrame m #[(.ref b)] 1)) s₂ ∧ _ ∧ _ ∧ _
  generalize s₁.setTop (entryFrame m #[(.ref b)] 1) = S0 at c0 ⊢
  have c1 : Steps p.tables e below S0 (s₁.setTop (mkF m 1 #[.val (.ref b)] [(.ref b)])) := by
    refine c0.trans ?_
    show Steps p.tables e below (s₁.setTop (mkF m 0 #[.val (.ref b)] [])) _
    refine XS.aloadN X0.here hx rfl (hb hby dAl_0) rfl rfl ?_
    exact Steps.refl _
  obtain ⟨T2, X2, e2, st2⟩ := getF X0 hx hZ hown (host := "") (Or.inl (hw _ (List.mem_of_getElem? (i := 88) rfl))) Via.refl e0 B.2.2.1 (g := (mkF m 1 #[.val (.ref b)] [(.ref b)])) rfl rfl (hb hby dAl_1)
  have c2 : Steps p.tables e below S0 (T2.setTop (mkF m 4 #[.val (.ref b)] [(.int (Int32.ofNat cs.length))])) := by
    refine c1.trans ?_
    show Steps p.tables e below (s₁.setTop (mkF m 1 #[.val (.ref b)] [(.ref b)])) _
    refine st2 _ ?_
    exact Steps.refl _
  obtain ⟨fs, hr, hrun, hended, hW, hsame⟩ := X2.leave (v := some (.int (Int32.ofNat cs.length))) (fun h => by rw [Bd.returns] at h; cases h)
  refine ⟨_, _, c2.trans ?_, hrun, hended, _, _, rfl, ?_, ⟨_, rfl⟩, hW, hsame.mono (by decide) (by decide)⟩
  · show Steps p.tables e below (T2.setTop (mkF m 4 #[.val (.ref b)] [(.int (Int32.ofNat cs.length))])) _
    exact retI X2 hx Bd.returns (hb hby dAl_4) hr
  · show QAl Z b t cap cs h0 n0 _ T2.heap _
    rw [e2]
    exact ⟨rfl, N0, rfl⟩
def QSl (Z : State) (b : Addr) (t : Addr) (cap : Nat) (cs : List Int32) (h0 : Heap) (n0 : Nat) (v : Option Value) (h : Heap) (L : List Loc) : Prop := v = some (.int (Int32.ofNat cs.length)) ∧ Fr n0 L ∧ h = h0
theorem efSl (m : MethodId) (b : Addr) : entryFrame m #[(.ref b)] 1 = mkF m 0 #[.val (.ref b)] [] := by first | (simp [entryFrame, mkF, argsToLocals, Value.category, List.replicate]; done) | rfl
set_option maxRecDepth 65536 in
set_option maxHeartbeats 40000000 in
theorem rmSl (l : Launch) (Z : State) (a0 : Array Value) (hw : ∀ d ∈ tables_1, d.before a0 Z = true) (ws : List Jvm.Cond) (b : Addr) (t : Addr) (cap : Nat) (cs : List Int32) (h0 : Heap) (n0 : Nat) (Z0 : n0 ≤ h0.size) (B : own_SB Z h0 b t cap cs) :
    MetFree l (⟨"java/lang/StringBuilder", "length", "()I"⟩ : MethodName) (head1 (Jvm.Cond.code (⟨"java/lang/StringBuilder", "length", "()I"⟩ : MethodName) jdk_67_method_93_code 1 (some .int) :: ws) ({ frames := 1, cells := 0, slots := 0, locals := 13 } : Room)) (fun aa UU => aa = #[(.ref b)] ∧ Z.Warmed39 UU.vm ∧ UU.heap = h0) (fun _ _ _ _ _ => True) (fun _ UU oo UT => ∃ vv LL, oo = .returned vv ∧ QSl Z b t cap cs h0 n0 vv UT.heap LL ∧ FrameEnd UU oo UT LL ({ frames := 1, cells := 0, slots := 0, locals := 13 } : Room).cells ({ frames := 1, cells := 0, slots := 0, locals := 13 } : Room).slots) := by
  refine MetFree.of_bodySF (by decide +kernel) hisR ?_
  intro p e s m args below meth c s₁ Bd hml0 hP hK
  obtain ⟨rfl, hZ, hh⟩ := hP
  have hx := Bd.exec
  have hby := Bd.bytes
  have hml : c.maxLocals = 1 := hml0
  have hown : s.vm.findClass "java/lang/StringBuilder" = some m.cls := findClass_of_methodNamed Bd.named
  have hnm := (name_of_methodNamed Bd.named Bd.method).1
  have X0 : Stand p l e ({ frames := 1, cells := 0, slots := 0, locals := 13 } : Room) s m #[(.ref b)] below meth c s₁ [] 0 0 := Stand.of_body Bd
  have e0 : s₁.heap = h0 := by rw [← hh, Bd.state]; rfl
  have N0 := Fr.nil n0
  have c0 : Steps p.tables e below (s₁.setTop (entryFrame m #[(.ref b)] 1)) (s₁.setTop (mkF m 0 #[.val (.ref b)] [])) := castTop (efSl m b) (Steps.refl _)
  show ∃ s₂ oo, Steps p.tables e below (s₁.setTop (entryFrame m #[(.ref b)] 1)) s₂ ∧ _ ∧ _ ∧ _
  generalize s₁.setTop (entryFrame m #[(.ref b)] 1) = S0 at c0 ⊢
  have c1 : Steps p.tables e below S0 (s₁.setTop (mkF m 1 #[.val (.ref b)] [(.ref b)])) := by
    refine c0.trans ?_
    show Steps p.tables e below (s₁.setTop (mkF m 0 #[.val (.ref b)] [])) _
    refine XS.aloadN X0.here hx rfl (hb hby dSl_0) rfl rfl ?_
    exact Steps.refl _
  obtain ⟨_, _, ⟨T2, L2, k2, n2⟩, -, X2, ⟨Lc2, hQ2, l2, y2, z2⟩, st2⟩ := superBack X0 hx hZ (y := (⟨"java/lang/AbstractStringBuilder", "length", "()I"⟩ : MethodName)) hown (hw _ (List.mem_of_getElem? (i := 153) rfl)) (own_same (hw _ (List.mem_of_getElem? (i := 149) rfl)) ⟨own_NI_of (y := (⟨"java/lang/AbstractStringBuilder", "getValue", "()[B"⟩ : MethodName)) (hw _ (List.mem_of_getElem? (i := 145) rfl)), by decide⟩) (hw _ (List.mem_of_getElem? (i := 149) rfl)) (hw _ (List.mem_of_getElem? (i := 86) rfl)) (by decide) (backOf (W := 0) (rmAl l Z a0 hw [] b t cap cs h0 n0 Z0 B) hZ (hw _ (List.mem_of_getElem? (i := 154) rfl)) (hw _ (List.mem_of_getElem? (i := 55) rfl)) (by decide) (by decide)) e0 (Ins.self (B.1)) (g := (mkF m 1 #[.val (.ref b)] [(.ref b)])) rfl (by rw [hml]; rfl) (hw _ (List.mem_of_getElem? (i := 154) rfl)) (argsL := []) (rest := []) (lenOf pd3 rfl) rfl (by show 2 * 0 + _ ≤ _; exact Nat.le_of_eq rfl) (hb hby dSl_1) (fun _ _ => ⟨rfl, e0, (by decide : 0 + 0 ≤ _), (by decide : 0 + 0 ≤ _)⟩)
  dsimp only [Pt.U, Pt.locs, Pt.cells, Pt.slots] at X2 l2 y2 z2 st2 hQ2
  subst l2 y2 z2
  obtain ⟨rfl, N1, e1⟩ := hQ2
  have c2 : Steps p.tables e below S0 (T2.setTop (mkF m 4 #[.val (.ref b)] [(.int (Int32.ofNat cs.length))])) := by
    refine c1.trans ?_
    show Steps p.tables e below (s₁.setTop (mkF m 1 #[.val (.ref b)] [(.ref b)])) _
    refine st2.trans ?_
    exact Steps.refl _
  obtain ⟨fs, hr, hrun, hended, hW, hsame⟩ := X2.leave (v := some (.int (Int32.ofNat cs.length))) (fun h => by rw [Bd.returns] at h; cases h)
  refine ⟨_, _, c2.trans ?_, hrun, hended, _, _, rfl, ?_, ⟨_, rfl⟩, hW, hsame.mono (by decide) (by decide)⟩
  · show Steps p.tables e below (T2.setTop (mkF m 4 #[.val (.ref b)] [(.int (Int32.ofNat cs.length))])) _
    exact retI X2 hx Bd.returns (hb hby dSl_4) hr
  · show QSl Z b t cap cs h0 n0 _ T2.heap _
    rw [e1]
    exact ⟨rfl, Fr.app N0 N1, rfl⟩
def QIl (Z : State) (b : Addr) (t : Addr) (cap : Nat) (cs : List Int32) (G1 : Int32) (h0 : Heap) (n0 : Nat) (v : Option Value) (h : Heap) (L : List Loc) : Prop := v = some (.int 1) ∧ Fr n0 L ∧ h = h0
theorem efIl (m : MethodId) (b : Addr) : entryFrame m #[(.ref b)] 1 = mkF m 0 #[.val (.ref b)] [] := by first | (simp [entryFrame, mkF, argsToLocals, Value.category, List.replicate]; done) | rfl
set_option maxRecDepth 65536 in
set_option maxHeartbeats 40000000 in
theorem rmIl (l : Launch) (Z : State) (a0 : Array Value) (hw : ∀ d ∈ tables_1, d.before a0 Z = true) (ws : List Jvm.Cond) (b : Addr) (t : Addr) (cap : Nat) (cs : List Int32) (G1 : Int32) (h0 : Heap) (n0 : Nat) (Z0 : n0 ≤ h0.size) (O2 : Sta Z Z.heap "java/lang/String" "COMPACT_STRINGS" "Z" (.int G1)) (P5 : ¬ G1 = 0) (X00 : Old Z n0 h0) (B : own_SB Z h0 b t cap cs) :
    MetFree l (⟨"java/lang/AbstractStringBuilder", "isLatin1", "()Z"⟩ : MethodName) (head1 (Jvm.Cond.code (⟨"java/lang/AbstractStringBuilder", "isLatin1", "()Z"⟩ : MethodName) jdk_68_method_68_code 1 (some .boolean) :: ws) ({ frames := 0, cells := 0, slots := 0, locals := 0 } : Room)) (fun aa UU => aa = #[(.ref b)] ∧ Z.Warmed39 UU.vm ∧ UU.heap = h0) (fun _ _ _ _ _ => True) (fun _ UU oo UT => ∃ vv LL, oo = .returned vv ∧ QIl Z b t cap cs G1 h0 n0 vv UT.heap LL ∧ FrameEnd UU oo UT LL ({ frames := 0, cells := 0, slots := 0, locals := 0 } : Room).cells ({ frames := 0, cells := 0, slots := 0, locals := 0 } : Room).slots) := by
  refine MetFree.of_bodySF (by decide +kernel) hisR ?_
  intro p e s m args below meth c s₁ Bd hml0 hP hK
  obtain ⟨rfl, hZ, hh⟩ := hP
  have hx := Bd.exec
  have hby := Bd.bytes
  have hml : c.maxLocals = 1 := hml0
  have hown : s.vm.findClass "java/lang/AbstractStringBuilder" = some m.cls := findClass_of_methodNamed Bd.named
  have hnm := (name_of_methodNamed Bd.named Bd.method).1
  have X0 : Stand p l e ({ frames := 0, cells := 0, slots := 0, locals := 0 } : Room) s m #[(.ref b)] below meth c s₁ [] 0 0 := Stand.of_body Bd
  have e0 : s₁.heap = h0 := by rw [← hh, Bd.state]; rfl
  have N0 := Fr.nil n0
  have c0 : Steps p.tables e below (s₁.setTop (entryFrame m #[(.ref b)] 1)) (s₁.setTop (mkF m 0 #[.val (.ref b)] [])) := castTop (efIl m b) (Steps.refl _)
  show ∃ s₂ oo, Steps p.tables e below (s₁.setTop (entryFrame m #[(.ref b)] 1)) s₂ ∧ _ ∧ _ ∧ _
  generalize s₁.setTop (entryFrame m #[(.ref b)] 1) = S0 at c0 ⊢
  obtain ⟨T1, X1, e1, st1⟩ := getS X0 hx hZ hown (host := "") (hw _ (List.mem_of_getElem? (i := 105) rfl)) Via.refl e0 (O2.ext X00.2) (g := (mkF m 0 #[.val (.ref b)] [])) rfl (hb hby dIl_0)
  have c1 : Steps p.tables e below S0 (T1.setTop (mkF m 3 #[.val (.ref b)] [(.int G1)])) := by
    refine c0.trans ?_
    show Steps p.tables e below (s₁.setTop (mkF m 0 #[.val (.ref b)] [])) _
    refine st1 _ ?_
    exact Steps.refl _
  have c2 : Steps p.tables e below S0 (T1.setTop (mkF m 6 #[.val (.ref b)] [])) := by
    refine c1.trans ?_
    show Steps p.tables e below (T1.setTop (mkF m 3 #[.val (.ref b)] [(.int G1)])) _
    refine XS.ifNo X1.here hx rfl (hb hby dIl_3) rfl ((if0 _ _).trans (feq P5).1) ?_
    exact Steps.refl _
  have c3 : Steps p.tables e below S0 (T1.setTop (mkF m 7 #[.val (.ref b)] [(.ref b)])) := by
    refine c2.trans ?_
    show Steps p.tables e below (T1.setTop (mkF m 6 #[.val (.ref b)] [])) _
    refine XS.aloadN X1.here hx rfl (hb hby dIl_6) rfl rfl ?_
    exact Steps.refl _
  obtain ⟨T4, X4, e4, st4⟩ := getF X1 hx hZ hown (host := "") (Or.inl (hw _ (List.mem_of_getElem? (i := 70) rfl))) Via.refl e1 B.2.1 (g := (mkF m 7 #[.val (.ref b)] [(.ref b)])) rfl rfl (hb hby dIl_7)
  have c4 : Steps p.tables e below S0 (T4.setTop (mkF m 10 #[.val (.ref b)] [(.int (0 : Int32))])) := by
    refine c3.trans ?_
    show Steps p.tables e below (T1.setTop (mkF m 7 #[.val (.ref b)] [(.ref b)])) _
    refine st4 _ ?_
    exact Steps.refl _
  have c5 : Steps p.tables e below S0 (T4.setTop (mkF m 18 #[.val (.ref b)] [(.int (1 : Int32))])) := by
    refine c4.trans ?_
    show Steps p.tables e below (T4.setTop (mkF m 10 #[.val (.ref b)] [(.int (0 : Int32))])) _
    refine XS.ifNo X4.here hx rfl (hb hby dIl_10) rfl ((if0 _ _).trans (teq rfl).2) ?_
    show Steps p.tables e below (T4.setTop (mkF m 13 #[.val (.ref b)] [])) _
    refine XS.iconst X4.here hx rfl (hb hby dIl_13) ?_
    show Steps p.tables e below (T4.setTop (mkF m 14 #[.val (.ref b)] [(.int (1 : Int32))])) _
    refine XS.goto X4.here hx rfl (pc0 := 14) (pc' := 18) rfl (hb hby dIl_14) (by decide) (by decide) ?_
    exact Steps.refl _
  obtain ⟨fs, hr, hrun, hended, hW, hsame⟩ := X4.leave (v := some (.int 1)) (fun h => by rw [Bd.returns] at h; cases h)
  refine ⟨_, _, c5.trans ?_, hrun, hended, _, _, rfl, ?_, ⟨_, rfl⟩, hW, hsame.mono (by decide) (by decide)⟩
  · show Steps p.tables e below (T4.setTop (mkF m 18 #[.val (.ref b)] [(.int (1 : Int32))])) _
    exact retN X4 hx (t := .boolean) Bd.returns (by simp) (hb hby dIl_18) hr
  · show QIl Z b t cap cs G1 h0 n0 _ T4.heap _
    rw [e4]
    exact ⟨rfl, N0, rfl⟩
def QCl (Z : State) (n : Nat) (h0 : Heap) (n0 : Nat) (v : Option Value) (h : Heap) (L : List Loc) : Prop := v = none ∧ Fr n0 L ∧ h = h0
theorem efCl (m : MethodId) (n : Nat) : entryFrame m #[(.int (0 : Int32)), (.int (Int32.ofNat n))] 2 = mkF m 0 #[.val (.int (0 : Int32)), .val (.int (Int32.ofNat n))] [] := by first | (simp [entryFrame, mkF, argsToLocals, Value.category, List.replicate]; done) | rfl
set_option maxRecDepth 65536 in
set_option maxHeartbeats 40000000 in
theorem rmCl (l : Launch) (Z : State) (a0 : Array Value) (hw : ∀ d ∈ tables_1, d.before a0 Z = true) (ws : List Jvm.Cond) (n : Nat) (h0 : Heap) (n0 : Nat) (Z0 : n0 ≤ h0.size) (hn : n ≤ 100) :
    MetFree l (⟨"java/util/Arrays", "checkLength", "(II)V"⟩ : MethodName) (head1 (Jvm.Cond.code (⟨"java/util/Arrays", "checkLength", "(II)V"⟩ : MethodName) jdk_65_method_131_code 2 none :: ws) ({ frames := 0, cells := 0, slots := 0, locals := 0 } : Room)) (fun aa UU => aa = #[(.int (0 : Int32)), (.int (Int32.ofNat n))] ∧ Z.Warmed39 UU.vm ∧ UU.heap = h0) (fun _ _ _ _ _ => True) (fun _ UU oo UT => ∃ vv LL, oo = .returned vv ∧ QCl Z n h0 n0 vv UT.heap LL ∧ FrameEnd UU oo UT LL ({ frames := 0, cells := 0, slots := 0, locals := 0 } : Room).cells ({ frames := 0, cells := 0, slots := 0, locals := 0 } : Room).slots) := by
  refine MetFree.of_bodySF (by decide +kernel) hisR ?_
  intro p e s m args below meth c s₁ Bd hml0 hP hK
  obtain ⟨rfl, hZ, hh⟩ := hP
  have hx := Bd.exec
  have hby := Bd.bytes
  have hml : c.maxLocals = 2 := hml0
  have hown : s.vm.findClass "java/util/Arrays" = some m.cls := findClass_of_methodNamed Bd.named
  have hnm := (name_of_methodNamed Bd.named Bd.method).1
  have X0 : Stand p l e ({ frames := 0, cells := 0, slots := 0, locals := 0 } : Room) s m #[(.int (0 : Int32)), (.int (Int32.ofNat n))] below meth c s₁ [] 0 0 := Stand.of_body Bd
  have e0 : s₁.heap = h0 := by rw [← hh, Bd.state]; rfl
  have N0 := Fr.nil n0
  have c0 : Steps p.tables e below (s₁.setTop (entryFrame m #[(.int (0 : Int32)), (.int (Int32.ofNat n))] 2)) (s₁.setTop (mkF m 0 #[.val (.int (0 : Int32)), .val (.int (Int32.ofNat n))] [])) := castTop (efCl m n) (Steps.refl _)
  show ∃ s₂ oo, Steps p.tables e below (s₁.setTop (entryFrame m #[(.int (0 : Int32)), (.int (Int32.ofNat n))] 2)) s₂ ∧ _ ∧ _ ∧ _
  generalize s₁.setTop (entryFrame m #[(.int (0 : Int32)), (.int (Int32.ofNat n))] 2) = S0 at c0 ⊢
  have c1 : Steps p.tables e below S0 (s₁.setTop (mkF m 37 #[.val (.int (0 : Int32)), .val (.int (Int32.ofNat n))] [])) := by
    refine c0.trans ?_
    show Steps p.tables e below (s₁.setTop (mkF m 0 #[.val (.int (0 : Int32)), .val (.int (Int32.ofNat n))] [])) _
    refine XS.iloadN X0.here hx rfl (hb hby dCl_0) rfl ?_
    show Steps p.tables e below (s₁.setTop (mkF m 1 #[.val (.int (0 : Int32)), .val (.int (Int32.ofNat n))] [(.int (Int32.ofNat n))])) _
    refine XS.iloadN X0.here hx rfl (hb hby dCl_1) rfl ?_
    show Steps p.tables e below (s₁.setTop (mkF m 2 #[.val (.int (0 : Int32)), .val (.int (Int32.ofNat n))] [(.int (0 : Int32)), (.int (Int32.ofNat n))])) _
    refine XS.icmpYes X0.here hx rfl (pc0 := 2) (pc' := 37) rfl (hb hby dCl_2) rfl (flt (own_nn (by omega))).2.1 (by decide) (by decide) ?_
    exact Steps.refl _
  obtain ⟨fs, hr, hrun, hended, hW, hsame⟩ := X0.leave (v := none) (fun _ => rfl)
  refine ⟨_, _, c1.trans ?_, hrun, hended, _, _, rfl, ?_, ⟨_, rfl⟩, hW, hsame.mono (by decide) (by decide)⟩
  · show Steps p.tables e below (s₁.setTop (mkF m 37 #[.val (.int (0 : Int32)), .val (.int (Int32.ofNat n))] [])) _
    exact X0.returnOut hx Bd.returns (hb hby dCl_37) hr
  · show QCl Z n h0 n0 _ s₁.heap _
    rw [e0]
    exact ⟨rfl, N0, rfl⟩
def QCb (Z : State) (t : Addr) (kt : ClassId) (cap : Nat) (cs : List Int32) (h0 : Heap) (n0 : Nat) (v : Option Value) (h : Heap) (L : List Loc) : Prop := (∃ (t2 : Addr) (k2 : ClassId), v = some (.ref t2) ∧ h0.size ≤ t2 ∧ Arv Z h t2 k2 .byte (Int32.ofNat cs.length) (own_by cs) (.int 0) ∧ Exa Z h t2 "[B") ∧ Fr n0 L ∧ Keep h0 h []
theorem efCb (m : MethodId) (t : Addr) (cs : List Int32) : entryFrame m #[(.ref t), (.int (0 : Int32)), (.int (Int32.ofNat cs.length))] 5 = mkF m 0 #[.val (.ref t), .val (.int (0 : Int32)), .val (.int (Int32.ofNat cs.length)), .unset, .unset] [] := by first | (simp [entryFrame, mkF, argsToLocals, Value.category, List.replicate]; done) | rfl
set_option maxRecDepth 65536 in
set_option maxHeartbeats 40000000 in
theorem rmCb (l : Launch) (Z : State) (a0 : Array Value) (hw : ∀ d ∈ tables_1, d.before a0 Z = true) (ws : List Jvm.Cond) (t : Addr) (kt : ClassId) (cap : Nat) (cs : List Int32) (h0 : Heap) (n0 : Nat) (Z0 : n0 ≤ h0.size) (Vt : Arv Z h0 t kt .byte (Int32.ofNat cap) (own_by cs) (.int 0)) (hcap : cap ≤ 1000) (hn : cs.length ≤ 100) (hle : cs.length ≤ cap) :
    MetFree l (⟨"java/util/Arrays", "copyOfRangeByte", "([BII)[B"⟩ : MethodName) (head1 (Jvm.Cond.code (⟨"java/util/Arrays", "copyOfRangeByte", "([BII)[B"⟩ : MethodName) jdk_65_method_133_code 5 (some (.array .byte)) :: ws) ({ frames := 1, cells := 1, slots := 100, locals := 34 } : Room)) (fun aa UU => aa = #[(.ref t), (.int (0 : Int32)), (.int (Int32.ofNat cs.length))] ∧ Z.Warmed39 UU.vm ∧ UU.heap = h0) (fun _ _ _ _ _ => True) (fun _ UU oo UT => ∃ vv LL, oo = .returned vv ∧ QCb Z t kt cap cs h0 n0 vv UT.heap LL ∧ FrameEnd UU oo UT LL ({ frames := 1, cells := 1, slots := 100, locals := 34 } : Room).cells ({ frames := 1, cells := 1, slots := 100, locals := 34 } : Room).slots) := by
  refine MetFree.of_bodySF (by decide +kernel) hisR ?_
  intro p e s m args below meth c s₁ Bd hml0 hP hK
  obtain ⟨rfl, hZ, hh⟩ := hP
  have hx := Bd.exec
  have hby := Bd.bytes
  have hml : c.maxLocals = 5 := hml0
  have hown : s.vm.findClass "java/util/Arrays" = some m.cls := findClass_of_methodNamed Bd.named
  have hnm := (name_of_methodNamed Bd.named Bd.method).1
  have X0 : Stand p l e ({ frames := 1, cells := 1, slots := 100, locals := 34 } : Room) s m #[(.ref t), (.int (0 : Int32)), (.int (Int32.ofNat cs.length))] below meth c s₁ [] 0 0 := Stand.of_body Bd
  have e0 : s₁.heap = h0 := by rw [← hh, Bd.state]; rfl
  have N0 := Fr.nil n0
  have c0 : Steps p.tables e below (s₁.setTop (entryFrame m #[(.ref t), (.int (0 : Int32)), (.int (Int32.ofNat cs.length))] 5)) (s₁.setTop (mkF m 0 #[.val (.ref t), .val (.int (0 : Int32)), .val (.int (Int32.ofNat cs.length)), .unset, .unset] [])) := castTop (efCb m t cs) (Steps.refl _)
  show ∃ s₂ oo, Steps p.tables e below (s₁.setTop (entryFrame m #[(.ref t), (.int (0 : Int32)), (.int (Int32.ofNat cs.length))] 5)) s₂ ∧ _ ∧ _ ∧ _
  generalize s₁.setTop (entryFrame m #[(.ref t), (.int (0 : Int32)), (.int (Int32.ofNat cs.length))] 5) = S0 at c0 ⊢
  have c1 : Steps p.tables e below S0 (s₁.setTop (mkF m 2 #[.val (.ref t), .val (.int (0 : Int32)), .val (.int (Int32.ofNat cs.length)), .unset, .unset] [(.int (Int32.ofNat cs.length)), (.int (0 : Int32))])) := by
    refine c0.trans ?_
    show Steps p.tables e below (s₁.setTop (mkF m 0 #[.val (.ref t), .val (.int (0 : Int32)), .val (.int (Int32.ofNat cs.length)), .unset, .unset] [])) _
    refine XS.iloadN X0.here hx rfl (hb hby dCb_0) rfl ?_
    show Steps p.tables e below (s₁.setTop (mkF m 1 #[.val (.ref t), .val (.int (0 : Int32)), .val (.int (Int32.ofNat cs.length)), .unset, .unset] [(.int (0 : Int32))])) _
    refine XS.iloadN X0.here hx rfl (hb hby dCb_1) rfl ?_
    exact Steps.refl _
  obtain ⟨_, _, ⟨T2, L2, k2, n2⟩, -, X2, ⟨Lc2, hQ2, l2, y2, z2⟩, st2⟩ := Jvm.LawKit.callS X0 hx (y := (⟨"java/util/Arrays", "checkLength", "(II)V"⟩ : MethodName)) hown (mvT hZ (hw _ (List.mem_of_getElem? (i := 167) rfl))) (mvT hZ (hw _ (List.mem_of_getElem? (i := 168) rfl))) (mvT hZ (hw _ (List.mem_of_getElem? (i := 162) rfl))) (mvT hZ (hw _ (List.mem_of_getElem? (i := 169) rfl))) (by decide) (backOf (W := 0) (rmCl l Z a0 hw [] cs.length h0 n0 Z0 hn) hZ (hw _ (List.mem_of_getElem? (i := 169) rfl)) (hw _ (List.mem_of_getElem? (i := 162) rfl)) (by decide) (by decide)) (g := (mkF m 2 #[.val (.ref t), .val (.int (0 : Int32)), .val (.int (Int32.ofNat cs.length)), .unset, .unset] [(.int (Int32.ofNat cs.length)), (.int (0 : Int32))])) rfl (by rw [hml]; rfl) (argsL := [(.int (0 : Int32)), (.int (Int32.ofNat cs.length))]) (rest := []) (lenOf pd7 rfl) rfl (by show 2 * 0 + _ ≤ _; exact Nat.le_of_eq rfl) (hb hby dCb_2) (fun _ _ => ⟨rfl, e0, (by decide : 0 + 0 ≤ _), (by decide : 0 + 0 ≤ _)⟩)
  dsimp only [Pt.U, Pt.locs, Pt.cells, Pt.slots] at X2 l2 y2 z2 st2 hQ2
  subst l2 y2 z2
  obtain ⟨rfl, N1, e1⟩ := hQ2
  have c2 : Steps p.tables e below S0 (T2.setTop (mkF m 5 #[.val (.ref t), .val (.int (0 : Int32)), .val (.int (Int32.ofNat cs.length)), .unset, .unset] [])) := by
    refine c1.trans ?_
    show Steps p.tables e below (s₁.setTop (mkF m 2 #[.val (.ref t), .val (.int (0 : Int32)), .val (.int (Int32.ofNat cs.length)), .unset, .unset] [(.int (Int32.ofNat cs.length)), (.int (0 : Int32))])) _
    refine st2 _ ?_
    exact Steps.refl _
  have c3 : Steps p.tables e below S0 (T2.setTop (mkF m 8 #[.val (.ref t), .val (.int (0 : Int32)), .val (.int (Int32.ofNat cs.length)), .unset, .unset] [(.int ((Int32.ofNat cs.length) - (0 : Int32)))])) := by
    refine c2.trans ?_
    show Steps p.tables e below (T2.setTop (mkF m 5 #[.val (.ref t), .val (.int (0 : Int32)), .val (.int (Int32.ofNat cs.length)), .unset, .unset] [])) _
    refine XS.iloadN X2.here hx rfl (hb hby dCb_5) rfl ?_
    show Steps p.tables e below (T2.setTop (mkF m 6 #[.val (.ref t), .val (.int (0 : Int32)), .val (.int (Int32.ofNat cs.length)), .unset, .unset] [(.int (Int32.ofNat cs.length))])) _
    refine XS.iloadN X2.here hx rfl (hb hby dCb_6) rfl ?_
    show Steps p.tables e below (T2.setTop (mkF m 7 #[.val (.ref t), .val (.int (0 : Int32)), .val (.int (Int32.ofNat cs.length)), .unset, .unset] [(.int (0 : Int32)), (.int (Int32.ofNat cs.length))])) _
    refine XS.isub X2.here hx rfl (hb hby dCb_7) rfl ?_
    exact Steps.refl _
  rw [Int32.sub_zero] at c3
  have c4 : Steps p.tables e below S0 (T2.setTop (mkF m 10 #[.val (.ref t), .val (.int (0 : Int32)), .val (.int (Int32.ofNat cs.length)), .val (.int (Int32.ofNat cs.length)), .unset] [(.int (Int32.ofNat cs.length))])) := by
    refine c3.trans ?_
    show Steps p.tables e below (T2.setTop (mkF m 8 #[.val (.ref t), .val (.int (0 : Int32)), .val (.int (Int32.ofNat cs.length)), .unset, .unset] [(.int (Int32.ofNat cs.length))])) _
    refine XS.istoreN X2.here hx rfl (hb hby dCb_8) rfl (l' := #[.val (.ref t), .val (.int (0 : Int32)), .val (.int (Int32.ofNat cs.length)), .val (.int (Int32.ofNat cs.length)), .unset]) rfl ?_
    show Steps p.tables e below (T2.setTop (mkF m 9 #[.val (.ref t), .val (.int (0 : Int32)), .val (.int (Int32.ofNat cs.length)), .val (.int (Int32.ofNat cs.length)), .unset] [])) _
    refine XS.iloadN X2.here hx rfl (hb hby dCb_9) rfl ?_
    exact Steps.refl _
  obtain ⟨T5, h5, kA5, X5, e5, E5, A5, A5x, st5⟩ := newPE X2 hx hZ (hw _ (List.mem_of_getElem? (i := 19) rfl)) e1 (g := (mkF m 10 #[.val (.ref t), .val (.int (0 : Int32)), .val (.int (Int32.ofNat cs.length)), .val (.int (Int32.ofNat cs.length)), .unset] [(.int (Int32.ofNat cs.length))])) rfl (hb hby dCb_10) rfl (own_nn (by omega)) (cap := 100) (by rw [own_nat (by omega)]; exact hn) (by decide) (by decide) (by decide) (ad := "[B") (by decide +kernel)
  obtain ⟨b5, g5⟩ : ∃ z, z = h0.size := ⟨_, rfl⟩
  rw [← g5] at A5 A5x st5
  have c5 : Steps p.tables e below S0 (T5.setTop (mkF m 12 #[.val (.ref t), .val (.int (0 : Int32)), .val (.int (Int32.ofNat cs.length)), .val (.int (Int32.ofNat cs.length)), .unset] [(.ref b5)])) := by
    refine c4.trans ?_
    show Steps p.tables e below (T2.setTop (mkF m 10 #[.val (.ref t), .val (.int (0 : Int32)), .val (.int (Int32.ofNat cs.length)), .val (.int (Int32.ofNat cs.length)), .unset] [(.int (Int32.ofNat cs.length))])) _
    refine st5 _ ?_
    exact Steps.refl _
  have V5 := Arv.new A5 (own_nn (by omega))
  have gb : n0 ≤ b5 := Nat.le_trans Z0 (Nat.le_of_eq g5.symm)
  have zb : h0.size ≤ b5 := Nat.le_of_eq g5.symm
  have Zk := Nat.le_trans Z0 E5.1
  have c6 : Steps p.tables e below S0 (T5.setTop (mkF m 20 #[.val (.ref t), .val (.int (0 : Int32)), .val (.int (Int32.ofNat cs.length)), .val (.int (Int32.ofNat cs.length)), .val (.ref b5)] [(.ref t), (.int (0 : Int32)), (.ref b5), (.int (0 : Int32)), (.ref t)])) := by
    refine c5.trans ?_
    show Steps p.tables e below (T5.setTop (mkF m 12 #[.val (.ref t), .val (.int (0 : Int32)), .val (.int (Int32.ofNat cs.length)), .val (.int (Int32.ofNat cs.length)), .unset] [(.ref b5)])) _
    refine XS.astore X5.here hx rfl (hb hby dCb_12) rfl rfl (l' := #[.val (.ref t), .val (.int (0 : Int32)), .val (.int (Int32.ofNat cs.length)), .val (.int (Int32.ofNat cs.length)), .val (.ref b5)]) rfl ?_
    show Steps p.tables e below (T5.setTop (mkF m 14 #[.val (.ref t), .val (.int (0 : Int32)), .val (.int (Int32.ofNat cs.length)), .val (.int (Int32.ofNat cs.length)), .val (.ref b5)] [])) _
    refine XS.aloadN X5.here hx rfl (hb hby dCb_14) rfl rfl ?_
    show Steps p.tables e below (T5.setTop (mkF m 15 #[.val (.ref t), .val (.int (0 : Int32)), .val (.int (Int32.ofNat cs.length)), .val (.int (Int32.ofNat cs.length)), .val (.ref b5)] [(.ref t)])) _
    refine XS.iloadN X5.here hx rfl (hb hby dCb_15) rfl ?_
    show Steps p.tables e below (T5.setTop (mkF m 16 #[.val (.ref t), .val (.int (0 : Int32)), .val (.int (Int32.ofNat cs.length)), .val (.int (Int32.ofNat cs.length)), .val (.ref b5)] [(.int (0 : Int32)), (.ref t)])) _
    refine XS.aload X5.here hx rfl (hb hby dCb_16) rfl rfl ?_
    show Steps p.tables e below (T5.setTop (mkF m 18 #[.val (.ref t), .val (.int (0 : Int32)), .val (.int (Int32.ofNat cs.length)), .val (.int (Int32.ofNat cs.length)), .val (.ref b5)] [(.ref b5), (.int (0 : Int32)), (.ref t)])) _
    refine XS.iconst X5.here hx rfl (hb hby dCb_18) ?_
    show Steps p.tables e below (T5.setTop (mkF m 19 #[.val (.ref t), .val (.int (0 : Int32)), .val (.int (Int32.ofNat cs.length)), .val (.int (Int32.ofNat cs.length)), .val (.ref b5)] [(.int (0 : Int32)), (.ref b5), (.int (0 : Int32)), (.ref t)])) _
    refine XS.aloadN X5.here hx rfl (hb hby dCb_19) rfl rfl ?_
    exact Steps.refl _
  have Vt1 := Vt.ext E5
  obtain ⟨cl1, Ar1, -, Sz1, Mz1, -, -⟩ := id Vt1
  have c7 : Steps p.tables e below S0 (T5.setTop (mkF m 21 #[.val (.ref t), .val (.int (0 : Int32)), .val (.int (Int32.ofNat cs.length)), .val (.int (Int32.ofNat cs.length)), .val (.ref b5)] [(.int (Int32.ofNat cap)), (.int (0 : Int32)), (.ref b5), (.int (0 : Int32)), (.ref t)])) := by
    refine c6.trans ?_
    show Steps p.tables e below (T5.setTop (mkF m 20 #[.val (.ref t), .val (.int (0 : Int32)), .val (.int (Int32.ofNat cs.length)), .val (.int (Int32.ofNat cs.length)), .val (.ref b5)] [(.ref t), (.int (0 : Int32)), (.ref b5), (.int (0 : Int32)), (.ref t)])) _
    refine X5.arraylength hx (by rw [e5]; exact Ar1.1) (State.isArrayOf_alike hZ.alike Ar1.2.1) (g := (mkF m 20 #[.val (.ref t), .val (.int (0 : Int32)), .val (.int (Int32.ofNat cs.length)), .val (.int (Int32.ofNat cs.length)), .val (.ref b5)] [(.ref t), (.int (0 : Int32)), (.ref b5), (.int (0 : Int32)), (.ref t)])) rfl rfl (hb hby dCb_20) _ ?_
    rw [len_of Sz1 Mz1]
    exact Steps.refl _
  have c8 : Steps p.tables e below S0 (T5.setTop (mkF m 23 #[.val (.ref t), .val (.int (0 : Int32)), .val (.int (Int32.ofNat cs.length)), .val (.int (Int32.ofNat cs.length)), .val (.ref b5)] [(.int ((Int32.ofNat cap) - (0 : Int32))), (.int (0 : Int32)), (.ref b5), (.int (0 : Int32)), (.ref t)])) := by
    refine c7.trans ?_
    show Steps p.tables e below (T5.setTop (mkF m 21 #[.val (.ref t), .val (.int (0 : Int32)), .val (.int (Int32.ofNat cs.length)), .val (.int (Int32.ofNat cs.length)), .val (.ref b5)] [(.int (Int32.ofNat cap)), (.int (0 : Int32)), (.ref b5), (.int (0 : Int32)), (.ref t)])) _
    refine XS.iloadN X5.here hx rfl (hb hby dCb_21) rfl ?_
    show Steps p.tables e below (T5.setTop (mkF m 22 #[.val (.ref t), .val (.int (0 : Int32)), .val (.int (Int32.ofNat cs.length)), .val (.int (Int32.ofNat cs.length)), .val (.ref b5)] [(.int (0 : Int32)), (.int (Int32.ofNat cap)), (.int (0 : Int32)), (.ref b5), (.int (0 : Int32)), (.ref t)])) _
    refine XS.isub X5.here hx rfl (hb hby dCb_22) rfl ?_
    exact Steps.refl _
  rw [Int32.sub_zero] at c8
  have c9 : Steps p.tables e below S0 (T5.setTop (mkF m 24 #[.val (.ref t), .val (.int (0 : Int32)), .val (.int (Int32.ofNat cs.length)), .val (.int (Int32.ofNat cs.length)), .val (.ref b5)] [(.int (Int32.ofNat cs.length)), (.int (Int32.ofNat cap)), (.int (0 : Int32)), (.ref b5), (.int (0 : Int32)), (.ref t)])) := by
    refine c8.trans ?_
    show Steps p.tables e below (T5.setTop (mkF m 23 #[.val (.ref t), .val (.int (0 : Int32)), .val (.int (Int32.ofNat cs.length)), .val (.int (Int32.ofNat cs.length)), .val (.ref b5)] [(.int (Int32.ofNat cap)), (.int (0 : Int32)), (.ref b5), (.int (0 : Int32)), (.ref t)])) _
    refine XS.iloadN X5.here hx rfl (hb hby dCb_23) rfl ?_
    exact Steps.refl _
  obtain ⟨_, _, ⟨T10, L10, k10, n10⟩, -, X10, ⟨Lc10, hQ10, l10, y10, z10⟩, st10⟩ := Jvm.LawKit.callS X5 hx (y := (⟨"java/lang/Math", "min", "(II)I"⟩ : MethodName)) hown (mvT hZ (hw _ (List.mem_of_getElem? (i := 170) rfl))) (mvT hZ (hw _ (List.mem_of_getElem? (i := 171) rfl))) (mvT hZ (hw _ (List.mem_of_getElem? (i := 172) rfl))) (mvT hZ (hw _ (List.mem_of_getElem? (i := 173) rfl))) (by decide) (backOf (W := 4) (rmMi l Z a0 hw [] (Int32.ofNat cap) (Int32.ofNat cs.length) h5 n0 Zk) hZ (hw _ (List.mem_of_getElem? (i := 173) rfl)) (hw _ (List.mem_of_getElem? (i := 172) rfl)) (by decide) (by decide)) (g := (mkF m 24 #[.val (.ref t), .val (.int (0 : Int32)), .val (.int (Int32.ofNat cs.length)), .val (.int (Int32.ofNat cs.length)), .val (.ref b5)] [(.int (Int32.ofNat cs.length)), (.int (Int32.ofNat cap)), (.int (0 : Int32)), (.ref b5), (.int (0 : Int32)), (.ref t)])) rfl (by rw [hml]; rfl) (argsL := [(.int (Int32.ofNat cap)), (.int (Int32.ofNat cs.length))]) (rest := [(.int (0 : Int32)), (.ref b5), (.int (0 : Int32)), (.ref t)]) (lenOf pd8 rfl) rfl (by show 2 * 0 + _ ≤ _; exact Nat.le_of_eq rfl) (hb hby dCb_24) (fun _ _ => ⟨rfl, e5, (by decide : 1 + 0 ≤ _), (by decide : 100 + 0 ≤ _)⟩)
  dsimp only [Pt.U, Pt.locs, Pt.cells, Pt.slots] at X10 l10 y10 z10 st10 hQ10
  subst l10 y10 z10
  obtain ⟨rfl, N2, e2⟩ := hQ10
  have c10 : Steps p.tables e below S0 (T10.setTop (mkF m 27 #[.val (.ref t), .val (.int (0 : Int32)), .val (.int (Int32.ofNat cs.length)), .val (.int (Int32.ofNat cs.length)), .val (.ref b5)] [(.int (if (Int32.ofNat cs.length) < Int32.ofNat cap then (Int32.ofNat cs.length) else Int32.ofNat cap)), (.int (0 : Int32)), (.ref b5), (.int (0 : Int32)), (.ref t)])) := by
    refine c9.trans ?_
    show Steps p.tables e below (T5.setTop (mkF m 24 #[.val (.ref t), .val (.int (0 : Int32)), .val (.int (Int32.ofNat cs.length)), .val (.int (Int32.ofNat cs.length)), .val (.ref b5)] [(.int (Int32.ofNat cs.length)), (.int (Int32.ofNat cap)), (.int (0 : Int32)), (.ref b5), (.int (0 : Int32)), (.ref t)])) _
    refine st10 _ ?_
    exact Steps.refl _
  have hmin : (if (Int32.ofNat cs.length) < Int32.ofNat cap then (Int32.ofNat cs.length) else Int32.ofNat cap) = (Int32.ofNat cs.length) := by
    by_cases hc : (Int32.ofNat cs.length) < Int32.ofNat cap
    · exact if_pos hc
    · rw [if_neg hc]; have := (not_congr (own_ltn (by omega) (by omega))).mp hc; rw [show cap = cs.length by omega]
  rw [hmin] at c10
  have zc := own_nat (n := cs.length) (by omega)
  have zn := own_nat (n := cap) (by omega)
  have z0 : (0 : Int32).toNatClampNeg = 0 := rfl
  have Vd : Arv Z h5 b5 kA5 .byte (Int32.ofNat cs.length) ([] ++ List.replicate cs.length (.int 0)) (.int 0) := V5.pad (pad_rep [] (.int 0) cs.length)
  obtain ⟨T11, h11, L11, X11, e11, N11, K11, V11, st11⟩ := cpA X10 hx hZ hown (hw _ (List.mem_of_getElem? (i := 174) rfl)) (hw _ (List.mem_of_getElem? (i := 114) rfl)) (hw _ (List.mem_of_getElem? (i := 112) rfl)) (hw _ (List.mem_of_getElem? (i := 113) rfl)) e2 (us := own_by cs) Vt1 Vd (Or.inl ⟨rfl, rfl⟩) (by decide) (by decide) (own_nn (by omega)) (by rw [z0, zc, zn]; omega) (by rw [z0, zc]; omega) (by rw [z0, zc, ← own_bylen cs]; exact (own_rangeget _ _).symm) (by rw [z0, zc]; simp) (Fr.app (Fr.app N0 N1) N2) gb (g := (mkF m 27 #[.val (.ref t), .val (.int (0 : Int32)), .val (.int (Int32.ofNat cs.length)), .val (.int (Int32.ofNat cs.length)), .val (.ref b5)] [(.int (Int32.ofNat cs.length)), (.int (0 : Int32)), (.ref b5), (.int (0 : Int32)), (.ref t)])) rfl (by rw [hml]; rfl) rfl (hb hby dCb_27) (by decide) (W := 0) (by show 2 * 0 + _ ≤ _; exact Nat.le_of_eq rfl) (by decide)
  have c11 : Steps p.tables e below S0 (T11.setTop (mkF m 30 #[.val (.ref t), .val (.int (0 : Int32)), .val (.int (Int32.ofNat cs.length)), .val (.int (Int32.ofNat cs.length)), .val (.ref b5)] [])) := by
    refine c10.trans ?_
    show Steps p.tables e below (T10.setTop (mkF m 27 #[.val (.ref t), .val (.int (0 : Int32)), .val (.int (Int32.ofNat cs.length)), .val (.int (Int32.ofNat cs.length)), .val (.ref b5)] [(.int (Int32.ofNat cs.length)), (.int (0 : Int32)), (.ref b5), (.int (0 : Int32)), (.ref t)])) _
    refine st11 _ ?_
    exact Steps.refl _
  have Vf : Arv Z h11 b5 kA5 .byte (Int32.ofNat cs.length) (own_by cs) (.int 0) := by
    have := V11
    rw [z0, zc, List.take_zero, List.nil_append, List.nil_append, List.drop_of_length_le (by simp), List.append_nil] at this
    exact this
  have c12 : Steps p.tables e below S0 (T11.setTop (mkF m 32 #[.val (.ref t), .val (.int (0 : Int32)), .val (.int (Int32.ofNat cs.length)), .val (.int (Int32.ofNat cs.length)), .val (.ref b5)] [(.ref b5)])) := by
    refine c11.trans ?_
    show Steps p.tables e below (T11.setTop (mkF m 30 #[.val (.ref t), .val (.int (0 : Int32)), .val (.int (Int32.ofNat cs.length)), .val (.int (Int32.ofNat cs.length)), .val (.ref b5)] [])) _
    refine XS.aload X11.here hx rfl (hb hby dCb_30) rfl rfl ?_
    exact Steps.refl _
  obtain ⟨fs, hr, hrun, hended, hW, hsame⟩ := X11.leave (v := some (.ref b5)) (fun h => by rw [Bd.returns] at h; cases h)
  refine ⟨_, _, c12.trans ?_, hrun, hended, _, _, rfl, ?_, ⟨_, rfl⟩, hW, hsame.mono (by decide) (by decide)⟩
  · show Steps p.tables e below (T11.setTop (mkF m 32 #[.val (.ref t), .val (.int (0 : Int32)), .val (.int (Int32.ofNat cs.length)), .val (.int (Int32.ofNat cs.length)), .val (.ref b5)] [(.ref b5)])) _
    exact retA X11 hx Bd.returns rfl rfl (hb hby dCb_32) hr
  · show QCb Z t kt cap cs h0 n0 _ T11.heap _
    rw [e11]
    exact ⟨⟨_, _, rfl, zb, Vf, A5x.keep K11⟩, N11, ((Keep.refl h0 []).ext E5).trans K11 (fun x hx => by cases List.mem_singleton.mp hx; exact Or.inr zb)⟩
def QCr (Z : State) (t : Addr) (kt : ClassId) (cap : Nat) (cs : List Int32) (h0 : Heap) (n0 : Nat) (v : Option Value) (h : Heap) (L : List Loc) : Prop := (∃ (t2 : Addr) (k2 : ClassId), v = some (.ref t2) ∧ h0.size ≤ t2 ∧ Arv Z h t2 k2 .byte (Int32.ofNat cs.length) (own_by cs) (.int 0) ∧ Exa Z h t2 "[B") ∧ Fr n0 L ∧ Keep h0 h []
theorem efCr (m : MethodId) (t : Addr) (cs : List Int32) : entryFrame m #[(.ref t), (.int (0 : Int32)), (.int (Int32.ofNat cs.length))] 3 = mkF m 0 #[.val (.ref t), .val (.int (0 : Int32)), .val (.int (Int32.ofNat cs.length))] [] := by first | (simp [entryFrame, mkF, argsToLocals, Value.category, List.replicate]; done) | rfl
set_option maxRecDepth 65536 in
set_option maxHeartbeats 40000000 in
theorem rmCr (l : Launch) (Z : State) (a0 : Array Value) (hw : ∀ d ∈ tables_1, d.before a0 Z = true) (ws : List Jvm.Cond) (t : Addr) (kt : ClassId) (cap : Nat) (cs : List Int32) (h0 : Heap) (n0 : Nat) (Z0 : n0 ≤ h0.size) (Vt : Arv Z h0 t kt .byte (Int32.ofNat cap) (own_by cs) (.int 0)) (hcap : cap ≤ 1000) (hn : cs.length ≤ 100) (hle : cs.length ≤ cap) (Et : Exa Z h0 t "[B") (hlt : cs.length < cap) :
    MetFree l (⟨"java/util/Arrays", "copyOfRange", "([BII)[B"⟩ : MethodName) (head1 (Jvm.Cond.code (⟨"java/util/Arrays", "copyOfRange", "([BII)[B"⟩ : MethodName) jdk_65_method_132_code 3 (some (.array .byte)) :: ws) ({ frames := 2, cells := 1, slots := 100, locals := 52 } : Room)) (fun aa UU => aa = #[(.ref t), (.int (0 : Int32)), (.int (Int32.ofNat cs.length))] ∧ Z.Warmed39 UU.vm ∧ UU.heap = h0) (fun _ _ _ _ _ => True) (fun _ UU oo UT => ∃ vv LL, oo = .returned vv ∧ QCr Z t kt cap cs h0 n0 vv UT.heap LL ∧ FrameEnd UU oo UT LL ({ frames := 2, cells := 1, slots := 100, locals := 52 } : Room).cells ({ frames := 2, cells := 1, slots := 100, locals := 52 } : Room).slots) := by
  refine MetFree.of_bodySF (by decide +kernel) hisR ?_
  intro p e s m args below meth c s₁ Bd hml0 hP hK
  obtain ⟨rfl, hZ, hh⟩ := hP
  have hx := Bd.exec
  have hby := Bd.bytes
  have hml : c.maxLocals = 3 := hml0
  have hown : s.vm.findClass "java/util/Arrays" = some m.cls := findClass_of_methodNamed Bd.named
  have hnm := (name_of_methodNamed Bd.named Bd.method).1
  have X0 : Stand p l e ({ frames := 2, cells := 1, slots := 100, locals := 52 } : Room) s m #[(.ref t), (.int (0 : Int32)), (.int (Int32.ofNat cs.length))] below meth c s₁ [] 0 0 := Stand.of_body Bd
  have e0 : s₁.heap = h0 := by rw [← hh, Bd.state]; rfl
  have N0 := Fr.nil n0
  have c0 : Steps p.tables e below (s₁.setTop (entryFrame m #[(.ref t), (.int (0 : Int32)), (.int (Int32.ofNat cs.length))] 3)) (s₁.setTop (mkF m 0 #[.val (.ref t), .val (.int (0 : Int32)), .val (.int (Int32.ofNat cs.length))] [])) := castTop (efCr m t cs) (Steps.refl _)
  show ∃ s₂ oo, Steps p.tables e below (s₁.setTop (entryFrame m #[(.ref t), (.int (0 : Int32)), (.int (Int32.ofNat cs.length))] 3)) s₂ ∧ _ ∧ _ ∧ _
  generalize s₁.setTop (entryFrame m #[(.ref t), (.int (0 : Int32)), (.int (Int32.ofNat cs.length))] 3) = S0 at c0 ⊢
  obtain ⟨cl, Ar, -, Sz, Mz, -, -⟩ := id Vt
  have c1 : Steps p.tables e below S0 (s₁.setTop (mkF m 4 #[.val (.ref t), .val (.int (0 : Int32)), .val (.int (Int32.ofNat cs.length))] [])) := by
    refine c0.trans ?_
    show Steps p.tables e below (s₁.setTop (mkF m 0 #[.val (.ref t), .val (.int (0 : Int32)), .val (.int (Int32.ofNat cs.length))] [])) _
    refine XS.iloadN X0.here hx rfl (hb hby dCr_0) rfl ?_
    show Steps p.tables e below (s₁.setTop (mkF m 1 #[.val (.ref t), .val (.int (0 : Int32)), .val (.int (Int32.ofNat cs.length))] [(.int (0 : Int32))])) _
    refine XS.ifNo X0.here hx rfl (hb hby dCr_1) rfl ((if0 _ _).trans (teq rfl).2) ?_
    exact Steps.refl _
  have c2 : Steps p.tables e below S0 (s₁.setTop (mkF m 6 #[.val (.ref t), .val (.int (0 : Int32)), .val (.int (Int32.ofNat cs.length))] [(.ref t), (.int (Int32.ofNat cs.length))])) := by
    refine c1.trans ?_
    show Steps p.tables e below (s₁.setTop (mkF m 4 #[.val (.ref t), .val (.int (0 : Int32)), .val (.int (Int32.ofNat cs.length))] [])) _
    refine XS.iloadN X0.here hx rfl (hb hby dCr_4) rfl ?_
    show Steps p.tables e below (s₁.setTop (mkF m 5 #[.val (.ref t), .val (.int (0 : Int32)), .val (.int (Int32.ofNat cs.length))] [(.int (Int32.ofNat cs.length))])) _
    refine XS.aloadN X0.here hx rfl (hb hby dCr_5) rfl rfl ?_
    exact Steps.refl _
  have c3 : Steps p.tables e below S0 (s₁.setTop (mkF m 7 #[.val (.ref t), .val (.int (0 : Int32)), .val (.int (Int32.ofNat cs.length))] [(.int (Int32.ofNat cap)), (.int (Int32.ofNat cs.length))])) := by
    refine c2.trans ?_
    show Steps p.tables e below (s₁.setTop (mkF m 6 #[.val (.ref t), .val (.int (0 : Int32)), .val (.int (Int32.ofNat cs.length))] [(.ref t), (.int (Int32.ofNat cs.length))])) _
    refine X0.arraylength hx (by rw [e0]; exact Ar.1) (State.isArrayOf_alike hZ.alike Ar.2.1) (g := (mkF m 6 #[.val (.ref t), .val (.int (0 : Int32)), .val (.int (Int32.ofNat cs.length))] [(.ref t), (.int (Int32.ofNat cs.length))])) rfl rfl (hb hby dCr_6) _ ?_
    rw [len_of Sz Mz]
    exact Steps.refl _
  have hq : ¬ cs.length = cap := by omega
  have c4 : Steps p.tables e below S0 (s₁.setTop (mkF m 10 #[.val (.ref t), .val (.int (0 : Int32)), .val (.int (Int32.ofNat cs.length))] [])) := by
    refine c3.trans ?_
    show Steps p.tables e below (s₁.setTop (mkF m 7 #[.val (.ref t), .val (.int (0 : Int32)), .val (.int (Int32.ofNat cs.length))] [(.int (Int32.ofNat cap)), (.int (Int32.ofNat cs.length))])) _
    refine XS.icmpNo X0.here hx rfl (hb hby dCr_7) rfl (feq (fun q => hq ((own_eqn (by omega) (by omega)).mp q))).1 ?_
    exact Steps.refl _
  have c5 : Steps p.tables e below S0 (s₁.setTop (mkF m 13 #[.val (.ref t), .val (.int (0 : Int32)), .val (.int (Int32.ofNat cs.length))] [(.int (Int32.ofNat cs.length)), (.int (0 : Int32)), (.ref t)])) := by
    refine c4.trans ?_
    show Steps p.tables e below (s₁.setTop (mkF m 10 #[.val (.ref t), .val (.int (0 : Int32)), .val (.int (Int32.ofNat cs.length))] [])) _
    refine XS.aloadN X0.here hx rfl (hb hby dCr_10) rfl rfl ?_
    show Steps p.tables e below (s₁.setTop (mkF m 11 #[.val (.ref t), .val (.int (0 : Int32)), .val (.int (Int32.ofNat cs.length))] [(.ref t)])) _
    refine XS.iloadN X0.here hx rfl (hb hby dCr_11) rfl ?_
    show Steps p.tables e below (s₁.setTop (mkF m 12 #[.val (.ref t), .val (.int (0 : Int32)), .val (.int (Int32.ofNat cs.length))] [(.int (0 : Int32)), (.ref t)])) _
    refine XS.iloadN X0.here hx rfl (hb hby dCr_12) rfl ?_
    exact Steps.refl _
  obtain ⟨_, _, ⟨T6, L6, k6, n6⟩, -, X6, ⟨Lc6, hQ6, l6, y6, z6⟩, st6⟩ := Jvm.LawKit.callS X0 hx (y := (⟨"java/util/Arrays", "copyOfRangeByte", "([BII)[B"⟩ : MethodName)) hown (mvT hZ (hw _ (List.mem_of_getElem? (i := 164) rfl))) (mvT hZ (hw _ (List.mem_of_getElem? (i := 165) rfl))) (mvT hZ (hw _ (List.mem_of_getElem? (i := 162) rfl))) (mvT hZ (hw _ (List.mem_of_getElem? (i := 166) rfl))) (by decide) (backOf (W := 0) (rmCb l Z a0 hw [] t kt cap cs h0 n0 Z0 Vt hcap hn hle) hZ (hw _ (List.mem_of_getElem? (i := 166) rfl)) (hw _ (List.mem_of_getElem? (i := 162) rfl)) (by decide) (by decide)) (g := (mkF m 13 #[.val (.ref t), .val (.int (0 : Int32)), .val (.int (Int32.ofNat cs.length))] [(.int (Int32.ofNat cs.length)), (.int (0 : Int32)), (.ref t)])) rfl (by rw [hml]; rfl) (argsL := [(.ref t), (.int (0 : Int32)), (.int (Int32.ofNat cs.length))]) (rest := []) (lenOf pd9 rfl) rfl (by show 2 * 0 + _ ≤ _; exact Nat.le_of_eq rfl) (hb hby dCr_13) (fun _ _ => ⟨rfl, e0, (by decide : 0 + 1 ≤ _), (by decide : 0 + 100 ≤ _)⟩)
  dsimp only [Pt.U, Pt.locs, Pt.cells, Pt.slots] at X6 l6 y6 z6 st6 hQ6
  subst l6 y6 z6
  obtain ⟨⟨t2, k2, rfl, zt2, V2, E2⟩, N1, K1⟩ := hQ6
  have c6 : Steps p.tables e below S0 (T6.setTop (mkF m 16 #[.val (.ref t), .val (.int (0 : Int32)), .val (.int (Int32.ofNat cs.length))] [(.ref t2)])) := by
    refine c5.trans ?_
    show Steps p.tables e below (s₁.setTop (mkF m 13 #[.val (.ref t), .val (.int (0 : Int32)), .val (.int (Int32.ofNat cs.length))] [(.int (Int32.ofNat cs.length)), (.int (0 : Int32)), (.ref t)])) _
    refine st6 _ ?_
    exact Steps.refl _
  obtain ⟨fs, hr, hrun, hended, hW, hsame⟩ := X6.leave (v := some (.ref t2)) (fun h => by rw [Bd.returns] at h; cases h)
  refine ⟨_, _, c6.trans ?_, hrun, hended, _, _, rfl, ?_, ⟨_, rfl⟩, hW, hsame.mono (by decide) (by decide)⟩
  · show Steps p.tables e below (T6.setTop (mkF m 16 #[.val (.ref t), .val (.int (0 : Int32)), .val (.int (Int32.ofNat cs.length))] [(.ref t2)])) _
    exact retA X6 hx Bd.returns rfl rfl (hb hby dCr_16) hr
  · show QCr Z t kt cap cs h0 n0 _ T6.heap _
    exact ⟨⟨_, _, rfl, zt2, V2, E2⟩, Fr.app N0 N1, K1⟩
def QSb (Z : State) (a : Addr) (b : Addr) (t : Addr) (cap : Nat) (cs : List Int32) (G1 : Int32) (h0 : Heap) (n0 : Nat) (v : Option Value) (h : Heap) (L : List Loc) : Prop := v = none ∧ Fr n0 L ∧ Keep h0 h [a] ∧ ∃ t2 : Addr, own_Str Z h a t2 cs ∧ Exa Z h t2 "[B"
theorem efSb (m : MethodId) (a : Addr) (b : Addr) : entryFrame m #[(.ref a), (.ref b), .null] 5 = mkF m 0 #[.val (.ref a), .val (.ref b), .val .null, .unset, .unset] [] := by first | (simp [entryFrame, mkF, argsToLocals, Value.category, List.replicate]; done) | rfl
set_option maxRecDepth 65536 in
set_option maxHeartbeats 40000000 in
theorem rmSb (l : Launch) (Z : State) (a0 : Array Value) (hw : ∀ d ∈ tables_1, d.before a0 Z = true) (ws : List Jvm.Cond) (a : Addr) (b : Addr) (t : Addr) (cap : Nat) (cs : List Int32) (G1 : Int32) (h0 : Heap) (n0 : Nat) (Z0 : n0 ≤ h0.size) (O2 : Sta Z Z.heap "java/lang/String" "COMPACT_STRINGS" "Z" (.int G1)) (P5 : ¬ G1 = 0) (X00 : Old Z n0 h0) (Ea : Exa Z h0 a "java/lang/String") (Fv : Fld Z h0 a "java/lang/String" "value" "[B" .null) (Fc : Fld Z h0 a "java/lang/String" "coder" "B" (.int 0)) (ga : n0 ≤ a) (B : own_SB Z h0 b t cap cs) (hn : cs.length ≤ 100) (hlt : cs.length < cap) :
    MetFree l (⟨"java/lang/String", "<init>", "(Ljava/lang/AbstractStringBuilder;Ljava/lang/Void;)V"⟩ : MethodName) (head1 (Jvm.Cond.code (⟨"java/lang/String", "<init>", "(Ljava/lang/AbstractStringBuilder;Ljava/lang/Void;)V"⟩ : MethodName) jdk_42_method_150_code 5 none :: ws) ({ frames := 3, cells := 1, slots := 100, locals := 70 } : Room)) (fun aa UU => aa = #[(.ref a), (.ref b), .null] ∧ Z.Warmed39 UU.vm ∧ UU.heap = h0) (fun _ _ _ _ _ => True) (fun _ UU oo UT => ∃ vv LL, oo = .returned vv ∧ QSb Z a b t cap cs G1 h0 n0 vv UT.heap LL ∧ FrameEnd UU oo UT LL ({ frames := 3, cells := 1, slots := 100, locals := 70 } : Room).cells ({ frames := 3, cells := 1, slots := 100, locals := 70 } : Room).slots) := by
  refine MetFree.of_bodySF (by decide +kernel) hisR ?_
  intro p e s m args below meth c s₁ Bd hml0 hP hK
  obtain ⟨rfl, hZ, hh⟩ := hP
  have hx := Bd.exec
  have hby := Bd.bytes
  have hml : c.maxLocals = 5 := hml0
  have hown : s.vm.findClass "java/lang/String" = some m.cls := findClass_of_methodNamed Bd.named
  have hnm := (name_of_methodNamed Bd.named Bd.method).1
  have X0 : Stand p l e ({ frames := 3, cells := 1, slots := 100, locals := 70 } : Room) s m #[(.ref a), (.ref b), .null] below meth c s₁ [] 0 0 := Stand.of_body Bd
  have e0 : s₁.heap = h0 := by rw [← hh, Bd.state]; rfl
  have N0 := Fr.nil n0
  have c0 : Steps p.tables e below (s₁.setTop (entryFrame m #[(.ref a), (.ref b), .null] 5)) (s₁.setTop (mkF m 0 #[.val (.ref a), .val (.ref b), .val .null, .unset, .unset] [])) := castTop (efSb m a b) (Steps.refl _)
  show ∃ s₂ oo, Steps p.tables e below (s₁.setTop (entryFrame m #[(.ref a), (.ref b), .null] 5)) s₂ ∧ _ ∧ _ ∧ _
  generalize s₁.setTop (entryFrame m #[(.ref a), (.ref b), .null] 5) = S0 at c0 ⊢
  obtain ⟨Eb, Fco, Fcn, Fva, ⟨kt, Vt, Et⟩, hch, hle, hcap⟩ := id B
  have c1 : Steps p.tables e below S0 (s₁.setTop (mkF m 1 #[.val (.ref a), .val (.ref b), .val .null, .unset, .unset] [(.ref a)])) := by
    refine c0.trans ?_
    show Steps p.tables e below (s₁.setTop (mkF m 0 #[.val (.ref a), .val (.ref b), .val .null, .unset, .unset] [])) _
    refine XS.aloadN X0.here hx rfl (hb hby dSb_0) rfl rfl ?_
    exact Steps.refl _
  obtain ⟨T2, X2, e2, st2⟩ := initO X0 hx hZ hown (hw _ (List.mem_of_getElem? (i := 15) rfl)) (hw _ (List.mem_of_getElem? (i := 16) rfl)) (hw _ (List.mem_of_getElem? (i := 17) rfl)) e0 (g := (mkF m 1 #[.val (.ref a), .val (.ref b), .val .null, .unset, .unset] [(.ref a)])) rfl (by rw [hml]; rfl) rfl (hb hby dSb_1) (by decide) (W := 0) (by show 2 * 0 + _ ≤ _; exact Nat.le_of_eq rfl) (by decide)
  have c2 : Steps p.tables e below S0 (T2.setTop (mkF m 4 #[.val (.ref a), .val (.ref b), .val .null, .unset, .unset] [])) := by
    refine c1.trans ?_
    show Steps p.tables e below (s₁.setTop (mkF m 1 #[.val (.ref a), .val (.ref b), .val .null, .unset, .unset] [(.ref a)])) _
    refine st2 _ ?_
    exact Steps.refl _
  have c3 : Steps p.tables e below S0 (T2.setTop (mkF m 5 #[.val (.ref a), .val (.ref b), .val .null, .unset, .unset] [(.ref b)])) := by
    refine c2.trans ?_
    show Steps p.tables e below (T2.setTop (mkF m 4 #[.val (.ref a), .val (.ref b), .val .null, .unset, .unset] [])) _
    refine XS.aloadN X2.here hx rfl (hb hby dSb_4) rfl rfl ?_
    exact Steps.refl _
  obtain ⟨cq4, kq4, q4a, q4b, q4c⟩ := isOf hZ e2 Eb
  obtain ⟨_, _, ⟨T4, L4, k4, n4⟩, -, X4, ⟨Lc4, hQ4, l4, y4, z4⟩, st4⟩ := X2.virtualBack hx (y := (⟨"java/lang/AbstractStringBuilder", "getValue", "()[B"⟩ : MethodName)) (z := (⟨"java/lang/AbstractStringBuilder", "getValue", "()[B"⟩ : MethodName)) hown (mvT hZ (hw _ (List.mem_of_getElem? (i := 142) rfl))) (mvT hZ (hw _ (List.mem_of_getElem? (i := 143) rfl))) (notFace_of_selects (args := #[]) (mvT hZ (hw _ (List.mem_of_getElem? (i := 145) rfl)))) (mvT hZ (hw _ (List.mem_of_getElem? (i := 145) rfl))) (mvT hZ (hw _ (List.mem_of_getElem? (i := 144) rfl))) (by decide) (backOf (W := 0) (rmGv l Z a0 hw [] b t cap cs h0 n0 Z0 B) hZ (hw _ (List.mem_of_getElem? (i := 146) rfl)) (hw _ (List.mem_of_getElem? (i := 55) rfl)) (by decide) (by decide)) q4a q4c (g := (mkF m 5 #[.val (.ref a), .val (.ref b), .val .null, .unset, .unset] [(.ref b)])) rfl (by rw [hml]; rfl) (Steps.refl _) (argsL := []) (rest := []) (lenOf pd10 rfl) rfl (by show 2 * 0 + _ ≤ _; exact Nat.le_of_eq rfl) (hb hby dSb_5) (fun _ _ => ⟨rfl, e2, (by decide : 0 + 0 ≤ _), (by decide : 0 + 0 ≤ _)⟩)
  dsimp only [Pt.U, Pt.locs, Pt.cells, Pt.slots] at X4 l4 y4 z4 st4 hQ4
  subst l4 y4 z4
  obtain ⟨rfl, N1, e1⟩ := hQ4
  have c4 : Steps p.tables e below S0 (T4.setTop (mkF m 8 #[.val (.ref a), .val (.ref b), .val .null, .unset, .unset] [(.ref t)])) := by
    refine c3.trans ?_
    show Steps p.tables e below (T2.setTop (mkF m 5 #[.val (.ref a), .val (.ref b), .val .null, .unset, .unset] [(.ref b)])) _
    refine st4.trans ?_
    exact Steps.refl _
  have c5 : Steps p.tables e below S0 (T4.setTop (mkF m 10 #[.val (.ref a), .val (.ref b), .val .null, .val (.ref t), .unset] [(.ref b)])) := by
    refine c4.trans ?_
    show Steps p.tables e below (T4.setTop (mkF m 8 #[.val (.ref a), .val (.ref b), .val .null, .unset, .unset] [(.ref t)])) _
    refine XS.astoreN X4.here hx rfl (hb hby dSb_8) rfl rfl (l' := #[.val (.ref a), .val (.ref b), .val .null, .val (.ref t), .unset]) rfl ?_
    show Steps p.tables e below (T4.setTop (mkF m 9 #[.val (.ref a), .val (.ref b), .val .null, .val (.ref t), .unset] [])) _
    refine XS.aloadN X4.here hx rfl (hb hby dSb_9) rfl rfl ?_
    exact Steps.refl _
  obtain ⟨cq6, kq6, q6a, q6b, q6c⟩ := isOf hZ e1 Eb
  obtain ⟨_, _, ⟨T6, L6, k6, n6⟩, -, X6, ⟨Lc6, hQ6, l6, y6, z6⟩, st6⟩ := X4.virtualBack hx (y := (⟨"java/lang/AbstractStringBuilder", "length", "()I"⟩ : MethodName)) (z := (⟨"java/lang/StringBuilder", "length", "()I"⟩ : MethodName)) hown (mvT hZ (hw _ (List.mem_of_getElem? (i := 147) rfl))) (mvT hZ (hw _ (List.mem_of_getElem? (i := 148) rfl))) (own_nf hZ (own_NI_of (y := (⟨"java/lang/AbstractStringBuilder", "getValue", "()[B"⟩ : MethodName)) (hw _ (List.mem_of_getElem? (i := 145) rfl)))) (mvT hZ (hw _ (List.mem_of_getElem? (i := 150) rfl))) (mvT hZ (hw _ (List.mem_of_getElem? (i := 151) rfl))) (by decide) (backOf (W := 0) (rmSl l Z a0 hw [] b t cap cs h0 n0 Z0 B) hZ (hw _ (List.mem_of_getElem? (i := 152) rfl)) (hw _ (List.mem_of_getElem? (i := 46) rfl)) (by decide) (by decide)) q6a q6c (g := (mkF m 10 #[.val (.ref a), .val (.ref b), .val .null, .val (.ref t), .unset] [(.ref b)])) rfl (by rw [hml]; rfl) (Steps.refl _) (argsL := []) (rest := []) (lenOf pd3 rfl) rfl (by show 2 * 0 + _ ≤ _; exact Nat.le_of_eq rfl) (hb hby dSb_10) (fun _ _ => ⟨rfl, e1, (by decide : 0 + 0 ≤ _), (by decide : 0 + 0 ≤ _)⟩)
  dsimp only [Pt.U, Pt.locs, Pt.cells, Pt.slots] at X6 l6 y6 z6 st6 hQ6
  subst l6 y6 z6
  obtain ⟨rfl, N2, e2⟩ := hQ6
  have c6 : Steps p.tables e below S0 (T6.setTop (mkF m 13 #[.val (.ref a), .val (.ref b), .val .null, .val (.ref t), .unset] [(.int (Int32.ofNat cs.length))])) := by
    refine c5.trans ?_
    show Steps p.tables e below (T4.setTop (mkF m 10 #[.val (.ref a), .val (.ref b), .val .null, .val (.ref t), .unset] [(.ref b)])) _
    refine st6.trans ?_
    exact Steps.refl _
  have c7 : Steps p.tables e below S0 (T6.setTop (mkF m 16 #[.val (.ref a), .val (.ref b), .val .null, .val (.ref t), .val (.int (Int32.ofNat cs.length))] [(.ref b)])) := by
    refine c6.trans ?_
    show Steps p.tables e below (T6.setTop (mkF m 13 #[.val (.ref a), .val (.ref b), .val .null, .val (.ref t), .unset] [(.int (Int32.ofNat cs.length))])) _
    refine XS.istore X6.here hx rfl (hb hby dSb_13) rfl (l' := #[.val (.ref a), .val (.ref b), .val .null, .val (.ref t), .val (.int (Int32.ofNat cs.length))]) rfl ?_
    show Steps p.tables e below (T6.setTop (mkF m 15 #[.val (.ref a), .val (.ref b), .val .null, .val (.ref t), .val (.int (Int32.ofNat cs.length))] [])) _
    refine XS.aloadN X6.here hx rfl (hb hby dSb_15) rfl rfl ?_
    exact Steps.refl _
  obtain ⟨cq8, kq8, q8a, q8b, q8c⟩ := isOf hZ e2 Eb
  obtain ⟨_, _, ⟨T8, L8, k8, n8⟩, -, X8, ⟨Lc8, hQ8, l8, y8, z8⟩, st8⟩ := X6.virtualBack hx (y := (⟨"java/lang/AbstractStringBuilder", "isLatin1", "()Z"⟩ : MethodName)) (z := (⟨"java/lang/AbstractStringBuilder", "isLatin1", "()Z"⟩ : MethodName)) hown (mvT hZ (hw _ (List.mem_of_getElem? (i := 155) rfl))) (mvT hZ (hw _ (List.mem_of_getElem? (i := 156) rfl))) (notFace_of_selects (args := #[]) (mvT hZ (hw _ (List.mem_of_getElem? (i := 158) rfl)))) (mvT hZ (hw _ (List.mem_of_getElem? (i := 158) rfl))) (mvT hZ (hw _ (List.mem_of_getElem? (i := 157) rfl))) (by decide) (backOf (W := 0) (rmIl l Z a0 hw [] b t cap cs G1 h0 n0 Z0 O2 P5 X00 B) hZ (hw _ (List.mem_of_getElem? (i := 159) rfl)) (hw _ (List.mem_of_getElem? (i := 55) rfl)) (by decide) (by decide)) q8a q8c (g := (mkF m 16 #[.val (.ref a), .val (.ref b), .val .null, .val (.ref t), .val (.int (Int32.ofNat cs.length))] [(.ref b)])) rfl (by rw [hml]; rfl) (Steps.refl _) (argsL := []) (rest := []) (lenOf pd11 rfl) rfl (by show 2 * 0 + _ ≤ _; exact Nat.le_of_eq rfl) (hb hby dSb_16) (fun _ _ => ⟨rfl, e2, (by decide : 0 + 0 ≤ _), (by decide : 0 + 0 ≤ _)⟩)
  dsimp only [Pt.U, Pt.locs, Pt.cells, Pt.slots] at X8 l8 y8 z8 st8 hQ8
  subst l8 y8 z8
  obtain ⟨rfl, N3, e3⟩ := hQ8
  have c8 : Steps p.tables e below S0 (T8.setTop (mkF m 19 #[.val (.ref a), .val (.ref b), .val .null, .val (.ref t), .val (.int (Int32.ofNat cs.length))] [(.int (1 : Int32))])) := by
    refine c7.trans ?_
    show Steps p.tables e below (T6.setTop (mkF m 16 #[.val (.ref a), .val (.ref b), .val .null, .val (.ref t), .val (.int (Int32.ofNat cs.length))] [(.ref b)])) _
    refine st8.trans ?_
    exact Steps.refl _
  have c9 : Steps p.tables e below S0 (T8.setTop (mkF m 22 #[.val (.ref a), .val (.ref b), .val .null, .val (.ref t), .val (.int (Int32.ofNat cs.length))] [])) := by
    refine c8.trans ?_
    show Steps p.tables e below (T8.setTop (mkF m 19 #[.val (.ref a), .val (.ref b), .val .null, .val (.ref t), .val (.int (Int32.ofNat cs.length))] [(.int (1 : Int32))])) _
    refine XS.ifNo X8.here hx rfl (hb hby dSb_19) rfl ((if0 _ _).trans (feq (by decide)).1) ?_
    exact Steps.refl _
  have c10 : Steps p.tables e below S0 (T8.setTop (mkF m 24 #[.val (.ref a), .val (.ref b), .val .null, .val (.ref t), .val (.int (Int32.ofNat cs.length))] [(.int (0 : Int32)), (.ref a)])) := by
    refine c9.trans ?_
    show Steps p.tables e below (T8.setTop (mkF m 22 #[.val (.ref a), .val (.ref b), .val .null, .val (.ref t), .val (.int (Int32.ofNat cs.length))] [])) _
    refine XS.aloadN X8.here hx rfl (hb hby dSb_22) rfl rfl ?_
    show Steps p.tables e below (T8.setTop (mkF m 23 #[.val (.ref a), .val (.ref b), .val .null, .val (.ref t), .val (.int (Int32.ofNat cs.length))] [(.ref a)])) _
    refine XS.iconst X8.here hx rfl (hb hby dSb_23) ?_
    exact Steps.refl _
  obtain ⟨T11, h11, X11, e11, W11, st11⟩ := putFN X8 hx hZ hown (hw _ (List.mem_of_getElem? (i := 25) rfl)) Via.refl e3 Fc Ea (Or.inr ⟨(hw _ (List.mem_of_getElem? (i := 21) rfl)), rfl, hnm⟩) (hw _ (List.mem_of_getElem? (i := 6) rfl)) (ty := .byte) (v' := (.int (0 : Int32))) (by decide) rfl rfl (g := (mkF m 24 #[.val (.ref a), .val (.ref b), .val .null, .val (.ref t), .val (.int (Int32.ofNat cs.length))] [(.int (0 : Int32)), (.ref a)])) rfl rfl (hb hby dSb_24)
  have c11 : Steps p.tables e below S0 (T11.setTop (mkF m 27 #[.val (.ref a), .val (.ref b), .val .null, .val (.ref t), .val (.int (Int32.ofNat cs.length))] [])) := by
    refine c10.trans ?_
    show Steps p.tables e below (T8.setTop (mkF m 24 #[.val (.ref a), .val (.ref b), .val .null, .val (.ref t), .val (.int (Int32.ofNat cs.length))] [(.int (0 : Int32)), (.ref a)])) _
    refine st11 _ ?_
    exact Steps.refl _
  have Na := Fr.snoc X11 (Fr.app (Fr.app (Fr.app N0 N1) N2) N3) ga
  have Ea1 := Ea.wr W11
  have Fc1 := Fc.same W11
  have Fv1 := Fv.other W11 (Or.inr (slot_ne (Or.inr (hw _ (List.mem_of_getElem? (i := 20) rfl))) (Or.inr (hw _ (List.mem_of_getElem? (i := 21) rfl))) (by decide) (t := (.array .byte)) (t' := .byte) (by decide) (by decide)))
  have nat : a ≠ t := Ea.neArv Vt (hw _ (List.mem_of_getElem? (i := 6) rfl))
  have Vt1 := Vt.other W11 (Ne.symm nat)
  have Z1 := Nat.le_trans Z0 (Nat.le_of_eq (own_wsz W11).symm)
  have c12 : Steps p.tables e below S0 (T11.setTop (mkF m 32 #[.val (.ref a), .val (.ref b), .val .null, .val (.ref t), .val (.int (Int32.ofNat cs.length))] [(.int (Int32.ofNat cs.length)), (.int (0 : Int32)), (.ref t), (.ref a)])) := by
    refine c11.trans ?_
    show Steps p.tables e below (T11.setTop (mkF m 27 #[.val (.ref a), .val (.ref b), .val .null, .val (.ref t), .val (.int (Int32.ofNat cs.length))] [])) _
    refine XS.aloadN X11.here hx rfl (hb hby dSb_27) rfl rfl ?_
    show Steps p.tables e below (T11.setTop (mkF m 28 #[.val (.ref a), .val (.ref b), .val .null, .val (.ref t), .val (.int (Int32.ofNat cs.length))] [(.ref a)])) _
    refine XS.aloadN X11.here hx rfl (hb hby dSb_28) rfl rfl ?_
    show Steps p.tables e below (T11.setTop (mkF m 29 #[.val (.ref a), .val (.ref b), .val .null, .val (.ref t), .val (.int (Int32.ofNat cs.length))] [(.ref t), (.ref a)])) _
    refine XS.iconst X11.here hx rfl (hb hby dSb_29) ?_
    show Steps p.tables e below (T11.setTop (mkF m 30 #[.val (.ref a), .val (.ref b), .val .null, .val (.ref t), .val (.int (Int32.ofNat cs.length))] [(.int (0 : Int32)), (.ref t), (.ref a)])) _
    refine XS.iload X11.here hx rfl (hb hby dSb_30) rfl ?_
    exact Steps.refl _
  obtain ⟨_, _, ⟨T13, L13, k13, n13⟩, -, X13, ⟨Lc13, hQ13, l13, y13, z13⟩, st13⟩ := Jvm.LawKit.callS X11 hx (y := (⟨"java/util/Arrays", "copyOfRange", "([BII)[B"⟩ : MethodName)) hown (mvT hZ (hw _ (List.mem_of_getElem? (i := 160) rfl))) (mvT hZ (hw _ (List.mem_of_getElem? (i := 161) rfl))) (mvT hZ (hw _ (List.mem_of_getElem? (i := 162) rfl))) (mvT hZ (hw _ (List.mem_of_getElem? (i := 163) rfl))) (by decide) (backOf (W := 1) (rmCr l Z a0 hw [] t kt cap cs h11 n0 Z1 Vt1 hcap hn hle (Et.wr W11) hlt) hZ (hw _ (List.mem_of_getElem? (i := 163) rfl)) (hw _ (List.mem_of_getElem? (i := 162) rfl)) (by decide) (by decide)) (g := (mkF m 32 #[.val (.ref a), .val (.ref b), .val .null, .val (.ref t), .val (.int (Int32.ofNat cs.length))] [(.int (Int32.ofNat cs.length)), (.int (0 : Int32)), (.ref t), (.ref a)])) rfl (by rw [hml]; rfl) (argsL := [(.ref t), (.int (0 : Int32)), (.int (Int32.ofNat cs.length))]) (rest := [(.ref a)]) (lenOf pd9 rfl) rfl (by show 2 * 0 + _ ≤ _; exact Nat.le_of_eq rfl) (hb hby dSb_32) (fun _ _ => ⟨rfl, e11, (by decide : 0 + 1 ≤ _), (by decide : 0 + 100 ≤ _)⟩)
  dsimp only [Pt.U, Pt.locs, Pt.cells, Pt.slots] at X13 l13 y13 z13 st13 hQ13
  subst l13 y13 z13
  obtain ⟨⟨t2, k2, rfl, zt2, V2, E2⟩, N4, K4⟩ := hQ13
  have c13 : Steps p.tables e below S0 (T13.setTop (mkF m 35 #[.val (.ref a), .val (.ref b), .val .null, .val (.ref t), .val (.int (Int32.ofNat cs.length))] [(.ref t2), (.ref a)])) := by
    refine c12.trans ?_
    show Steps p.tables e below (T11.setTop (mkF m 32 #[.val (.ref a), .val (.ref b), .val .null, .val (.ref t), .val (.int (Int32.ofNat cs.length))] [(.int (Int32.ofNat cs.length)), (.int (0 : Int32)), (.ref t), (.ref a)])) _
    refine st13 _ ?_
    exact Steps.refl _
  obtain ⟨T14, h14, X14, e14, W14, st14⟩ := putF X13 hx hZ hown (host := "") (Or.inl (hw _ (List.mem_of_getElem? (i := 24) rfl))) Via.refl rfl (Fv1.keep K4 (fun q => by cases q)) (Ea1.keep K4) (Or.inr ⟨(hw _ (List.mem_of_getElem? (i := 20) rfl)), rfl, hnm⟩) (hw _ (List.mem_of_getElem? (i := 6) rfl)) (ty := (.array .byte)) (by decide) rfl rfl (g := (mkF m 35 #[.val (.ref a), .val (.ref b), .val .null, .val (.ref t), .val (.int (Int32.ofNat cs.length))] [(.ref t2), (.ref a)])) rfl rfl (hb hby dSb_35)
  have c14 : Steps p.tables e below S0 (T14.setTop (mkF m 38 #[.val (.ref a), .val (.ref b), .val .null, .val (.ref t), .val (.int (Int32.ofNat cs.length))] [])) := by
    refine c13.trans ?_
    show Steps p.tables e below (T13.setTop (mkF m 35 #[.val (.ref a), .val (.ref b), .val .null, .val (.ref t), .val (.int (Int32.ofNat cs.length))] [(.ref t2), (.ref a)])) _
    refine st14 _ ?_
    exact Steps.refl _
  have nat2 : a ≠ t2 := (Ea1.keep K4).neArv V2 (hw _ (List.mem_of_getElem? (i := 6) rfl))
  have c15 : Steps p.tables e below S0 (T14.setTop (mkF m 97 #[.val (.ref a), .val (.ref b), .val .null, .val (.ref t), .val (.int (Int32.ofNat cs.length))] [])) := by
    refine c14.trans ?_
    show Steps p.tables e below (T14.setTop (mkF m 38 #[.val (.ref a), .val (.ref b), .val .null, .val (.ref t), .val (.int (Int32.ofNat cs.length))] [])) _
    refine XS.goto X14.here hx rfl (pc0 := 38) (pc' := 97) rfl (hb hby dSb_38) (by decide) (by decide) ?_
    exact Steps.refl _
  obtain ⟨fs, hr, hrun, hended, hW, hsame⟩ := X14.leave (v := none) (fun _ => rfl)
  refine ⟨_, _, c15.trans ?_, hrun, hended, _, _, rfl, ?_, ⟨_, rfl⟩, hW, hsame.mono (by decide) (by decide)⟩
  · show Steps p.tables e below (T14.setTop (mkF m 97 #[.val (.ref a), .val (.ref b), .val .null, .val (.ref t), .val (.int (Int32.ofNat cs.length))] [])) _
    exact X14.returnOut hx Bd.returns (hb hby dSb_97) hr
  · show QSb Z a b t cap cs G1 h0 n0 _ T14.heap _
    rw [e14]
    exact ⟨rfl, Fr.snoc X14 (Fr.app Na N4) ga, (((Keep.refl h0 [a]).wr W11 (Or.inl (List.mem_of_getElem? (i := 0) rfl))).trans K4 (fun x hx => by cases hx)).wr W14 (Or.inl (List.mem_of_getElem? (i := 0) rfl)), t2, ⟨(Ea1.keep K4).wr W14, (Fc1.keep K4 (fun q => by cases q)).other W14 (Or.inr (slot_ne (Or.inr (hw _ (List.mem_of_getElem? (i := 21) rfl))) (Or.inr (hw _ (List.mem_of_getElem? (i := 20) rfl))) (by decide) (t := .byte) (t' := (.array .byte)) (by decide) (by decide))), (Fv1.keep K4 (fun q => by cases q)).same W14, ⟨_, V2.other W14 (Ne.symm nat2)⟩, hch, by omega⟩, E2.wr W14⟩
def QSc (Z : State) (a : Addr) (b : Addr) (t : Addr) (cap : Nat) (cs : List Int32) (G1 : Int32) (h0 : Heap) (n0 : Nat) (v : Option Value) (h : Heap) (L : List Loc) : Prop := v = none ∧ Fr n0 L ∧ Keep h0 h [a] ∧ ∃ t2 : Addr, own_Str Z h a t2 cs ∧ Exa Z h t2 "[B"
theorem efSc (m : MethodId) (a : Addr) (b : Addr) : entryFrame m #[(.ref a), (.ref b)] 2 = mkF m 0 #[.val (.ref a), .val (.ref b)] [] := by first | (simp [entryFrame, mkF, argsToLocals, Value.category, List.replicate]; done) | rfl
set_option maxRecDepth 65536 in
set_option maxHeartbeats 40000000 in
theorem rmSc (l : Launch) (Z : State) (a0 : Array Value) (hw : ∀ d ∈ tables_1, d.before a0 Z = true) (ws : List Jvm.Cond) (a : Addr) (b : Addr) (t : Addr) (cap : Nat) (cs : List Int32) (G1 : Int32) (h0 : Heap) (n0 : Nat) (Z0 : n0 ≤ h0.size) (O2 : Sta Z Z.heap "java/lang/String" "COMPACT_STRINGS" "Z" (.int G1)) (P5 : ¬ G1 = 0) (X00 : Old Z n0 h0) (Ea : Exa Z h0 a "java/lang/String") (Fv : Fld Z h0 a "java/lang/String" "value" "[B" .null) (Fc : Fld Z h0 a "java/lang/String" "coder" "B" (.int 0)) (ga : n0 ≤ a) (B : own_SB Z h0 b t cap cs) (hn : cs.length ≤ 100) (hlt : cs.length < cap) :
    MetFree l (⟨"java/lang/String", "<init>", "(Ljava/lang/StringBuilder;)V"⟩ : MethodName) (head1 (Jvm.Cond.code (⟨"java/lang/String", "<init>", "(Ljava/lang/StringBuilder;)V"⟩ : MethodName) jdk_42_method_53_code 2 none :: ws) ({ frames := 4, cells := 1, slots := 100, locals := 88 } : Room)) (fun aa UU => aa = #[(.ref a), (.ref b)] ∧ Z.Warmed39 UU.vm ∧ UU.heap = h0) (fun _ _ _ _ _ => True) (fun _ UU oo UT => ∃ vv LL, oo = .returned vv ∧ QSc Z a b t cap cs G1 h0 n0 vv UT.heap LL ∧ FrameEnd UU oo UT LL ({ frames := 4, cells := 1, slots := 100, locals := 88 } : Room).cells ({ frames := 4, cells := 1, slots := 100, locals := 88 } : Room).slots) := by
  refine MetFree.of_bodySF (by decide +kernel) hisR ?_
  intro p e s m args below meth c s₁ Bd hml0 hP hK
  obtain ⟨rfl, hZ, hh⟩ := hP
  have hx := Bd.exec
  have hby := Bd.bytes
  have hml : c.maxLocals = 2 := hml0
  have hown : s.vm.findClass "java/lang/String" = some m.cls := findClass_of_methodNamed Bd.named
  have hnm := (name_of_methodNamed Bd.named Bd.method).1
  have X0 : Stand p l e ({ frames := 4, cells := 1, slots := 100, locals := 88 } : Room) s m #[(.ref a), (.ref b)] below meth c s₁ [] 0 0 := Stand.of_body Bd
  have e0 : s₁.heap = h0 := by rw [← hh, Bd.state]; rfl
  have N0 := Fr.nil n0
  have c0 : Steps p.tables e below (s₁.setTop (entryFrame m #[(.ref a), (.ref b)] 2)) (s₁.setTop (mkF m 0 #[.val (.ref a), .val (.ref b)] [])) := castTop (efSc m a b) (Steps.refl _)
  show ∃ s₂ oo, Steps p.tables e below (s₁.setTop (entryFrame m #[(.ref a), (.ref b)] 2)) s₂ ∧ _ ∧ _ ∧ _
  generalize s₁.setTop (entryFrame m #[(.ref a), (.ref b)] 2) = S0 at c0 ⊢
  have c1 : Steps p.tables e below S0 (s₁.setTop (mkF m 3 #[.val (.ref a), .val (.ref b)] [.null, (.ref b), (.ref a)])) := by
    refine c0.trans ?_
    show Steps p.tables e below (s₁.setTop (mkF m 0 #[.val (.ref a), .val (.ref b)] [])) _
    refine XS.aloadN X0.here hx rfl (hb hby dSc_0) rfl rfl ?_
    show Steps p.tables e below (s₁.setTop (mkF m 1 #[.val (.ref a), .val (.ref b)] [(.ref a)])) _
    refine XS.aloadN X0.here hx rfl (hb hby dSc_1) rfl rfl ?_
    show Steps p.tables e below (s₁.setTop (mkF m 2 #[.val (.ref a), .val (.ref b)] [(.ref b), (.ref a)])) _
    refine XS.aconstNull X0.here hx rfl (hb hby dSc_2) ?_
    exact Steps.refl _
  obtain ⟨_, _, ⟨T2, L2, k2, n2⟩, -, X2, ⟨Lc2, hQ2, l2, y2, z2⟩, st2⟩ := X0.specialBack hx (y := (⟨"java/lang/String", "<init>", "(Ljava/lang/AbstractStringBuilder;Ljava/lang/Void;)V"⟩ : MethodName)) rfl hown (mvT hZ (hw _ (List.mem_of_getElem? (i := 139) rfl))) (mvT hZ (hw _ (List.mem_of_getElem? (i := 140) rfl))) (mvT hZ (hw _ (List.mem_of_getElem? (i := 141) rfl))) (by decide) (backOf (W := 0) (rmSb l Z a0 hw [] a b t cap cs G1 h0 n0 Z0 O2 P5 X00 Ea Fv Fc ga B hn hlt) hZ (hw _ (List.mem_of_getElem? (i := 141) rfl)) (hw _ (List.mem_of_getElem? (i := 7) rfl)) (by decide) (by decide)) (g := (mkF m 3 #[.val (.ref a), .val (.ref b)] [.null, (.ref b), (.ref a)])) rfl (by rw [hml]; rfl) (Steps.refl _) (a := a) (argsL := [(.ref b), .null]) (rest := []) (lenOf pd12 rfl) rfl (by show 2 * 0 + _ ≤ _; exact Nat.le_of_eq rfl) (hb hby dSc_3) (fun _ _ => ⟨rfl, e0, (by decide : 0 + 1 ≤ _), (by decide : 0 + 100 ≤ _)⟩)
  dsimp only [Pt.U, Pt.locs, Pt.cells, Pt.slots] at X2 l2 y2 z2 st2 hQ2
  subst l2 y2 z2
  obtain ⟨rfl, N1, D1⟩ := hQ2
  have c2 : Steps p.tables e below S0 (T2.setTop (mkF m 6 #[.val (.ref a), .val (.ref b)] [])) := by
    refine c1.trans ?_
    show Steps p.tables e below (s₁.setTop (mkF m 3 #[.val (.ref a), .val (.ref b)] [.null, (.ref b), (.ref a)])) _
    refine st2.trans ?_
    exact Steps.refl _
  obtain ⟨fs, hr, hrun, hended, hW, hsame⟩ := X2.leave (v := none) (fun _ => rfl)
  refine ⟨_, _, c2.trans ?_, hrun, hended, _, _, rfl, ?_, ⟨_, rfl⟩, hW, hsame.mono (by decide) (by decide)⟩
  · show Steps p.tables e below (T2.setTop (mkF m 6 #[.val (.ref a), .val (.ref b)] [])) _
    exact X2.returnOut hx Bd.returns (hb hby dSc_6) hr
  · show QSc Z a b t cap cs G1 h0 n0 _ T2.heap _
    exact ⟨rfl, Fr.app N0 N1, D1⟩
def QTs (Z : State) (b : Addr) (t : Addr) (cap : Nat) (cs : List Int32) (G1 : Int32) (h0 : Heap) (n0 : Nat) (v : Option Value) (h : Heap) (L : List Loc) : Prop := (∃ a t2 : Addr, v = some (.ref a) ∧ h0.size ≤ a ∧ own_Str Z h a t2 cs ∧ Exa Z h t2 "[B") ∧ Fr n0 L ∧ Keep h0 h []
theorem efTs (m : MethodId) (b : Addr) : entryFrame m #[(.ref b)] 1 = mkF m 0 #[.val (.ref b)] [] := by first | (simp [entryFrame, mkF, argsToLocals, Value.category, List.replicate]; done) | rfl
set_option maxRecDepth 65536 in
set_option maxHeartbeats 40000000 in
theorem rmTs (l : Launch) (Z : State) (a0 : Array Value) (hw : ∀ d ∈ tables_1, d.before a0 Z = true) (ws : List Jvm.Cond) (b : Addr) (t : Addr) (cap : Nat) (cs : List Int32) (G1 : Int32) (h0 : Heap) (n0 : Nat) (Z0 : n0 ≤ h0.size) (O2 : Sta Z Z.heap "java/lang/String" "COMPACT_STRINGS" "Z" (.int G1)) (P5 : ¬ G1 = 0) (X00 : Old Z n0 h0) (B : own_SB Z h0 b t cap cs) (hn : cs.length ≤ 100) (hlt : cs.length < cap) :
    MetFree l (⟨"java/lang/StringBuilder", "toString", "()Ljava/lang/String;"⟩ : MethodName) (head1 (Jvm.Cond.code (⟨"java/lang/StringBuilder", "toString", "()Ljava/lang/String;"⟩ : MethodName) jdk_67_method_42_code 1 (some (.object "java/lang/String")) :: ws) ({ frames := 5, cells := 2, slots := 104, locals := 104 } : Room)) (fun aa UU => aa = #[(.ref b)] ∧ Z.Warmed39 UU.vm ∧ UU.heap = h0) (fun _ _ _ _ _ => True) (fun _ UU oo UT => ∃ vv LL, oo = .returned vv ∧ QTs Z b t cap cs G1 h0 n0 vv UT.heap LL ∧ FrameEnd UU oo UT LL ({ frames := 5, cells := 2, slots := 104, locals := 104 } : Room).cells ({ frames := 5, cells := 2, slots := 104, locals := 104 } : Room).slots) := by
  refine MetFree.of_bodySF (by decide +kernel) hisR ?_
  intro p e s m args below meth c s₁ Bd hml0 hP hK
  obtain ⟨rfl, hZ, hh⟩ := hP
  have hx := Bd.exec
  have hby := Bd.bytes
  have hml : c.maxLocals = 1 := hml0
  have hown : s.vm.findClass "java/lang/StringBuilder" = some m.cls := findClass_of_methodNamed Bd.named
  have hnm := (name_of_methodNamed Bd.named Bd.method).1
  have X0 : Stand p l e ({ frames := 5, cells := 2, slots := 104, locals := 104 } : Room) s m #[(.ref b)] below meth c s₁ [] 0 0 := Stand.of_body Bd
  have e0 : s₁.heap = h0 := by rw [← hh, Bd.state]; rfl
  have N0 := Fr.nil n0
  have c0 : Steps p.tables e below (s₁.setTop (entryFrame m #[(.ref b)] 1)) (s₁.setTop (mkF m 0 #[.val (.ref b)] [])) := castTop (efTs m b) (Steps.refl _)
  show ∃ s₂ oo, Steps p.tables e below (s₁.setTop (entryFrame m #[(.ref b)] 1)) s₂ ∧ _ ∧ _ ∧ _
  generalize s₁.setTop (entryFrame m #[(.ref b)] 1) = S0 at c0 ⊢
  obtain ⟨T1, h1, X1, e1, E1, A1, D1, -, st1⟩ := newO X0 hx hZ hown (hw _ (List.mem_of_getElem? (i := 135) rfl)) (hw _ (List.mem_of_getElem? (i := 6) rfl)) (hw _ (List.mem_of_getElem? (i := 7) rfl)) e0 (g := (mkF m 0 #[.val (.ref b)] [])) rfl (hb hby dTs_0) (by decide) (by decide)
  obtain ⟨b1, g1⟩ : ∃ z, z = h0.size := ⟨_, rfl⟩
  rw [← g1] at A1 D1 st1
  have c1 : Steps p.tables e below S0 (T1.setTop (mkF m 3 #[.val (.ref b)] [(.ref b1)])) := by
    refine c0.trans ?_
    show Steps p.tables e below (s₁.setTop (mkF m 0 #[.val (.ref b)] [])) _
    refine st1 _ ?_
    exact Steps.refl _
  have Fv : Fld Z h1 b1 "java/lang/String" "value" "[B" .null := D1 (Or.inr (hw _ (List.mem_of_getElem? (i := 20) rfl))) (ty := (.array .byte)) (by decide)
  have Fc : Fld Z h1 b1 "java/lang/String" "coder" "B" (.int 0) := D1 (Or.inr (hw _ (List.mem_of_getElem? (i := 21) rfl))) (ty := .byte) (by decide)
  have gs : n0 ≤ b1 := Nat.le_trans Z0 (Nat.le_of_eq g1.symm)
  have zs : h0.size ≤ b1 := Nat.le_of_eq g1.symm
  have c2 : Steps p.tables e below S0 (T1.setTop (mkF m 5 #[.val (.ref b)] [(.ref b), (.ref b1), (.ref b1)])) := by
    refine c1.trans ?_
    show Steps p.tables e below (T1.setTop (mkF m 3 #[.val (.ref b)] [(.ref b1)])) _
    refine XS.dup X1.here hx rfl (hb hby dTs_3) rfl rfl ?_
    show Steps p.tables e below (T1.setTop (mkF m 4 #[.val (.ref b)] [(.ref b1), (.ref b1)])) _
    refine XS.aloadN X1.here hx rfl (hb hby dTs_4) rfl rfl ?_
    exact Steps.refl _
  obtain ⟨_, _, ⟨T3, L3, k3, n3⟩, -, X3, ⟨Lc3, hQ3, l3, y3, z3⟩, st3⟩ := X1.specialBack hx (y := (⟨"java/lang/String", "<init>", "(Ljava/lang/StringBuilder;)V"⟩ : MethodName)) rfl hown (mvT hZ (hw _ (List.mem_of_getElem? (i := 136) rfl))) (mvT hZ (hw _ (List.mem_of_getElem? (i := 137) rfl))) (mvT hZ (hw _ (List.mem_of_getElem? (i := 138) rfl))) (by decide) (backOf (W := 1) (rmSc l Z a0 hw [] b1 b t cap cs G1 h1 n0 (Nat.le_trans Z0 E1.1) O2 P5 (X00.ext E1) A1 Fv Fc gs (B.ext E1) hn hlt) hZ (hw _ (List.mem_of_getElem? (i := 138) rfl)) (hw _ (List.mem_of_getElem? (i := 7) rfl)) (by decide) (by decide)) (g := (mkF m 5 #[.val (.ref b)] [(.ref b), (.ref b1), (.ref b1)])) rfl (by rw [hml]; rfl) (Steps.refl _) (a := b1) (argsL := [(.ref b)]) (rest := [(.ref b1)]) (lenOf pd13 rfl) rfl (by show 2 * 0 + _ ≤ _; exact Nat.le_of_eq rfl) (hb hby dTs_5) (fun _ _ => ⟨rfl, e1, (by decide : 1 + 1 ≤ _), (by decide : 4 + 100 ≤ _)⟩)
  dsimp only [Pt.U, Pt.locs, Pt.cells, Pt.slots] at X3 l3 y3 z3 st3 hQ3
  subst l3 y3 z3
  obtain ⟨rfl, N1, K1, t2, S2, E2⟩ := hQ3
  have c3 : Steps p.tables e below S0 (T3.setTop (mkF m 8 #[.val (.ref b)] [(.ref b1)])) := by
    refine c2.trans ?_
    show Steps p.tables e below (T1.setTop (mkF m 5 #[.val (.ref b)] [(.ref b), (.ref b1), (.ref b1)])) _
    refine st3.trans ?_
    exact Steps.refl _
  obtain ⟨fs, hr, hrun, hended, hW, hsame⟩ := X3.leave (v := some (.ref b1)) (fun h => by rw [Bd.returns] at h; cases h)
  refine ⟨_, _, c3.trans ?_, hrun, hended, _, _, rfl, ?_, ⟨_, rfl⟩, hW, hsame.mono (by decide) (by decide)⟩
  · show Steps p.tables e below (T3.setTop (mkF m 8 #[.val (.ref b)] [(.ref b1)])) _
    exact retA X3 hx Bd.returns rfl rfl (hb hby dTs_8) hr
  · show QTs Z b t cap cs G1 h0 n0 _ T3.heap _
    exact ⟨⟨_, t2, rfl, zs, S2, E2⟩, Fr.app N0 N1, ((Keep.refl h0 []).ext E1).trans K1 (fun x hx => by cases List.mem_singleton.mp hx; exact Or.inr zs)⟩
def QBr (Z : State) (a : Addr) (ta : Addr) (ds : List Int32) (b : Addr) (t : Addr) (cap : Nat) (cs : List Int32) (G1 : Int32) (h0 : Heap) (n0 : Nat) (v : Option Value) (h : Heap) (L : List Loc) : Prop := v = some (.ref b) ∧ Fr n0 L ∧ own_SB Z h b t cap (cs ++ ds) ∧ Keep h0 h [b, t]
theorem efBr (m : MethodId) (b : Addr) (a : Addr) : entryFrame m #[(.ref b), (.ref a)] 2 = mkF m 0 #[.val (.ref b), .val (.ref a)] [] := by first | (simp [entryFrame, mkF, argsToLocals, Value.category, List.replicate]; done) | rfl
set_option maxRecDepth 65536 in
set_option maxHeartbeats 40000000 in
theorem rmBr (l : Launch) (Z : State) (a0 : Array Value) (hw : ∀ d ∈ tables_1, d.before a0 Z = true) (ws : List Jvm.Cond) (a : Addr) (ta : Addr) (ds : List Int32) (b : Addr) (t : Addr) (cap : Nat) (cs : List Int32) (G1 : Int32) (h0 : Heap) (n0 : Nat) (Z0 : n0 ≤ h0.size) (O2 : Sta Z Z.heap "java/lang/String" "COMPACT_STRINGS" "Z" (.int G1)) (P5 : ¬ G1 = 0) (X00 : Old Z n0 h0) (S : own_Str Z h0 a ta ds) (hl : ds.length ≤ 500) (B : own_SB Z h0 b t cap cs) (hc : cs.length + ds.length ≤ cap) (hcap4 : cap ≤ 100) (gb : n0 ≤ b) (gt : n0 ≤ t) :
    MetFree l (⟨"java/lang/StringBuilder", "append", "(Ljava/lang/String;)Ljava/lang/AbstractStringBuilder;"⟩ : MethodName) (head1 (Jvm.Cond.code (⟨"java/lang/StringBuilder", "append", "(Ljava/lang/String;)Ljava/lang/AbstractStringBuilder;"⟩ : MethodName) jdk_67_method_80_code 2 (some (.object "java/lang/AbstractStringBuilder")) :: ws) ({ frames := 7, cells := 0, slots := 0, locals := 110 } : Room)) (fun aa UU => aa = #[(.ref b), (.ref a)] ∧ Z.Warmed39 UU.vm ∧ UU.heap = h0) (fun _ _ _ _ _ => True) (fun _ UU oo UT => ∃ vv LL, oo = .returned vv ∧ QBr Z a ta ds b t cap cs G1 h0 n0 vv UT.heap LL ∧ FrameEnd UU oo UT LL ({ frames := 7, cells := 0, slots := 0, locals := 110 } : Room).cells ({ frames := 7, cells := 0, slots := 0, locals := 110 } : Room).slots) := by
  refine MetFree.of_bodySF (by decide +kernel) hisR ?_
  intro p e s m args below meth c s₁ Bd hml0 hP hK
  obtain ⟨rfl, hZ, hh⟩ := hP
  have hx := Bd.exec
  have hby := Bd.bytes
  have hml : c.maxLocals = 2 := hml0
  have hown : s.vm.findClass "java/lang/StringBuilder" = some m.cls := findClass_of_methodNamed Bd.named
  have hnm := (name_of_methodNamed Bd.named Bd.method).1
  have X0 : Stand p l e ({ frames := 7, cells := 0, slots := 0, locals := 110 } : Room) s m #[(.ref b), (.ref a)] below meth c s₁ [] 0 0 := Stand.of_body Bd
  have e0 : s₁.heap = h0 := by rw [← hh, Bd.state]; rfl
  have N0 := Fr.nil n0
  have c0 : Steps p.tables e below (s₁.setTop (entryFrame m #[(.ref b), (.ref a)] 2)) (s₁.setTop (mkF m 0 #[.val (.ref b), .val (.ref a)] [])) := castTop (efBr m b a) (Steps.refl _)
  show ∃ s₂ oo, Steps p.tables e below (s₁.setTop (entryFrame m #[(.ref b), (.ref a)] 2)) s₂ ∧ _ ∧ _ ∧ _
  generalize s₁.setTop (entryFrame m #[(.ref b), (.ref a)] 2) = S0 at c0 ⊢
  have c1 : Steps p.tables e below S0 (s₁.setTop (mkF m 2 #[.val (.ref b), .val (.ref a)] [(.ref a), (.ref b)])) := by
    refine c0.trans ?_
    show Steps p.tables e below (s₁.setTop (mkF m 0 #[.val (.ref b), .val (.ref a)] [])) _
    refine XS.aloadN X0.here hx rfl (hb hby dBr_0) rfl rfl ?_
    show Steps p.tables e below (s₁.setTop (mkF m 1 #[.val (.ref b), .val (.ref a)] [(.ref b)])) _
    refine XS.aloadN X0.here hx rfl (hb hby dBr_1) rfl rfl ?_
    exact Steps.refl _
  obtain ⟨cq2, kq2, q2a, q2b, q2c⟩ := isOf hZ e0 B.1
  obtain ⟨_, _, ⟨T2, L2, k2, n2⟩, -, X2, ⟨Lc2, hQ2, l2, y2, z2⟩, st2⟩ := X0.virtualBack hx (y := (⟨"java/lang/StringBuilder", "append", "(Ljava/lang/String;)Ljava/lang/StringBuilder;"⟩ : MethodName)) (z := (⟨"java/lang/StringBuilder", "append", "(Ljava/lang/String;)Ljava/lang/StringBuilder;"⟩ : MethodName)) hown (mvT hZ (hw _ (List.mem_of_getElem? (i := 80) rfl))) (mvT hZ (hw _ (List.mem_of_getElem? (i := 81) rfl))) (notFace_of_selects (args := #[]) (mvT hZ (hw _ (List.mem_of_getElem? (i := 83) rfl)))) (mvT hZ (hw _ (List.mem_of_getElem? (i := 83) rfl))) (mvT hZ (hw _ (List.mem_of_getElem? (i := 82) rfl))) (by decide) (backOf (W := 0) (rmSa l Z a0 hw [] a ta ds b t cap cs G1 h0 n0 Z0 O2 P5 X00 S hl B hc hcap4 gb gt) hZ (hw _ (List.mem_of_getElem? (i := 84) rfl)) (hw _ (List.mem_of_getElem? (i := 46) rfl)) (by decide) (by decide)) q2a q2c (g := (mkF m 2 #[.val (.ref b), .val (.ref a)] [(.ref a), (.ref b)])) rfl (by rw [hml]; rfl) (Steps.refl _) (argsL := [(.ref a)]) (rest := []) (lenOf pd14 rfl) rfl (by show 2 * 0 + _ ≤ _; exact Nat.le_of_eq rfl) (hb hby dBr_2) (fun _ _ => ⟨rfl, e0, (by decide : 0 + 0 ≤ _), (by decide : 0 + 0 ≤ _)⟩)
  dsimp only [Pt.U, Pt.locs, Pt.cells, Pt.slots] at X2 l2 y2 z2 st2 hQ2
  subst l2 y2 z2
  obtain ⟨rfl, N1, D1⟩ := hQ2
  have c2 : Steps p.tables e below S0 (T2.setTop (mkF m 5 #[.val (.ref b), .val (.ref a)] [(.ref b)])) := by
    refine c1.trans ?_
    show Steps p.tables e below (s₁.setTop (mkF m 2 #[.val (.ref b), .val (.ref a)] [(.ref a), (.ref b)])) _
    refine st2.trans ?_
    exact Steps.refl _
  obtain ⟨fs, hr, hrun, hended, hW, hsame⟩ := X2.leave (v := some (.ref b)) (fun h => by rw [Bd.returns] at h; cases h)
  refine ⟨_, _, c2.trans ?_, hrun, hended, _, _, rfl, ?_, ⟨_, rfl⟩, hW, hsame.mono (by decide) (by decide)⟩
  · show Steps p.tables e below (T2.setTop (mkF m 5 #[.val (.ref b), .val (.ref a)] [(.ref b)])) _
    exact retA X2 hx Bd.returns rfl rfl (hb hby dBr_5) hr
  · show QBr Z a ta ds b t cap cs G1 h0 n0 _ T2.heap _
    exact ⟨rfl, Fr.app N0 N1, D1⟩
def QAj (Z : State) (b : Addr) (a : Addr) (ta : Addr) (ds : List Int32) (G1 : Int32) (h0 : Heap) (n0 : Nat) (v : Option Value) (h : Heap) (L : List Loc) : Prop := v = none ∧ Fr n0 L ∧ Keep h0 h [b] ∧ ∃ t : Addr, h0.size ≤ t ∧ own_SB Z h b t (ds.length + 16) ds
theorem efAj (m : MethodId) (b : Addr) (a : Addr) : entryFrame m #[(.ref b), (.ref a)] 5 = mkF m 0 #[.val (.ref b), .val (.ref a), .unset, .unset, .unset] [] := by first | (simp [entryFrame, mkF, argsToLocals, Value.category, List.replicate]; done) | rfl
set_option maxRecDepth 65536 in
set_option maxHeartbeats 40000000 in
theorem rmAj (l : Launch) (Z : State) (a0 : Array Value) (hw : ∀ d ∈ tables_1, d.before a0 Z = true) (ws : List Jvm.Cond) (b : Addr) (a : Addr) (ta : Addr) (ds : List Int32) (G1 : Int32) (h0 : Heap) (n0 : Nat) (Z0 : n0 ≤ h0.size) (O2 : Sta Z Z.heap "java/lang/String" "COMPACT_STRINGS" "Z" (.int G1)) (P5 : ¬ G1 = 0) (X00 : Old Z n0 h0) (Eb : Exa Z h0 b "java/lang/StringBuilder") (Fva : Fld Z h0 b "java/lang/AbstractStringBuilder" "value" "[B" .null) (Fco : Fld Z h0 b "java/lang/AbstractStringBuilder" "coder" "B" (.int 0)) (Fcn : Fld Z h0 b "java/lang/AbstractStringBuilder" "count" "I" (.int 0)) (gb : n0 ≤ b) (S : own_Str Z h0 a ta ds) (hl : ds.length ≤ 50) :
    MetFree l (⟨"java/lang/AbstractStringBuilder", "<init>", "(Ljava/lang/String;)V"⟩ : MethodName) (head1 (Jvm.Cond.code (⟨"java/lang/AbstractStringBuilder", "<init>", "(Ljava/lang/String;)V"⟩ : MethodName) jdk_68_method_3_code 5 none :: ws) ({ frames := 8, cells := 1, slots := 66, locals := 126 } : Room)) (fun aa UU => aa = #[(.ref b), (.ref a)] ∧ Z.Warmed39 UU.vm ∧ UU.heap = h0) (fun _ _ _ _ _ => True) (fun _ UU oo UT => ∃ vv LL, oo = .returned vv ∧ QAj Z b a ta ds G1 h0 n0 vv UT.heap LL ∧ FrameEnd UU oo UT LL ({ frames := 8, cells := 1, slots := 66, locals := 126 } : Room).cells ({ frames := 8, cells := 1, slots := 66, locals := 126 } : Room).slots) := by
  refine MetFree.of_bodySF (by decide +kernel) hisR ?_
  intro p e s m args below meth c s₁ Bd hml0 hP hK
  obtain ⟨rfl, hZ, hh⟩ := hP
  have hx := Bd.exec
  have hby := Bd.bytes
  have hml : c.maxLocals = 5 := hml0
  have hown : s.vm.findClass "java/lang/AbstractStringBuilder" = some m.cls := findClass_of_methodNamed Bd.named
  have hnm := (name_of_methodNamed Bd.named Bd.method).1
  have X0 : Stand p l e ({ frames := 8, cells := 1, slots := 66, locals := 126 } : Room) s m #[(.ref b), (.ref a)] below meth c s₁ [] 0 0 := Stand.of_body Bd
  have e0 : s₁.heap = h0 := by rw [← hh, Bd.state]; rfl
  have N0 := Fr.nil n0
  have c0 : Steps p.tables e below (s₁.setTop (entryFrame m #[(.ref b), (.ref a)] 5)) (s₁.setTop (mkF m 0 #[.val (.ref b), .val (.ref a), .unset, .unset, .unset] [])) := castTop (efAj m b a) (Steps.refl _)
  show ∃ s₂ oo, Steps p.tables e below (s₁.setTop (entryFrame m #[(.ref b), (.ref a)] 5)) s₂ ∧ _ ∧ _ ∧ _
  generalize s₁.setTop (entryFrame m #[(.ref b), (.ref a)] 5) = S0 at c0 ⊢
  have c1 : Steps p.tables e below S0 (s₁.setTop (mkF m 1 #[.val (.ref b), .val (.ref a), .unset, .unset, .unset] [(.ref b)])) := by
    refine c0.trans ?_
    show Steps p.tables e below (s₁.setTop (mkF m 0 #[.val (.ref b), .val (.ref a), .unset, .unset, .unset] [])) _
    refine XS.aloadN X0.here hx rfl (hb hby dAj_0) rfl rfl ?_
    exact Steps.refl _
  obtain ⟨T2, X2, e2, st2⟩ := initO X0 hx hZ hown (hw _ (List.mem_of_getElem? (i := 57) rfl)) (hw _ (List.mem_of_getElem? (i := 16) rfl)) (hw _ (List.mem_of_getElem? (i := 17) rfl)) e0 (g := (mkF m 1 #[.val (.ref b), .val (.ref a), .unset, .unset, .unset] [(.ref b)])) rfl (by rw [hml]; rfl) rfl (hb hby dAj_1) (by decide) (W := 0) (by show 2 * 0 + _ ≤ _; exact Nat.le_of_eq rfl) (by decide)
  have c2 : Steps p.tables e below S0 (T2.setTop (mkF m 4 #[.val (.ref b), .val (.ref a), .unset, .unset, .unset] [])) := by
    refine c1.trans ?_
    show Steps p.tables e below (s₁.setTop (mkF m 1 #[.val (.ref b), .val (.ref a), .unset, .unset, .unset] [(.ref b)])) _
    refine st2 _ ?_
    exact Steps.refl _
  have c3 : Steps p.tables e below S0 (T2.setTop (mkF m 5 #[.val (.ref b), .val (.ref a), .unset, .unset, .unset] [(.ref a)])) := by
    refine c2.trans ?_
    show Steps p.tables e below (T2.setTop (mkF m 4 #[.val (.ref b), .val (.ref a), .unset, .unset, .unset] [])) _
    refine XS.aloadN X2.here hx rfl (hb hby dAj_4) rfl rfl ?_
    exact Steps.refl _
  obtain ⟨cq4, kq4, q4a, q4b, q4c⟩ := isOf hZ e2 S.1
  obtain ⟨_, _, ⟨T4, L4, k4, n4⟩, -, X4, ⟨Lc4, hQ4, l4, y4, z4⟩, st4⟩ := X2.virtualBack hx (y := (⟨"java/lang/String", "length", "()I"⟩ : MethodName)) (z := (⟨"java/lang/String", "length", "()I"⟩ : MethodName)) hown (mvT hZ (hw _ (List.mem_of_getElem? (i := 58) rfl))) (mvT hZ (hw _ (List.mem_of_getElem? (i := 59) rfl))) (notFace_of_selects (args := #[]) (mvT hZ (hw _ (List.mem_of_getElem? (i := 61) rfl)))) (mvT hZ (hw _ (List.mem_of_getElem? (i := 61) rfl))) (mvT hZ (hw _ (List.mem_of_getElem? (i := 60) rfl))) (by decide) (backOf (W := 0) (rmLe l Z a0 hw [] a ta ds G1 h0 n0 Z0 O2 P5 X00 S (by omega)) hZ (hw _ (List.mem_of_getElem? (i := 62) rfl)) (hw _ (List.mem_of_getElem? (i := 7) rfl)) (by decide) (by decide)) q4a q4c (g := (mkF m 5 #[.val (.ref b), .val (.ref a), .unset, .unset, .unset] [(.ref a)])) rfl (by rw [hml]; rfl) (Steps.refl _) (argsL := []) (rest := []) (lenOf pd3 rfl) rfl (by show 2 * 0 + _ ≤ _; exact Nat.le_of_eq rfl) (hb hby dAj_5) (fun _ _ => ⟨rfl, e2, (by decide : 0 + 0 ≤ _), (by decide : 0 + 0 ≤ _)⟩)
  dsimp only [Pt.U, Pt.locs, Pt.cells, Pt.slots] at X4 l4 y4 z4 st4 hQ4
  subst l4 y4 z4
  obtain ⟨rfl, N1, e1⟩ := hQ4
  have c4 : Steps p.tables e below S0 (T4.setTop (mkF m 8 #[.val (.ref b), .val (.ref a), .unset, .unset, .unset] [(.int (Int32.ofNat ds.length))])) := by
    refine c3.trans ?_
    show Steps p.tables e below (T2.setTop (mkF m 5 #[.val (.ref b), .val (.ref a), .unset, .unset, .unset] [(.ref a)])) _
    refine st4.trans ?_
    exact Steps.refl _
  have c5 : Steps p.tables e below S0 (T4.setTop (mkF m 19 #[.val (.ref b), .val (.ref a), .val (.int (Int32.ofNat ds.length)), .unset, .unset] [(.int ((Int32.ofNat ds.length) + (16 : Int32)))])) := by
    refine c4.trans ?_
    show Steps p.tables e below (T4.setTop (mkF m 8 #[.val (.ref b), .val (.ref a), .unset, .unset, .unset] [(.int (Int32.ofNat ds.length))])) _
    refine XS.istoreN X4.here hx rfl (hb hby dAj_8) rfl (l' := #[.val (.ref b), .val (.ref a), .val (.int (Int32.ofNat ds.length)), .unset, .unset]) rfl ?_
    show Steps p.tables e below (T4.setTop (mkF m 9 #[.val (.ref b), .val (.ref a), .val (.int (Int32.ofNat ds.length)), .unset, .unset] [])) _
    refine XS.iloadN X4.here hx rfl (hb hby dAj_9) rfl ?_
    show Steps p.tables e below (T4.setTop (mkF m 10 #[.val (.ref b), .val (.ref a), .val (.int (Int32.ofNat ds.length)), .unset, .unset] [(.int (Int32.ofNat ds.length))])) _
    refine X4.ldcInt hx hown (mvT hZ (hw _ (List.mem_of_getElem? (i := 68) rfl))) (g := (mkF m 10 #[.val (.ref b), .val (.ref a), .val (.int (Int32.ofNat ds.length)), .unset, .unset] [(.int (Int32.ofNat ds.length))])) rfl (hb hby dAj_10) _ ?_
    show Steps p.tables e below (T4.setTop (mkF m 12 #[.val (.ref b), .val (.ref a), .val (.int (Int32.ofNat ds.length)), .unset, .unset] [(.int (2147483631 : Int32)), (.int (Int32.ofNat ds.length))])) _
    refine XS.icmpNo X4.here hx rfl (hb hby dAj_12) rfl (tlt (own_lim (by omega))).2.1 ?_
    show Steps p.tables e below (T4.setTop (mkF m 15 #[.val (.ref b), .val (.ref a), .val (.int (Int32.ofNat ds.length)), .unset, .unset] [])) _
    refine XS.iloadN X4.here hx rfl (hb hby dAj_15) rfl ?_
    show Steps p.tables e below (T4.setTop (mkF m 16 #[.val (.ref b), .val (.ref a), .val (.int (Int32.ofNat ds.length)), .unset, .unset] [(.int (Int32.ofNat ds.length))])) _
    refine XS.bipush X4.here hx rfl (hb hby dAj_16) ?_
    show Steps p.tables e below (T4.setTop (mkF m 18 #[.val (.ref b), .val (.ref a), .val (.int (Int32.ofNat ds.length)), .unset, .unset] [(.int (16 : Int32)), (.int (Int32.ofNat ds.length))])) _
    refine XS.iadd X4.here hx rfl (hb hby dAj_18) rfl ?_
    exact Steps.refl _
  rw [show (Int32.ofNat ds.length) + (16 : Int32) = Int32.ofNat (ds.length + 16) from own_addn (b := 16) (by omega)] at c5
  have c6 : Steps p.tables e below S0 (T4.setTop (mkF m 25 #[.val (.ref b), .val (.ref a), .val (.int (Int32.ofNat ds.length)), .val (.int (Int32.ofNat (ds.length + 16))), .unset] [])) := by
    refine c5.trans ?_
    show Steps p.tables e below (T4.setTop (mkF m 19 #[.val (.ref b), .val (.ref a), .val (.int (Int32.ofNat ds.length)), .unset, .unset] [(.int (Int32.ofNat (ds.length + 16)))])) _
    refine XS.goto X4.here hx rfl (pc0 := 19) (pc' := 24) rfl (hb hby dAj_19) (by decide) (by decide) ?_
    show Steps p.tables e below (T4.setTop (mkF m 24 #[.val (.ref b), .val (.ref a), .val (.int (Int32.ofNat ds.length)), .unset, .unset] [(.int (Int32.ofNat (ds.length + 16)))])) _
    refine XS.istoreN X4.here hx rfl (hb hby dAj_24) rfl (l' := #[.val (.ref b), .val (.ref a), .val (.int (Int32.ofNat ds.length)), .val (.int (Int32.ofNat (ds.length + 16))), .unset]) rfl ?_
    exact Steps.refl _
  have c7 : Steps p.tables e below S0 (T4.setTop (mkF m 26 #[.val (.ref b), .val (.ref a), .val (.int (Int32.ofNat ds.length)), .val (.int (Int32.ofNat (ds.length + 16))), .unset] [(.ref a)])) := by
    refine c6.trans ?_
    show Steps p.tables e below (T4.setTop (mkF m 25 #[.val (.ref b), .val (.ref a), .val (.int (Int32.ofNat ds.length)), .val (.int (Int32.ofNat (ds.length + 16))), .unset] [])) _
    refine XS.aloadN X4.here hx rfl (hb hby dAj_25) rfl rfl ?_
    exact Steps.refl _
  obtain ⟨cq8, kq8, q8a, q8b, q8c⟩ := isOf hZ e1 S.1
  obtain ⟨_, _, ⟨T8, L8, k8, n8⟩, -, X8, ⟨Lc8, hQ8, l8, y8, z8⟩, st8⟩ := X4.virtualBack hx (y := (⟨"java/lang/String", "coder", "()B"⟩ : MethodName)) (z := (⟨"java/lang/String", "coder", "()B"⟩ : MethodName)) hown (mvT hZ (hw _ (List.mem_of_getElem? (i := 69) rfl))) (mvT hZ (hw _ (List.mem_of_getElem? (i := 64) rfl))) (notFace_of_selects (args := #[]) (mvT hZ (hw _ (List.mem_of_getElem? (i := 66) rfl)))) (mvT hZ (hw _ (List.mem_of_getElem? (i := 66) rfl))) (mvT hZ (hw _ (List.mem_of_getElem? (i := 65) rfl))) (by decide) (backOf (W := 0) (rmCo l Z a0 hw [] a G1 h0 n0 Z0 O2 P5 X00 S.2.1) hZ (hw _ (List.mem_of_getElem? (i := 67) rfl)) (hw _ (List.mem_of_getElem? (i := 7) rfl)) (by decide) (by decide)) q8a q8c (g := (mkF m 26 #[.val (.ref b), .val (.ref a), .val (.int (Int32.ofNat ds.length)), .val (.int (Int32.ofNat (ds.length + 16))), .unset] [(.ref a)])) rfl (by rw [hml]; rfl) (Steps.refl _) (argsL := []) (rest := []) (lenOf pd0 rfl) rfl (by show 2 * 0 + _ ≤ _; exact Nat.le_of_eq rfl) (hb hby dAj_26) (fun _ _ => ⟨rfl, e1, (by decide : 0 + 0 ≤ _), (by decide : 0 + 0 ≤ _)⟩)
  dsimp only [Pt.U, Pt.locs, Pt.cells, Pt.slots] at X8 l8 y8 z8 st8 hQ8
  subst l8 y8 z8
  obtain ⟨rfl, N2, e2⟩ := hQ8
  have c8 : Steps p.tables e below S0 (T8.setTop (mkF m 29 #[.val (.ref b), .val (.ref a), .val (.int (Int32.ofNat ds.length)), .val (.int (Int32.ofNat (ds.length + 16))), .unset] [(.int (0 : Int32))])) := by
    refine c7.trans ?_
    show Steps p.tables e below (T4.setTop (mkF m 26 #[.val (.ref b), .val (.ref a), .val (.int (Int32.ofNat ds.length)), .val (.int (Int32.ofNat (ds.length + 16))), .unset] [(.ref a)])) _
    refine st8.trans ?_
    exact Steps.refl _
  have c9 : Steps p.tables e below S0 (T8.setTop (mkF m 34 #[.val (.ref b), .val (.ref a), .val (.int (Int32.ofNat ds.length)), .val (.int (Int32.ofNat (ds.length + 16))), .val (.int (0 : Int32))] [(.int (0 : Int32)), (.ref b)])) := by
    refine c8.trans ?_
    show Steps p.tables e below (T8.setTop (mkF m 29 #[.val (.ref b), .val (.ref a), .val (.int (Int32.ofNat ds.length)), .val (.int (Int32.ofNat (ds.length + 16))), .unset] [(.int (0 : Int32))])) _
    refine XS.istore X8.here hx rfl (hb hby dAj_29) rfl (l' := #[.val (.ref b), .val (.ref a), .val (.int (Int32.ofNat ds.length)), .val (.int (Int32.ofNat (ds.length + 16))), .val (.int (0 : Int32))]) rfl ?_
    show Steps p.tables e below (T8.setTop (mkF m 31 #[.val (.ref b), .val (.ref a), .val (.int (Int32.ofNat ds.length)), .val (.int (Int32.ofNat (ds.length + 16))), .val (.int (0 : Int32))] [])) _
    refine XS.aloadN X8.here hx rfl (hb hby dAj_31) rfl rfl ?_
    show Steps p.tables e below (T8.setTop (mkF m 32 #[.val (.ref b), .val (.ref a), .val (.int (Int32.ofNat ds.length)), .val (.int (Int32.ofNat (ds.length + 16))), .val (.int (0 : Int32))] [(.ref b)])) _
    refine XS.iload X8.here hx rfl (hb hby dAj_32) rfl ?_
    exact Steps.refl _
  obtain ⟨T10, h10, X10, e10, W10, st10⟩ := putFN X8 hx hZ hown (hw _ (List.mem_of_getElem? (i := 70) rfl)) Via.refl e2 Fco Eb (Or.inl (hw _ (List.mem_of_getElem? (i := 71) rfl))) (hw _ (List.mem_of_getElem? (i := 45) rfl)) (ty := .byte) (v' := (.int (0 : Int32))) (by decide) rfl rfl (g := (mkF m 34 #[.val (.ref b), .val (.ref a), .val (.int (Int32.ofNat ds.length)), .val (.int (Int32.ofNat (ds.length + 16))), .val (.int (0 : Int32))] [(.int (0 : Int32)), (.ref b)])) rfl rfl (hb hby dAj_34)
  have c10 : Steps p.tables e below S0 (T10.setTop (mkF m 37 #[.val (.ref b), .val (.ref a), .val (.int (Int32.ofNat ds.length)), .val (.int (Int32.ofNat (ds.length + 16))), .val (.int (0 : Int32))] [])) := by
    refine c9.trans ?_
    show Steps p.tables e below (T8.setTop (mkF m 34 #[.val (.ref b), .val (.ref a), .val (.int (Int32.ofNat ds.length)), .val (.int (Int32.ofNat (ds.length + 16))), .val (.int (0 : Int32))] [(.int (0 : Int32)), (.ref b)])) _
    refine st10 _ ?_
    exact Steps.refl _
  have Na := Fr.snoc X10 (Fr.app (Fr.app N0 N1) N2) gb
  have Eb1 := Eb.wr W10
  have Fc1 := Fco.same W10
  have Fv1 := Fva.other W10 (Or.inr (slot_ne (Or.inl (hw _ (List.mem_of_getElem? (i := 73) rfl))) (Or.inl (hw _ (List.mem_of_getElem? (i := 71) rfl))) (by decide) (t := (.array .byte)) (t' := .byte) (by decide) (by decide)))
  have Fn1 := Fcn.other W10 (Or.inr (slot_ne (Or.inl (hw _ (List.mem_of_getElem? (i := 89) rfl))) (Or.inl (hw _ (List.mem_of_getElem? (i := 71) rfl))) (by decide) (t := .int) (t' := .byte) (by decide) (by decide)))
  have c11 : Steps p.tables e below S0 (T10.setTop (mkF m 43 #[.val (.ref b), .val (.ref a), .val (.int (Int32.ofNat ds.length)), .val (.int (Int32.ofNat (ds.length + 16))), .val (.int (0 : Int32))] [(.ref b)])) := by
    refine c10.trans ?_
    show Steps p.tables e below (T10.setTop (mkF m 37 #[.val (.ref b), .val (.ref a), .val (.int (Int32.ofNat ds.length)), .val (.int (Int32.ofNat (ds.length + 16))), .val (.int (0 : Int32))] [])) _
    refine XS.aloadN X10.here hx rfl (hb hby dAj_37) rfl rfl ?_
    show Steps p.tables e below (T10.setTop (mkF m 38 #[.val (.ref b), .val (.ref a), .val (.int (Int32.ofNat ds.length)), .val (.int (Int32.ofNat (ds.length + 16))), .val (.int (0 : Int32))] [(.ref b)])) _
    refine XS.iload X10.here hx rfl (hb hby dAj_38) rfl ?_
    show Steps p.tables e below (T10.setTop (mkF m 40 #[.val (.ref b), .val (.ref a), .val (.int (Int32.ofNat ds.length)), .val (.int (Int32.ofNat (ds.length + 16))), .val (.int (0 : Int32))] [(.int (0 : Int32)), (.ref b)])) _
    refine XS.ifNo X10.here hx rfl (hb hby dAj_40) rfl ((if0 _ _).trans (teq rfl).2) ?_
    exact Steps.refl _
  have c12 : Steps p.tables e below S0 (T10.setTop (mkF m 44 #[.val (.ref b), .val (.ref a), .val (.int (Int32.ofNat ds.length)), .val (.int (Int32.ofNat (ds.length + 16))), .val (.int (0 : Int32))] [(.int (Int32.ofNat (ds.length + 16))), (.ref b)])) := by
    refine c11.trans ?_
    show Steps p.tables e below (T10.setTop (mkF m 43 #[.val (.ref b), .val (.ref a), .val (.int (Int32.ofNat ds.length)), .val (.int (Int32.ofNat (ds.length + 16))), .val (.int (0 : Int32))] [(.ref b)])) _
    refine XS.iloadN X10.here hx rfl (hb hby dAj_43) rfl ?_
    exact Steps.refl _
  obtain ⟨T13, h13, kA13, X13, e13, E13, A13, A13x, st13⟩ := newPE X10 hx hZ (hw _ (List.mem_of_getElem? (i := 19) rfl)) e10 (g := (mkF m 44 #[.val (.ref b), .val (.ref a), .val (.int (Int32.ofNat ds.length)), .val (.int (Int32.ofNat (ds.length + 16))), .val (.int (0 : Int32))] [(.int (Int32.ofNat (ds.length + 16))), (.ref b)])) rfl (hb hby dAj_44) rfl (own_nn (by omega)) (cap := 66) (by rw [own_nat (by omega)]; omega) (by decide) (by decide) (by decide) (ad := "[B") (by decide +kernel)
  obtain ⟨b13, g13⟩ : ∃ z, z = h10.size := ⟨_, rfl⟩
  rw [← g13] at A13 A13x st13
  have c13 : Steps p.tables e below S0 (T13.setTop (mkF m 46 #[.val (.ref b), .val (.ref a), .val (.int (Int32.ofNat ds.length)), .val (.int (Int32.ofNat (ds.length + 16))), .val (.int (0 : Int32))] [(.ref b13), (.ref b)])) := by
    refine c12.trans ?_
    show Steps p.tables e below (T10.setTop (mkF m 44 #[.val (.ref b), .val (.ref a), .val (.int (Int32.ofNat ds.length)), .val (.int (Int32.ofNat (ds.length + 16))), .val (.int (0 : Int32))] [(.int (Int32.ofNat (ds.length + 16))), (.ref b)])) _
    refine st13 _ ?_
    exact Steps.refl _
  have V13 := Arv.new A13 (own_nn (by omega))
  have zb : h0.size ≤ b13 := Nat.le_trans (Nat.le_of_eq (own_wsz W10).symm) (Nat.le_of_eq g13.symm)
  have gt : n0 ≤ b13 := Nat.le_trans Z0 zb
  have c14 : Steps p.tables e below S0 (T13.setTop (mkF m 53 #[.val (.ref b), .val (.ref a), .val (.int (Int32.ofNat ds.length)), .val (.int (Int32.ofNat (ds.length + 16))), .val (.int (0 : Int32))] [(.ref b13), (.ref b)])) := by
    refine c13.trans ?_
    show Steps p.tables e below (T13.setTop (mkF m 46 #[.val (.ref b), .val (.ref a), .val (.int (Int32.ofNat ds.length)), .val (.int (Int32.ofNat (ds.length + 16))), .val (.int (0 : Int32))] [(.ref b13), (.ref b)])) _
    refine XS.goto X13.here hx rfl (pc0 := 46) (pc' := 53) rfl (hb hby dAj_46) (by decide) (by decide) ?_
    exact Steps.refl _
  obtain ⟨T15, h15, X15, e15, W15, st15⟩ := putF X13 hx hZ hown (host := "") (Or.inl (hw _ (List.mem_of_getElem? (i := 72) rfl))) Via.refl e13 (Fv1.ext E13) (Eb1.ext E13) (Or.inl (hw _ (List.mem_of_getElem? (i := 73) rfl))) (hw _ (List.mem_of_getElem? (i := 45) rfl)) (ty := (.array .byte)) (by decide) rfl rfl (g := (mkF m 53 #[.val (.ref b), .val (.ref a), .val (.int (Int32.ofNat ds.length)), .val (.int (Int32.ofNat (ds.length + 16))), .val (.int (0 : Int32))] [(.ref b13), (.ref b)])) rfl rfl (hb hby dAj_53)
  have c15 : Steps p.tables e below S0 (T15.setTop (mkF m 56 #[.val (.ref b), .val (.ref a), .val (.int (Int32.ofNat ds.length)), .val (.int (Int32.ofNat (ds.length + 16))), .val (.int (0 : Int32))] [])) := by
    refine c14.trans ?_
    show Steps p.tables e below (T13.setTop (mkF m 53 #[.val (.ref b), .val (.ref a), .val (.int (Int32.ofNat ds.length)), .val (.int (Int32.ofNat (ds.length + 16))), .val (.int (0 : Int32))] [(.ref b13), (.ref b)])) _
    refine st15 _ ?_
    exact Steps.refl _
  have Nb := Fr.snoc X15 Na gb
  have nbt : b ≠ b13 := (Eb1.ext E13).neArv V13 (hw _ (List.mem_of_getElem? (i := 45) rfl))
  have B1 : own_SB Z h15 b b13 (ds.length + 16) [] := ⟨(Eb1.ext E13).wr W15, (Fc1.ext E13).other W15 (Or.inr (slot_ne (Or.inl (hw _ (List.mem_of_getElem? (i := 71) rfl))) (Or.inl (hw _ (List.mem_of_getElem? (i := 73) rfl))) (by decide) (t := .byte) (t' := (.array .byte)) (by decide) (by decide))), (Fn1.ext E13).other W15 (Or.inr (slot_ne (Or.inl (hw _ (List.mem_of_getElem? (i := 89) rfl))) (Or.inl (hw _ (List.mem_of_getElem? (i := 73) rfl))) (by decide) (t := .int) (t' := (.array .byte)) (by decide) (by decide))), (Fv1.ext E13).same W15, ⟨_, V13.other W15 (Ne.symm nbt), A13x.wr W15⟩, (fun c hc => by cases hc), Nat.zero_le _, by omega⟩
  have K1 : Keep h0 h15 [b] := (((Keep.refl h0 [b]).wr W10 (Or.inl (List.mem_of_getElem? (i := 0) rfl))).ext E13).wr W15 (Or.inl (List.mem_of_getElem? (i := 0) rfl))
  have Z1 := Nat.le_trans Z0 K1.1
  have nba : b ≠ a := Eb.ne S.1 (by decide)
  have nbta : b ≠ ta := Eb.neArv S.2.2.2.1.choose_spec (hw _ (List.mem_of_getElem? (i := 45) rfl))
  have S1 := S.keep K1 (fun q => nba (List.mem_singleton.mp q).symm) (fun q => nbta (List.mem_singleton.mp q).symm)
  have X01 := X00.keep K1 (fun x hx => by cases List.mem_singleton.mp hx; exact gb)
  have c16 : Steps p.tables e below S0 (T15.setTop (mkF m 58 #[.val (.ref b), .val (.ref a), .val (.int (Int32.ofNat ds.length)), .val (.int (Int32.ofNat (ds.length + 16))), .val (.int (0 : Int32))] [(.ref a), (.ref b)])) := by
    refine c15.trans ?_
    show Steps p.tables e below (T15.setTop (mkF m 56 #[.val (.ref b), .val (.ref a), .val (.int (Int32.ofNat ds.length)), .val (.int (Int32.ofNat (ds.length + 16))), .val (.int (0 : Int32))] [])) _
    refine XS.aloadN X15.here hx rfl (hb hby dAj_56) rfl rfl ?_
    show Steps p.tables e below (T15.setTop (mkF m 57 #[.val (.ref b), .val (.ref a), .val (.int (Int32.ofNat ds.length)), .val (.int (Int32.ofNat (ds.length + 16))), .val (.int (0 : Int32))] [(.ref b)])) _
    refine XS.aloadN X15.here hx rfl (hb hby dAj_57) rfl rfl ?_
    exact Steps.refl _
  obtain ⟨cq17, kq17, q17a, q17b, q17c⟩ := isOf hZ e15 B1.1
  obtain ⟨_, _, ⟨T17, L17, k17, n17⟩, -, X17, ⟨Lc17, hQ17, l17, y17, z17⟩, st17⟩ := X15.virtualBack hx (y := (⟨"java/lang/AbstractStringBuilder", "append", "(Ljava/lang/String;)Ljava/lang/AbstractStringBuilder;"⟩ : MethodName)) (z := (⟨"java/lang/StringBuilder", "append", "(Ljava/lang/String;)Ljava/lang/AbstractStringBuilder;"⟩ : MethodName)) hown (mvT hZ (hw _ (List.mem_of_getElem? (i := 74) rfl))) (mvT hZ (hw _ (List.mem_of_getElem? (i := 75) rfl))) (own_nf hZ (own_NI_of (y := (⟨"java/lang/AbstractStringBuilder", "putStringAt", "(ILjava/lang/String;)V"⟩ : MethodName)) (hw _ (List.mem_of_getElem? (i := 98) rfl)))) (mvT hZ (hw _ (List.mem_of_getElem? (i := 77) rfl))) (mvT hZ (hw _ (List.mem_of_getElem? (i := 78) rfl))) (by decide) (backOf (W := 0) (rmBr l Z a0 hw [] a ta ds b b13 (ds.length + 16) [] G1 h15 n0 Z1 O2 P5 X01 S1 (by omega) B1 (by simp) (by omega) gb gt) hZ (hw _ (List.mem_of_getElem? (i := 79) rfl)) (hw _ (List.mem_of_getElem? (i := 46) rfl)) (by decide) (by decide)) q17a q17c (g := (mkF m 58 #[.val (.ref b), .val (.ref a), .val (.int (Int32.ofNat ds.length)), .val (.int (Int32.ofNat (ds.length + 16))), .val (.int (0 : Int32))] [(.ref a), (.ref b)])) rfl (by rw [hml]; rfl) (Steps.refl _) (argsL := [(.ref a)]) (rest := []) (lenOf pd6 rfl) rfl (by show 2 * 0 + _ ≤ _; exact Nat.le_of_eq rfl) (hb hby dAj_58) (fun _ _ => ⟨rfl, e15, (by decide : 1 + 0 ≤ _), (by decide : 66 + 0 ≤ _)⟩)
  dsimp only [Pt.U, Pt.locs, Pt.cells, Pt.slots] at X17 l17 y17 z17 st17 hQ17
  subst l17 y17 z17
  obtain ⟨rfl, N3, B3, K3⟩ := hQ17
  have c17 : Steps p.tables e below S0 (T17.setTop (mkF m 61 #[.val (.ref b), .val (.ref a), .val (.int (Int32.ofNat ds.length)), .val (.int (Int32.ofNat (ds.length + 16))), .val (.int (0 : Int32))] [(.ref b)])) := by
    refine c16.trans ?_
    show Steps p.tables e below (T15.setTop (mkF m 58 #[.val (.ref b), .val (.ref a), .val (.int (Int32.ofNat ds.length)), .val (.int (Int32.ofNat (ds.length + 16))), .val (.int (0 : Int32))] [(.ref a), (.ref b)])) _
    refine st17.trans ?_
    exact Steps.refl _
  have c18 : Steps p.tables e below S0 (T17.setTop (mkF m 62 #[.val (.ref b), .val (.ref a), .val (.int (Int32.ofNat ds.length)), .val (.int (Int32.ofNat (ds.length + 16))), .val (.int (0 : Int32))] [])) := by
    refine c17.trans ?_
    show Steps p.tables e below (T17.setTop (mkF m 61 #[.val (.ref b), .val (.ref a), .val (.int (Int32.ofNat ds.length)), .val (.int (Int32.ofNat (ds.length + 16))), .val (.int (0 : Int32))] [(.ref b)])) _
    refine XS.pop X17.here hx rfl (hb hby dAj_61) rfl rfl ?_
    exact Steps.refl _
  obtain ⟨fs, hr, hrun, hended, hW, hsame⟩ := X17.leave (v := none) (fun _ => rfl)
  refine ⟨_, _, c18.trans ?_, hrun, hended, _, _, rfl, ?_, ⟨_, rfl⟩, hW, hsame.mono (by decide) (by decide)⟩
  · show Steps p.tables e below (T17.setTop (mkF m 62 #[.val (.ref b), .val (.ref a), .val (.int (Int32.ofNat ds.length)), .val (.int (Int32.ofNat (ds.length + 16))), .val (.int (0 : Int32))] [])) _
    exact X17.returnOut hx Bd.returns (hb hby dAj_62) hr
  · show QAj Z b a ta ds G1 h0 n0 _ T17.heap _
    exact ⟨rfl, Fr.app Nb N3, K1.trans K3 (fun x hx => by simp only [List.mem_cons, List.not_mem_nil, or_false] at hx; rcases hx with rfl | rfl <;> first | exact Or.inr zb | exact Or.inl (List.mem_singleton.mpr rfl)), _, zb, by simpa using B3⟩
def QSj (Z : State) (b : Addr) (a : Addr) (ta : Addr) (ds : List Int32) (G1 : Int32) (h0 : Heap) (n0 : Nat) (v : Option Value) (h : Heap) (L : List Loc) : Prop := v = none ∧ Fr n0 L ∧ Keep h0 h [b] ∧ ∃ t : Addr, h0.size ≤ t ∧ own_SB Z h b t (ds.length + 16) ds
theorem efSj (m : MethodId) (b : Addr) (a : Addr) : entryFrame m #[(.ref b), (.ref a)] 2 = mkF m 0 #[.val (.ref b), .val (.ref a)] [] := by first | (simp [entryFrame, mkF, argsToLocals, Value.category, List.replicate]; done) | rfl
set_option maxRecDepth 65536 in
set_option maxHeartbeats 40000000 in
theorem rmSj (l : Launch) (Z : State) (a0 : Array Value) (hw : ∀ d ∈ tables_1, d.before a0 Z = true) (ws : List Jvm.Cond) (b : Addr) (a : Addr) (ta : Addr) (ds : List Int32) (G1 : Int32) (h0 : Heap) (n0 : Nat) (Z0 : n0 ≤ h0.size) (O2 : Sta Z Z.heap "java/lang/String" "COMPACT_STRINGS" "Z" (.int G1)) (P5 : ¬ G1 = 0) (X00 : Old Z n0 h0) (Eb : Exa Z h0 b "java/lang/StringBuilder") (Fva : Fld Z h0 b "java/lang/AbstractStringBuilder" "value" "[B" .null) (Fco : Fld Z h0 b "java/lang/AbstractStringBuilder" "coder" "B" (.int 0)) (Fcn : Fld Z h0 b "java/lang/AbstractStringBuilder" "count" "I" (.int 0)) (gb : n0 ≤ b) (S : own_Str Z h0 a ta ds) (hl : ds.length ≤ 50) :
    MetFree l (⟨"java/lang/StringBuilder", "<init>", "(Ljava/lang/String;)V"⟩ : MethodName) (head1 (Jvm.Cond.code (⟨"java/lang/StringBuilder", "<init>", "(Ljava/lang/String;)V"⟩ : MethodName) jdk_67_method_3_code 2 none :: ws) ({ frames := 9, cells := 1, slots := 66, locals := 144 } : Room)) (fun aa UU => aa = #[(.ref b), (.ref a)] ∧ Z.Warmed39 UU.vm ∧ UU.heap = h0) (fun _ _ _ _ _ => True) (fun _ UU oo UT => ∃ vv LL, oo = .returned vv ∧ QSj Z b a ta ds G1 h0 n0 vv UT.heap LL ∧ FrameEnd UU oo UT LL ({ frames := 9, cells := 1, slots := 66, locals := 144 } : Room).cells ({ frames := 9, cells := 1, slots := 66, locals := 144 } : Room).slots) := by
  refine MetFree.of_bodySF (by decide +kernel) hisR ?_
  intro p e s m args below meth c s₁ Bd hml0 hP hK
  obtain ⟨rfl, hZ, hh⟩ := hP
  have hx := Bd.exec
  have hby := Bd.bytes
  have hml : c.maxLocals = 2 := hml0
  have hown : s.vm.findClass "java/lang/StringBuilder" = some m.cls := findClass_of_methodNamed Bd.named
  have hnm := (name_of_methodNamed Bd.named Bd.method).1
  have X0 : Stand p l e ({ frames := 9, cells := 1, slots := 66, locals := 144 } : Room) s m #[(.ref b), (.ref a)] below meth c s₁ [] 0 0 := Stand.of_body Bd
  have e0 : s₁.heap = h0 := by rw [← hh, Bd.state]; rfl
  have N0 := Fr.nil n0
  have c0 : Steps p.tables e below (s₁.setTop (entryFrame m #[(.ref b), (.ref a)] 2)) (s₁.setTop (mkF m 0 #[.val (.ref b), .val (.ref a)] [])) := castTop (efSj m b a) (Steps.refl _)
  show ∃ s₂ oo, Steps p.tables e below (s₁.setTop (entryFrame m #[(.ref b), (.ref a)] 2)) s₂ ∧ _ ∧ _ ∧ _
  generalize s₁.setTop (entryFrame m #[(.ref b), (.ref a)] 2) = S0 at c0 ⊢
  have c1 : Steps p.tables e below S0 (s₁.setTop (mkF m 2 #[.val (.ref b), .val (.ref a)] [(.ref a), (.ref b)])) := by
    refine c0.trans ?_
    show Steps p.tables e below (s₁.setTop (mkF m 0 #[.val (.ref b), .val (.ref a)] [])) _
    refine XS.aloadN X0.here hx rfl (hb hby dSj_0) rfl rfl ?_
    show Steps p.tables e below (s₁.setTop (mkF m 1 #[.val (.ref b), .val (.ref a)] [(.ref b)])) _
    refine XS.aloadN X0.here hx rfl (hb hby dSj_1) rfl rfl ?_
    exact Steps.refl _
  obtain ⟨_, _, ⟨T2, L2, k2, n2⟩, -, X2, ⟨Lc2, hQ2, l2, y2, z2⟩, st2⟩ := X0.specialBack hx (y := (⟨"java/lang/AbstractStringBuilder", "<init>", "(Ljava/lang/String;)V"⟩ : MethodName)) rfl hown (mvT hZ (hw _ (List.mem_of_getElem? (i := 51) rfl))) (mvT hZ (hw _ (List.mem_of_getElem? (i := 52) rfl))) (mvT hZ (hw _ (List.mem_of_getElem? (i := 56) rfl))) (by decide) (backOf (W := 0) (rmAj l Z a0 hw [] b a ta ds G1 h0 n0 Z0 O2 P5 X00 Eb Fva Fco Fcn gb S hl) hZ (hw _ (List.mem_of_getElem? (i := 56) rfl)) (hw _ (List.mem_of_getElem? (i := 55) rfl)) (by decide) (by decide)) (g := (mkF m 2 #[.val (.ref b), .val (.ref a)] [(.ref a), (.ref b)])) rfl (by rw [hml]; rfl) (Steps.refl _) (a := b) (argsL := [(.ref a)]) (rest := []) (lenOf pd1 rfl) rfl (by show 2 * 0 + _ ≤ _; exact Nat.le_of_eq rfl) (hb hby dSj_2) (fun _ _ => ⟨rfl, e0, (by decide : 0 + 1 ≤ _), (by decide : 0 + 66 ≤ _)⟩)
  dsimp only [Pt.U, Pt.locs, Pt.cells, Pt.slots] at X2 l2 y2 z2 st2 hQ2
  subst l2 y2 z2
  obtain ⟨rfl, N1, D1⟩ := hQ2
  have c2 : Steps p.tables e below S0 (T2.setTop (mkF m 5 #[.val (.ref b), .val (.ref a)] [])) := by
    refine c1.trans ?_
    show Steps p.tables e below (s₁.setTop (mkF m 2 #[.val (.ref b), .val (.ref a)] [(.ref a), (.ref b)])) _
    refine st2.trans ?_
    exact Steps.refl _
  obtain ⟨fs, hr, hrun, hended, hW, hsame⟩ := X2.leave (v := none) (fun _ => rfl)
  refine ⟨_, _, c2.trans ?_, hrun, hended, _, _, rfl, ?_, ⟨_, rfl⟩, hW, hsame.mono (by decide) (by decide)⟩
  · show Steps p.tables e below (T2.setTop (mkF m 5 #[.val (.ref b), .val (.ref a)] [])) _
    exact X2.returnOut hx Bd.returns (hb hby dSj_5) hr
  · show QSj Z b a ta ds G1 h0 n0 _ T2.heap _
    exact ⟨rfl, Fr.app N0 N1, D1⟩
def Q149 (Z : State) (a : Addr) (b : Addr) (h0 : Heap) (n0 : Nat) (v : Option Value) (h : Heap) (L : List Loc) : Prop := v = none ∧ Fr n0 L ∧ Keep h0 h [a] ∧ ∃ t : Addr, own_Str Z h a t []
theorem ef149 (m : MethodId) (a : Addr) (b : Addr) : entryFrame m #[(.ref a), (.ref b), (.int (0 : Int32)), (.int (0 : Int32)), .null] 6 = mkF m 0 #[.val (.ref a), .val (.ref b), .val (.int (0 : Int32)), .val (.int (0 : Int32)), .val .null, .unset] [] := by first | (simp [entryFrame, mkF, argsToLocals, Value.category, List.replicate]; done) | rfl
set_option maxRecDepth 65536 in
set_option maxHeartbeats 40000000 in
theorem rm149 (l : Launch) (Z : State) (a0 : Array Value) (hw : ∀ d ∈ tables_1, d.before a0 Z = true) (ws : List Jvm.Cond) (a : Addr) (b : Addr) (h0 : Heap) (n0 : Nat) (Z0 : n0 ≤ h0.size) (Ea : Exa Z h0 a "java/lang/String") (Fv : Fld Z h0 a "java/lang/String" "value" "[B" .null) (Fc : Fld Z h0 a "java/lang/String" "coder" "B" (.int 0)) (ga : n0 ≤ a) :
    MetFree l (⟨"java/lang/String", "<init>", "([CIILjava/lang/Void;)V"⟩ : MethodName) (head1 (Jvm.Cond.code (⟨"java/lang/String", "<init>", "([CIILjava/lang/Void;)V"⟩ : MethodName) jdk_42_method_149_code 6 none :: ws) ({ frames := 1, cells := 4, slots := 8, locals := 20 } : Room)) (fun aa UU => aa = #[(.ref a), (.ref b), (.int (0 : Int32)), (.int (0 : Int32)), .null] ∧ Z.Warmed39 UU.vm ∧ UU.heap = h0 ∧ CHv Z consts_1 UU.vm h0 ∧ ∀ x ∈ ([a] : List Addr), Safe Z consts_1 UU.vm h0 x) (fun _ _ _ _ _ => True) (fun _ UU oo UT => ∃ vv LL, oo = .returned vv ∧ Q149 Z a b h0 n0 vv UT.heap LL ∧ CHr Z consts_1 UU.vm UU.heap UT.vm UT.heap ∧ ReturnedEndW UU oo UT LL ({ frames := 1, cells := 4, slots := 8, locals := 20 } : Room).cells ({ frames := 1, cells := 4, slots := 8, locals := 20 } : Room).slots) := by
  refine MetFree.of_bodySF (by decide +kernel) hisR ?_
  intro p e s m args below meth c s₁ Bd hml0 hP hK
  obtain ⟨rfl, hZ, hh, hC, hX⟩ := hP
  have hx := Bd.exec
  have hby := Bd.bytes
  have hml : c.maxLocals = 6 := hml0
  have hown : s.vm.findClass "java/lang/String" = some m.cls := findClass_of_methodNamed Bd.named
  have hnm := (name_of_methodNamed Bd.named Bd.method).1
  have X0 : Stand p l e ({ frames := 1, cells := 4, slots := 8, locals := 20 } : Room) s m #[(.ref a), (.ref b), (.int (0 : Int32)), (.int (0 : Int32)), .null] below meth c s₁ [] 0 0 := Stand.of_body Bd
  have e0 : s₁.heap = h0 := by rw [← hh, Bd.state]; rfl
  have N0 := Fr.nil n0
  have c0 : Steps p.tables e below (s₁.setTop (entryFrame m #[(.ref a), (.ref b), (.int (0 : Int32)), (.int (0 : Int32)), .null] 6)) (s₁.setTop (mkF m 0 #[.val (.ref a), .val (.ref b), .val (.int (0 : Int32)), .val (.int (0 : Int32)), .val .null, .unset] [])) := castTop (ef149 m a b) (Steps.refl _)
  show ∃ s₂ oo, Steps p.tables e below (s₁.setTop (entryFrame m #[(.ref a), (.ref b), (.int (0 : Int32)), (.int (0 : Int32)), .null] 6)) s₂ ∧ _ ∧ _ ∧ _
  generalize s₁.setTop (entryFrame m #[(.ref a), (.ref b), (.int (0 : Int32)), (.int (0 : Int32)), .null] 6) = S0 at c0 ⊢
  obtain ⟨V0, hV0⟩ : ∃ V, V = s.vm := ⟨_, rfl⟩
  have Xs : Stand p l e ({ frames := 1, cells := 4, slots := 8, locals := 20 } : Room) (s.setVm V0) m #[(.ref a), (.ref b), (.int (0 : Int32)), (.int (0 : Int32)), .null] below meth c s₁ [] 0 0 := by subst hV0; exact X0
  have hS : s.Since V0 h0.size := by subst hV0; exact (State.WarmedH.refl s).since _
  replace hZ : Z.Warmed39 (s.setVm V0).vm := by subst hV0; exact hZ
  replace hown : (s.setVm V0).vm.findClass "java/lang/String" = some m.cls := by subst hV0; exact hown
  have hk : h0.size ≤ h0.size := Nat.le_refl _
  have Zh := Z0
  have hR : CHr Z consts_1 V0 h0 V0 h0 := by subst hV0; exact CHr.refl hC
  have hEL := own_EW hw
  have Sf_a : Safe Z consts_1 V0 h0 a := by subst hV0; exact hX _ (List.mem_of_getElem? (i := 0) rfl)
  have c1 : Steps p.tables e below S0 (s₁.setTop (mkF m 1 #[.val (.ref a), .val (.ref b), .val (.int (0 : Int32)), .val (.int (0 : Int32)), .val .null, .unset] [(.ref a)])) := by
    refine c0.trans ?_
    show Steps p.tables e below (s₁.setTop (mkF m 0 #[.val (.ref a), .val (.ref b), .val (.int (0 : Int32)), .val (.int (0 : Int32)), .val .null, .unset] [])) _
    refine XS.aloadN Xs.here hx rfl (hb hby d149_0) rfl rfl ?_
    exact Steps.refl _
  obtain ⟨T2, X2, e2, st2⟩ := initO Xs hx hZ hown (hw _ (List.mem_of_getElem? (i := 15) rfl)) (hw _ (List.mem_of_getElem? (i := 16) rfl)) (hw _ (List.mem_of_getElem? (i := 17) rfl)) e0 (g := (mkF m 1 #[.val (.ref a), .val (.ref b), .val (.int (0 : Int32)), .val (.int (0 : Int32)), .val .null, .unset] [(.ref a)])) rfl (by rw [hml]; rfl) rfl (hb hby d149_1) (by decide) (W := 0) (by show 2 * 0 + _ ≤ _; exact Nat.le_of_eq rfl) (by decide)
  have c2 : Steps p.tables e below S0 (T2.setTop (mkF m 4 #[.val (.ref a), .val (.ref b), .val (.int (0 : Int32)), .val (.int (0 : Int32)), .val .null, .unset] [])) := by
    refine c1.trans ?_
    show Steps p.tables e below (s₁.setTop (mkF m 1 #[.val (.ref a), .val (.ref b), .val (.int (0 : Int32)), .val (.int (0 : Int32)), .val .null, .unset] [(.ref a)])) _
    refine st2 _ ?_
    exact Steps.refl _
  have c3 : Steps p.tables e below S0 (T2.setTop (mkF m 8 #[.val (.ref a), .val (.ref b), .val (.int (0 : Int32)), .val (.int (0 : Int32)), .val .null, .unset] [])) := by
    refine c2.trans ?_
    show Steps p.tables e below (T2.setTop (mkF m 4 #[.val (.ref a), .val (.ref b), .val (.int (0 : Int32)), .val (.int (0 : Int32)), .val .null, .unset] [])) _
    refine XS.iloadN X2.here hx rfl (hb hby d149_4) rfl ?_
    show Steps p.tables e below (T2.setTop (mkF m 5 #[.val (.ref a), .val (.ref b), .val (.int (0 : Int32)), .val (.int (0 : Int32)), .val .null, .unset] [(.int (0 : Int32))])) _
    refine XS.ifNo X2.here hx rfl (hb hby d149_5) rfl ((if0 _ _).trans (teq rfl).2) ?_
    exact Steps.refl _
  have c4 : Steps p.tables e below S0 (T2.setTop (mkF m 9 #[.val (.ref a), .val (.ref b), .val (.int (0 : Int32)), .val (.int (0 : Int32)), .val .null, .unset] [(.ref a)])) := by
    refine c3.trans ?_
    show Steps p.tables e below (T2.setTop (mkF m 8 #[.val (.ref a), .val (.ref b), .val (.int (0 : Int32)), .val (.int (0 : Int32)), .val .null, .unset] [])) _
    refine XS.aloadN X2.here hx rfl (hb hby d149_8) rfl rfl ?_
    exact Steps.refl _
  obtain ⟨q5, T5, h5, k5, r5, kq5, X5, e5, E5, hS, hk, hZ, hown, Xq5, Fc5, Fv5, Vq5, ql5, rl5, hCs5, -, -, st5⟩ := ldcCH X2 hx hZ hown (hw _ (List.mem_of_getElem? (i := 18) rfl)) (own_wS hw) e2 hS hk hEL (by decide) hR.1 (vs := []) (z := 0) (by decide +kernel) (by decide) (by decide) (g := (mkF m 9 #[.val (.ref a), .val (.ref b), .val (.int (0 : Int32)), .val (.int (0 : Int32)), .val .null, .unset] [(.ref a)])) rfl (hb hby d149_9) (n := 0) (by decide) (by decide) (by decide) (by decide)
  have hR := hR.trans hCs5
  have c5 : Steps p.tables e below S0 (T5.setTop (mkF m 11 #[.val (.ref a), .val (.ref b), .val (.int (0 : Int32)), .val (.int (0 : Int32)), .val .null, .unset] [(.ref q5), (.ref a)])) := by
    refine c4.trans ?_
    show Steps p.tables e below (T2.setTop (mkF m 9 #[.val (.ref a), .val (.ref b), .val (.int (0 : Int32)), .val (.int (0 : Int32)), .val .null, .unset] [(.ref a)])) _
    refine st5 _ ?_
    exact Steps.refl _
  have Sf_a := hCs5.safe Ea.lt Sf_a
  have Zh := Nat.le_trans Zh E5.1
  obtain ⟨T6, X6, e6, st6⟩ := getF X5 hx hZ hown (host := "") (Or.inl (hw _ (List.mem_of_getElem? (i := 24) rfl))) Via.refl e5 Fv5 (g := (mkF m 11 #[.val (.ref a), .val (.ref b), .val (.int (0 : Int32)), .val (.int (0 : Int32)), .val .null, .unset] [(.ref q5), (.ref a)])) rfl rfl (hb hby d149_11)
  have c6 : Steps p.tables e below S0 (T6.setTop (mkF m 14 #[.val (.ref a), .val (.ref b), .val (.int (0 : Int32)), .val (.int (0 : Int32)), .val .null, .unset] [(.ref r5), (.ref a)])) := by
    refine c5.trans ?_
    show Steps p.tables e below (T5.setTop (mkF m 11 #[.val (.ref a), .val (.ref b), .val (.int (0 : Int32)), .val (.int (0 : Int32)), .val .null, .unset] [(.ref q5), (.ref a)])) _
    refine st6 _ ?_
    exact Steps.refl _
  obtain ⟨T7, h7, X7, e7, W7, st7⟩ := putF X6 hx hZ hown (host := "") (Or.inl (hw _ (List.mem_of_getElem? (i := 24) rfl))) Via.refl e6 (Fv.ext E5) (Ea.ext E5) (Or.inr ⟨(hw _ (List.mem_of_getElem? (i := 20) rfl)), rfl, hnm⟩) (hw _ (List.mem_of_getElem? (i := 6) rfl)) (ty := (.array .byte)) (by decide) rfl rfl (g := (mkF m 14 #[.val (.ref a), .val (.ref b), .val (.int (0 : Int32)), .val (.int (0 : Int32)), .val .null, .unset] [(.ref r5), (.ref a)])) rfl rfl (hb hby d149_14)
  have c7 : Steps p.tables e below S0 (T7.setTop (mkF m 17 #[.val (.ref a), .val (.ref b), .val (.int (0 : Int32)), .val (.int (0 : Int32)), .val .null, .unset] [])) := by
    refine c6.trans ?_
    show Steps p.tables e below (T6.setTop (mkF m 14 #[.val (.ref a), .val (.ref b), .val (.int (0 : Int32)), .val (.int (0 : Int32)), .val .null, .unset] [(.ref r5), (.ref a)])) _
    refine st7 _ ?_
    exact Steps.refl _
  have Na := Fr.snoc X7 N0 ga
  have Ea1 := (Ea.ext E5).wr W7
  have Fv1 := (Fv.ext E5).same W7
  have Fc1 := (Fc.ext E5).other W7 (Or.inr (slot_ne (Or.inr (hw _ (List.mem_of_getElem? (i := 21) rfl))) (Or.inr (hw _ (List.mem_of_getElem? (i := 20) rfl))) (by decide) (t := .byte) (t' := (.array .byte)) (by decide) (by decide)))
  have nab : a ≠ r5 := (Ea.ext E5).neArv Vq5 (hw _ (List.mem_of_getElem? (i := 6) rfl))
  have Vb1 := Vq5.other W7 (Ne.symm nab)
  have K1 := ((Keep.refl h0 [a]).ext E5).wr W7 (Or.inl (List.mem_of_getElem? (i := 0) rfl))
  have hRs7 := CHr.wr W7 Sf_a hR.1
  have hR := hR.trans hRs7
  have Zh := Nat.le_trans Zh (Nat.le_of_eq (own_wsz W7).symm)
  have hk := Nat.le_trans hk (Nat.le_of_eq (own_wsz W7).symm)
  have Sf_a := hRs7.safe (Ea.ext E5).lt Sf_a
  have c8 : Steps p.tables e below S0 (T7.setTop (mkF m 18 #[.val (.ref a), .val (.ref b), .val (.int (0 : Int32)), .val (.int (0 : Int32)), .val .null, .unset] [(.ref a)])) := by
    refine c7.trans ?_
    show Steps p.tables e below (T7.setTop (mkF m 17 #[.val (.ref a), .val (.ref b), .val (.int (0 : Int32)), .val (.int (0 : Int32)), .val .null, .unset] [])) _
    refine XS.aloadN X7.here hx rfl (hb hby d149_17) rfl rfl ?_
    exact Steps.refl _
  obtain ⟨q9, T9, h9, k9, r9, kq9, X9, e9, E9, hS, hk, hZ, hown, Xq9, Fc9, Fv9, Vq9, ql9, rl9, hCs9, -, -, st9⟩ := ldcCH X7 hx hZ hown (hw _ (List.mem_of_getElem? (i := 18) rfl)) (own_wS hw) e7 hS hk hEL (by decide) hR.1 (vs := []) (z := 0) (by decide +kernel) (by decide) (by decide) (g := (mkF m 18 #[.val (.ref a), .val (.ref b), .val (.int (0 : Int32)), .val (.int (0 : Int32)), .val .null, .unset] [(.ref a)])) rfl (hb hby d149_18) (n := 0) (by decide) (by decide) (by decide) (by decide)
  have hR := hR.trans hCs9
  have c9 : Steps p.tables e below S0 (T9.setTop (mkF m 20 #[.val (.ref a), .val (.ref b), .val (.int (0 : Int32)), .val (.int (0 : Int32)), .val .null, .unset] [(.ref q9), (.ref a)])) := by
    refine c8.trans ?_
    show Steps p.tables e below (T7.setTop (mkF m 18 #[.val (.ref a), .val (.ref b), .val (.int (0 : Int32)), .val (.int (0 : Int32)), .val .null, .unset] [(.ref a)])) _
    refine st9 _ ?_
    exact Steps.refl _
  have Sf_a := hCs9.safe Ea1.lt Sf_a
  have Zh := Nat.le_trans Zh E9.1
  obtain ⟨T10, X10, e10, st10⟩ := getF X9 hx hZ hown (host := "") (Or.inl (hw _ (List.mem_of_getElem? (i := 25) rfl))) Via.refl e9 Fc9 (g := (mkF m 20 #[.val (.ref a), .val (.ref b), .val (.int (0 : Int32)), .val (.int (0 : Int32)), .val .null, .unset] [(.ref q9), (.ref a)])) rfl rfl (hb hby d149_20)
  have c10 : Steps p.tables e below S0 (T10.setTop (mkF m 23 #[.val (.ref a), .val (.ref b), .val (.int (0 : Int32)), .val (.int (0 : Int32)), .val .null, .unset] [(.int (0 : Int32)), (.ref a)])) := by
    refine c9.trans ?_
    show Steps p.tables e below (T9.setTop (mkF m 20 #[.val (.ref a), .val (.ref b), .val (.int (0 : Int32)), .val (.int (0 : Int32)), .val .null, .unset] [(.ref q9), (.ref a)])) _
    refine st10 _ ?_
    exact Steps.refl _
  obtain ⟨T11, h11, X11, e11, W11, st11⟩ := putFN X10 hx hZ hown (hw _ (List.mem_of_getElem? (i := 25) rfl)) Via.refl e10 (Fc1.ext E9) (Ea1.ext E9) (Or.inr ⟨(hw _ (List.mem_of_getElem? (i := 21) rfl)), rfl, hnm⟩) (hw _ (List.mem_of_getElem? (i := 6) rfl)) (ty := .byte) (v' := (.int (0 : Int32))) (by decide) rfl rfl (g := (mkF m 23 #[.val (.ref a), .val (.ref b), .val (.int (0 : Int32)), .val (.int (0 : Int32)), .val .null, .unset] [(.int (0 : Int32)), (.ref a)])) rfl rfl (hb hby d149_23)
  have c11 : Steps p.tables e below S0 (T11.setTop (mkF m 26 #[.val (.ref a), .val (.ref b), .val (.int (0 : Int32)), .val (.int (0 : Int32)), .val .null, .unset] [])) := by
    refine c10.trans ?_
    show Steps p.tables e below (T10.setTop (mkF m 23 #[.val (.ref a), .val (.ref b), .val (.int (0 : Int32)), .val (.int (0 : Int32)), .val .null, .unset] [(.int (0 : Int32)), (.ref a)])) _
    refine st11 _ ?_
    exact Steps.refl _
  have Nb := Fr.snoc X11 Na ga
  have hRs11 := CHr.wr W11 Sf_a hR.1
  have hR := hR.trans hRs11
  have Zh := Nat.le_trans Zh (Nat.le_of_eq (own_wsz W11).symm)
  have hk := Nat.le_trans hk (Nat.le_of_eq (own_wsz W11).symm)
  obtain ⟨fs, hr, hrun, hended, hW⟩ := X11.leaveW hS (by rw [e11]; exact hk) (v := none) (fun _ => rfl)
  refine ⟨_, _, c11.trans ?_, hrun, hended, _, _, rfl, ?_, ?_, hW.1, hW.2.1, hW.2.2.1, hW.2.2.2.mono (by decide) (by decide)⟩
  · show Steps p.tables e below (T11.setTop (mkF m 26 #[.val (.ref a), .val (.ref b), .val (.int (0 : Int32)), .val (.int (0 : Int32)), .val .null, .unset] [])) _
    exact X11.returnOut hx Bd.returns (hb hby d149_26) hr
  · show Q149 Z a b h0 n0 _ T11.heap _
    rw [e11]
    exact ⟨rfl, Nb, (K1.ext E9).wr W11 (Or.inl (List.mem_of_getElem? (i := 0) rfl)), _, (Ea1.ext E9).wr W11, (Fc1.ext E9).same W11, (Fv1.ext E9).other W11 (Or.inr (slot_ne (Or.inr (hw _ (List.mem_of_getElem? (i := 20) rfl))) (Or.inr (hw _ (List.mem_of_getElem? (i := 21) rfl))) (by decide) (t := (.array .byte)) (t' := .byte) (by decide) (by decide))), ⟨_, (Vb1.ext E9).other W11 (Ne.symm nab)⟩, (fun c hc => by cases hc), (by decide)⟩
  · show CHr Z consts_1 s.vm s.heap T11.vm T11.heap
    rw [hh, e11, ← hV0]
    exact hR.trans (CHv.at X11 hZ hEL hR.1)
def Q3 (Z : State) (a : Addr) (b : Addr) (cb : Cell) (h0 : Heap) (n0 : Nat) (v : Option Value) (h : Heap) (L : List Loc) : Prop := v = none ∧ Fr n0 L ∧ Keep h0 h [a] ∧ ∃ t : Addr, own_Str Z h a t []
theorem ef3 (m : MethodId) (a : Addr) (b : Addr) : entryFrame m #[(.ref a), (.ref b)] 2 = mkF m 0 #[.val (.ref a), .val (.ref b)] [] := by first | (simp [entryFrame, mkF, argsToLocals, Value.category, List.replicate]; done) | rfl
set_option maxRecDepth 65536 in
set_option maxHeartbeats 40000000 in
theorem rm3 (l : Launch) (Z : State) (a0 : Array Value) (hw : ∀ d ∈ tables_1, d.before a0 Z = true) (ws : List Jvm.Cond) (a : Addr) (b : Addr) (cb : Cell) (h0 : Heap) (n0 : Nat) (Z0 : n0 ≤ h0.size) (Ea : Exa Z h0 a "java/lang/String") (Fv : Fld Z h0 a "java/lang/String" "value" "[B" .null) (Fc : Fld Z h0 a "java/lang/String" "coder" "B" (.int 0)) (ga : n0 ≤ a) (Ab : Arr Z h0 b cb .char) (Sb : cb.slots.size = (0 : Int32).toNatClampNeg) :
    MetFree l (⟨"java/lang/String", "<init>", "([C)V"⟩ : MethodName) (head1 (Jvm.Cond.code (⟨"java/lang/String", "<init>", "([C)V"⟩ : MethodName) jdk_42_method_3_code 2 none :: ws) ({ frames := 2, cells := 4, slots := 8, locals := 40 } : Room)) (fun aa UU => aa = #[(.ref a), (.ref b)] ∧ Z.Warmed39 UU.vm ∧ UU.heap = h0 ∧ CHv Z consts_1 UU.vm h0 ∧ ∀ x ∈ ([a] : List Addr), Safe Z consts_1 UU.vm h0 x) (fun _ _ _ _ _ => True) (fun _ UU oo UT => ∃ vv LL, oo = .returned vv ∧ Q3 Z a b cb h0 n0 vv UT.heap LL ∧ CHr Z consts_1 UU.vm UU.heap UT.vm UT.heap ∧ ReturnedEndW UU oo UT LL ({ frames := 2, cells := 4, slots := 8, locals := 40 } : Room).cells ({ frames := 2, cells := 4, slots := 8, locals := 40 } : Room).slots) := by
  refine MetFree.of_bodySF (by decide +kernel) hisR ?_
  intro p e s m args below meth c s₁ Bd hml0 hP hK
  obtain ⟨rfl, hZ, hh, hC, hX⟩ := hP
  have hx := Bd.exec
  have hby := Bd.bytes
  have hml : c.maxLocals = 2 := hml0
  have hown : s.vm.findClass "java/lang/String" = some m.cls := findClass_of_methodNamed Bd.named
  have hnm := (name_of_methodNamed Bd.named Bd.method).1
  have X0 : Stand p l e ({ frames := 2, cells := 4, slots := 8, locals := 40 } : Room) s m #[(.ref a), (.ref b)] below meth c s₁ [] 0 0 := Stand.of_body Bd
  have e0 : s₁.heap = h0 := by rw [← hh, Bd.state]; rfl
  have N0 := Fr.nil n0
  have c0 : Steps p.tables e below (s₁.setTop (entryFrame m #[(.ref a), (.ref b)] 2)) (s₁.setTop (mkF m 0 #[.val (.ref a), .val (.ref b)] [])) := castTop (ef3 m a b) (Steps.refl _)
  show ∃ s₂ oo, Steps p.tables e below (s₁.setTop (entryFrame m #[(.ref a), (.ref b)] 2)) s₂ ∧ _ ∧ _ ∧ _
  generalize s₁.setTop (entryFrame m #[(.ref a), (.ref b)] 2) = S0 at c0 ⊢
  obtain ⟨V0, hV0⟩ : ∃ V, V = s.vm := ⟨_, rfl⟩
  have Xs : Stand p l e ({ frames := 2, cells := 4, slots := 8, locals := 40 } : Room) (s.setVm V0) m #[(.ref a), (.ref b)] below meth c s₁ [] 0 0 := by subst hV0; exact X0
  have hS : s.Since V0 h0.size := by subst hV0; exact (State.WarmedH.refl s).since _
  replace hZ : Z.Warmed39 (s.setVm V0).vm := by subst hV0; exact hZ
  replace hown : (s.setVm V0).vm.findClass "java/lang/String" = some m.cls := by subst hV0; exact hown
  have hk : h0.size ≤ h0.size := Nat.le_refl _
  have Zh := Z0
  have hR : CHr Z consts_1 V0 h0 V0 h0 := by subst hV0; exact CHr.refl hC
  have hEL := own_EW hw
  have Sf_a : Safe Z consts_1 V0 h0 a := by subst hV0; exact hX _ (List.mem_of_getElem? (i := 0) rfl)
  have c1 : Steps p.tables e below S0 (s₁.setTop (mkF m 4 #[.val (.ref a), .val (.ref b)] [(.ref b), (.int (0 : Int32)), (.ref b), (.ref a)])) := by
    refine c0.trans ?_
    show Steps p.tables e below (s₁.setTop (mkF m 0 #[.val (.ref a), .val (.ref b)] [])) _
    refine XS.aloadN Xs.here hx rfl (hb hby d3_0) rfl rfl ?_
    show Steps p.tables e below (s₁.setTop (mkF m 1 #[.val (.ref a), .val (.ref b)] [(.ref a)])) _
    refine XS.aloadN Xs.here hx rfl (hb hby d3_1) rfl rfl ?_
    show Steps p.tables e below (s₁.setTop (mkF m 2 #[.val (.ref a), .val (.ref b)] [(.ref b), (.ref a)])) _
    refine XS.iconst Xs.here hx rfl (hb hby d3_2) ?_
    show Steps p.tables e below (s₁.setTop (mkF m 3 #[.val (.ref a), .val (.ref b)] [(.int (0 : Int32)), (.ref b), (.ref a)])) _
    refine XS.aloadN Xs.here hx rfl (hb hby d3_3) rfl rfl ?_
    exact Steps.refl _
  have c2 : Steps p.tables e below S0 (s₁.setTop (mkF m 5 #[.val (.ref a), .val (.ref b)] [(.int (0 : Int32)), (.int (0 : Int32)), (.ref b), (.ref a)])) := by
    refine c1.trans ?_
    show Steps p.tables e below (s₁.setTop (mkF m 4 #[.val (.ref a), .val (.ref b)] [(.ref b), (.int (0 : Int32)), (.ref b), (.ref a)])) _
    refine Xs.arraylength hx (by rw [e0]; exact Ab.1) (State.isArrayOf_alike hZ.alike Ab.2.1) (g := (mkF m 4 #[.val (.ref a), .val (.ref b)] [(.ref b), (.int (0 : Int32)), (.ref b), (.ref a)])) rfl rfl (hb hby d3_4) _ ?_
    rw [len_of Sb (by decide)]
    exact Steps.refl _
  have c3 : Steps p.tables e below S0 (s₁.setTop (mkF m 6 #[.val (.ref a), .val (.ref b)] [.null, (.int (0 : Int32)), (.int (0 : Int32)), (.ref b), (.ref a)])) := by
    refine c2.trans ?_
    show Steps p.tables e below (s₁.setTop (mkF m 5 #[.val (.ref a), .val (.ref b)] [(.int (0 : Int32)), (.int (0 : Int32)), (.ref b), (.ref a)])) _
    refine XS.aconstNull Xs.here hx rfl (hb hby d3_5) ?_
    exact Steps.refl _
  obtain ⟨_, _, ⟨T4, L4, k4, n4⟩, -, X4, hS4, hge4, ⟨Lc4, hQ4, l4, y4, z4, hCr4⟩, st4⟩ := Xs.specialBackS hx (y := (⟨"java/lang/String", "<init>", "([CIILjava/lang/Void;)V"⟩ : MethodName)) rfl hown (mvT hZ (hw _ (List.mem_of_getElem? (i := 11) rfl))) (mvT hZ (hw _ (List.mem_of_getElem? (i := 12) rfl))) (mvT hZ (hw _ (List.mem_of_getElem? (i := 14) rfl))) (by decide) (backOfSX (W := 0) (rm149 l Z a0 hw [] a b h0 n0 Z0 Ea Fv Fc ga) hZ (hw _ (List.mem_of_getElem? (i := 14) rfl)) (hw _ (List.mem_of_getElem? (i := 7) rfl)) (by decide) (by decide) hEL hR.1 (fun x hx => by cases List.mem_singleton.mp hx; exact ⟨Ea.lt, Sf_a⟩)) (g := (mkF m 6 #[.val (.ref a), .val (.ref b)] [.null, (.int (0 : Int32)), (.int (0 : Int32)), (.ref b), (.ref a)])) rfl (by rw [hml]; rfl) (Steps.refl _) (a := a) (argsL := [(.ref b), (.int (0 : Int32)), (.int (0 : Int32)), .null]) (rest := []) (lenOf pd15 rfl) rfl (by show 2 * 0 + _ ≤ _; exact Nat.le_of_eq rfl) (hb hby d3_6) (fun _ _ => ⟨rfl, e0, (by decide : 0 + 4 ≤ _), (by decide : 0 + 8 ≤ _)⟩)
  dsimp only [Pt.U, Pt.locs, Pt.cells, Pt.slots] at X4 l4 y4 z4 st4 hQ4 hS4 hge4 hCr4
  subst l4 y4 z4
  obtain ⟨X4, hS, hZ, hown⟩ := rebS hS (by rw [e0]; exact hk) X4 hS4 hge4 hZ hown
  have hk : T4.heap.size ≤ T4.heap.size := Nat.le_refl _
  have hR := hR.trans hCr4
  obtain ⟨rfl, N1, K1, D1⟩ := hQ4
  have c4 : Steps p.tables e below S0 (T4.setTop (mkF m 9 #[.val (.ref a), .val (.ref b)] [])) := by
    refine c3.trans ?_
    show Steps p.tables e below (s₁.setTop (mkF m 6 #[.val (.ref a), .val (.ref b)] [.null, (.int (0 : Int32)), (.int (0 : Int32)), (.ref b), (.ref a)])) _
    refine st4.trans ?_
    exact Steps.refl _
  obtain ⟨fs, hr, hrun, hended, hW⟩ := X4.leaveW hS hk (v := none) (fun _ => rfl)
  refine ⟨_, _, c4.trans ?_, hrun, hended, _, _, rfl, ?_, ?_, hW.1, hW.2.1, hW.2.2.1, hW.2.2.2.mono (by decide) (by decide)⟩
  · show Steps p.tables e below (T4.setTop (mkF m 9 #[.val (.ref a), .val (.ref b)] [])) _
    exact X4.returnOut hx Bd.returns (hb hby d3_9) hr
  · show Q3 Z a b cb h0 n0 _ T4.heap _
    exact ⟨rfl, Fr.app N0 N1, K1, D1⟩
  · show CHr Z consts_1 s.vm s.heap T4.vm T4.heap
    rw [hh, ← hV0]
    exact hR.trans (CHv.at X4 hZ hEL hR.1)
def QPo (Z : State) (t : Addr) (kt : ClassId) (cs : List Int32) (h0 : Heap) (n0 : Nat) (v : Option Value) (h : Heap) (L : List Loc) : Prop := v = some (.int (Int32.ofNat cs.length)) ∧ Fr n0 L ∧ h = h0
theorem efPo (m : MethodId) (t : Addr) (cs : List Int32) : entryFrame m #[(.ref t), (.int (0 : Int32)), (.int (Int32.ofNat cs.length))] 5 = mkF m 0 #[.val (.ref t), .val (.int (0 : Int32)), .val (.int (Int32.ofNat cs.length)), .unset, .unset] [] := by first | (simp [entryFrame, mkF, argsToLocals, Value.category, List.replicate]; done) | rfl
set_option maxRecDepth 65536 in
set_option maxHeartbeats 40000000 in
theorem rmPo (l : Launch) (Z : State) (a0 : Array Value) (hw : ∀ d ∈ tables_1, d.before a0 Z = true) (ws : List Jvm.Cond) (t : Addr) (kt : ClassId) (cs : List Int32) (h0 : Heap) (n0 : Nat) (Z0 : n0 ≤ h0.size) (Vt : Arv Z h0 t kt .byte (Int32.ofNat cs.length) (own_by cs) (.int 0)) (hp : ∀ c ∈ cs, ¬ c < 0 ∧ ¬ (127 : Int32) < c) (hn : cs.length ≤ 100) :
    MetFree l (⟨"java/lang/StringCoding", "countPositives", "([BII)I"⟩ : MethodName) (head1 (Jvm.Cond.code (⟨"java/lang/StringCoding", "countPositives", "([BII)I"⟩ : MethodName) jdk_123_method_3_code 5 (some .int) :: ws) ({ frames := 0, cells := 0, slots := 0, locals := 0 } : Room)) (fun aa UU => aa = #[(.ref t), (.int (0 : Int32)), (.int (Int32.ofNat cs.length))] ∧ Z.Warmed39 UU.vm ∧ UU.heap = h0) (fun _ _ _ _ _ => True) (fun _ UU oo UT => ∃ vv LL, oo = .returned vv ∧ QPo Z t kt cs h0 n0 vv UT.heap LL ∧ FrameEnd UU oo UT LL ({ frames := 0, cells := 0, slots := 0, locals := 0 } : Room).cells ({ frames := 0, cells := 0, slots := 0, locals := 0 } : Room).slots) := by
  refine MetFree.of_bodySF (by decide +kernel) hisR ?_
  intro p e s m args below meth c s₁ Bd hml0 hP hK
  obtain ⟨rfl, hZ, hh⟩ := hP
  have hx := Bd.exec
  have hby := Bd.bytes
  have hml : c.maxLocals = 5 := hml0
  have hown : s.vm.findClass "java/lang/StringCoding" = some m.cls := findClass_of_methodNamed Bd.named
  have hnm := (name_of_methodNamed Bd.named Bd.method).1
  have X0 : Stand p l e ({ frames := 0, cells := 0, slots := 0, locals := 0 } : Room) s m #[(.ref t), (.int (0 : Int32)), (.int (Int32.ofNat cs.length))] below meth c s₁ [] 0 0 := Stand.of_body Bd
  have e0 : s₁.heap = h0 := by rw [← hh, Bd.state]; rfl
  have N0 := Fr.nil n0
  have c0 : Steps p.tables e below (s₁.setTop (entryFrame m #[(.ref t), (.int (0 : Int32)), (.int (Int32.ofNat cs.length))] 5)) (s₁.setTop (mkF m 0 #[.val (.ref t), .val (.int (0 : Int32)), .val (.int (Int32.ofNat cs.length)), .unset, .unset] [])) := castTop (efPo m t cs) (Steps.refl _)
  show ∃ s₂ oo, Steps p.tables e below (s₁.setTop (entryFrame m #[(.ref t), (.int (0 : Int32)), (.int (Int32.ofNat cs.length))] 5)) s₂ ∧ _ ∧ _ ∧ _
  generalize s₁.setTop (entryFrame m #[(.ref t), (.int (0 : Int32)), (.int (Int32.ofNat cs.length))] 5) = S0 at c0 ⊢
  have c1 : Steps p.tables e below S0 (s₁.setTop (mkF m 3 #[.val (.ref t), .val (.int (0 : Int32)), .val (.int (Int32.ofNat cs.length)), .unset, .unset] [(.int ((0 : Int32) + (Int32.ofNat cs.length)))])) := by
    refine c0.trans ?_
    show Steps p.tables e below (s₁.setTop (mkF m 0 #[.val (.ref t), .val (.int (0 : Int32)), .val (.int (Int32.ofNat cs.length)), .unset, .unset] [])) _
    refine XS.iloadN X0.here hx rfl (hb hby dPo_0) rfl ?_
    show Steps p.tables e below (s₁.setTop (mkF m 1 #[.val (.ref t), .val (.int (0 : Int32)), .val (.int (Int32.ofNat cs.length)), .unset, .unset] [(.int (0 : Int32))])) _
    refine XS.iloadN X0.here hx rfl (hb hby dPo_1) rfl ?_
    show Steps p.tables e below (s₁.setTop (mkF m 2 #[.val (.ref t), .val (.int (0 : Int32)), .val (.int (Int32.ofNat cs.length)), .unset, .unset] [(.int (Int32.ofNat cs.length)), (.int (0 : Int32))])) _
    refine XS.iadd X0.here hx rfl (hb hby dPo_2) rfl ?_
    exact Steps.refl _
  rw [Int32.zero_add] at c1
  have c2 : Steps p.tables e below S0 (s₁.setTop (mkF m 7 #[.val (.ref t), .val (.int (0 : Int32)), .val (.int (Int32.ofNat cs.length)), .val (.int (Int32.ofNat cs.length)), .val (.int (0 : Int32))] [])) := by
    refine c1.trans ?_
    show Steps p.tables e below (s₁.setTop (mkF m 3 #[.val (.ref t), .val (.int (0 : Int32)), .val (.int (Int32.ofNat cs.length)), .unset, .unset] [(.int (Int32.ofNat cs.length))])) _
    refine XS.istoreN X0.here hx rfl (hb hby dPo_3) rfl (l' := #[.val (.ref t), .val (.int (0 : Int32)), .val (.int (Int32.ofNat cs.length)), .val (.int (Int32.ofNat cs.length)), .unset]) rfl ?_
    show Steps p.tables e below (s₁.setTop (mkF m 4 #[.val (.ref t), .val (.int (0 : Int32)), .val (.int (Int32.ofNat cs.length)), .val (.int (Int32.ofNat cs.length)), .unset] [])) _
    refine XS.iloadN X0.here hx rfl (hb hby dPo_4) rfl ?_
    show Steps p.tables e below (s₁.setTop (mkF m 5 #[.val (.ref t), .val (.int (0 : Int32)), .val (.int (Int32.ofNat cs.length)), .val (.int (Int32.ofNat cs.length)), .unset] [(.int (0 : Int32))])) _
    refine XS.istore X0.here hx rfl (hb hby dPo_5) rfl (l' := #[.val (.ref t), .val (.int (0 : Int32)), .val (.int (Int32.ofNat cs.length)), .val (.int (Int32.ofNat cs.length)), .val (.int (0 : Int32))]) rfl ?_
    exact Steps.refl _
  have loop : ∀ (k i : Nat), i + k = cs.length → Steps p.tables e below (s₁.setTop (mkF m 7 #[.val (.ref t), .val (.int (0 : Int32)), .val (.int (Int32.ofNat cs.length)), .val (.int (Int32.ofNat cs.length)), .val (.int (Int32.ofNat i))] [])) (s₁.setTop (mkF m 31 #[.val (.ref t), .val (.int (0 : Int32)), .val (.int (Int32.ofNat cs.length)), .val (.int (Int32.ofNat cs.length)), .val (.int (Int32.ofNat cs.length))] [])) := by
    intro k
    induction k with
    | zero =>
      intro i hi
      obtain rfl : i = cs.length := by omega
      have c3 : Steps p.tables e below (s₁.setTop (mkF m 7 #[.val (.ref t), .val (.int (0 : Int32)), .val (.int (Int32.ofNat cs.length)), .val (.int (Int32.ofNat cs.length)), .val (.int (Int32.ofNat cs.length))] [])) (s₁.setTop (mkF m 31 #[.val (.ref t), .val (.int (0 : Int32)), .val (.int (Int32.ofNat cs.length)), .val (.int (Int32.ofNat cs.length)), .val (.int (Int32.ofNat cs.length))] [])) := by
        refine (Steps.refl _).trans ?_
        show Steps p.tables e below (s₁.setTop (mkF m 7 #[.val (.ref t), .val (.int (0 : Int32)), .val (.int (Int32.ofNat cs.length)), .val (.int (Int32.ofNat cs.length)), .val (.int (Int32.ofNat cs.length))] [])) _
        refine XS.iload X0.here hx rfl (hb hby dPo_7) rfl ?_
        show Steps p.tables e below (s₁.setTop (mkF m 9 #[.val (.ref t), .val (.int (0 : Int32)), .val (.int (Int32.ofNat cs.length)), .val (.int (Int32.ofNat cs.length)), .val (.int (Int32.ofNat cs.length))] [(.int (Int32.ofNat cs.length))])) _
        refine XS.iloadN X0.here hx rfl (hb hby dPo_9) rfl ?_
        show Steps p.tables e below (s₁.setTop (mkF m 10 #[.val (.ref t), .val (.int (0 : Int32)), .val (.int (Int32.ofNat cs.length)), .val (.int (Int32.ofNat cs.length)), .val (.int (Int32.ofNat cs.length))] [(.int (Int32.ofNat cs.length)), (.int (Int32.ofNat cs.length))])) _
        refine XS.icmpYes X0.here hx rfl (pc0 := 10) (pc' := 31) rfl (hb hby dPo_10) rfl (flt Int32.lt_irrefl).2.1 (by decide) (by decide) ?_
        exact Steps.refl _
      exact c3
    | succ k ih =>
      intro i hi
      have c4 : Steps p.tables e below (s₁.setTop (mkF m 7 #[.val (.ref t), .val (.int (0 : Int32)), .val (.int (Int32.ofNat cs.length)), .val (.int (Int32.ofNat cs.length)), .val (.int (Int32.ofNat i))] [])) (s₁.setTop (mkF m 13 #[.val (.ref t), .val (.int (0 : Int32)), .val (.int (Int32.ofNat cs.length)), .val (.int (Int32.ofNat cs.length)), .val (.int (Int32.ofNat i))] [])) := by
        refine (Steps.refl _).trans ?_
        show Steps p.tables e below (s₁.setTop (mkF m 7 #[.val (.ref t), .val (.int (0 : Int32)), .val (.int (Int32.ofNat cs.length)), .val (.int (Int32.ofNat cs.length)), .val (.int (Int32.ofNat i))] [])) _
        refine XS.iload X0.here hx rfl (hb hby dPo_7) rfl ?_
        show Steps p.tables e below (s₁.setTop (mkF m 9 #[.val (.ref t), .val (.int (0 : Int32)), .val (.int (Int32.ofNat cs.length)), .val (.int (Int32.ofNat cs.length)), .val (.int (Int32.ofNat i))] [(.int (Int32.ofNat i))])) _
        refine XS.iloadN X0.here hx rfl (hb hby dPo_9) rfl ?_
        show Steps p.tables e below (s₁.setTop (mkF m 10 #[.val (.ref t), .val (.int (0 : Int32)), .val (.int (Int32.ofNat cs.length)), .val (.int (Int32.ofNat cs.length)), .val (.int (Int32.ofNat i))] [(.int (Int32.ofNat cs.length)), (.int (Int32.ofNat i))])) _
        refine XS.icmpNo X0.here hx rfl (hb hby dPo_10) rfl (tlt ((own_ltn (by omega) (by omega)).mpr (by omega))).2.1 ?_
        exact Steps.refl _
      have c5 : Steps p.tables e below (s₁.setTop (mkF m 7 #[.val (.ref t), .val (.int (0 : Int32)), .val (.int (Int32.ofNat cs.length)), .val (.int (Int32.ofNat cs.length)), .val (.int (Int32.ofNat i))] [])) (s₁.setTop (mkF m 16 #[.val (.ref t), .val (.int (0 : Int32)), .val (.int (Int32.ofNat cs.length)), .val (.int (Int32.ofNat cs.length)), .val (.int (Int32.ofNat i))] [(.int (Int32.ofNat i)), (.ref t)])) := by
        refine c4.trans ?_
        show Steps p.tables e below (s₁.setTop (mkF m 13 #[.val (.ref t), .val (.int (0 : Int32)), .val (.int (Int32.ofNat cs.length)), .val (.int (Int32.ofNat cs.length)), .val (.int (Int32.ofNat i))] [])) _
        refine XS.aloadN X0.here hx rfl (hb hby dPo_13) rfl rfl ?_
        show Steps p.tables e below (s₁.setTop (mkF m 14 #[.val (.ref t), .val (.int (0 : Int32)), .val (.int (Int32.ofNat cs.length)), .val (.int (Int32.ofNat cs.length)), .val (.int (Int32.ofNat i))] [(.ref t)])) _
        refine XS.iload X0.here hx rfl (hb hby dPo_14) rfl ?_
        exact Steps.refl _
      obtain ⟨cl6, Ar6, in6, hv6⟩ := own_ld Vt (by omega) (i := i) (by omega) (j := (Int32.ofNat i)) rfl (v := (.int (cs.getD i 0))) (own_by7 hp i)
      have c6 : Steps p.tables e below (s₁.setTop (mkF m 7 #[.val (.ref t), .val (.int (0 : Int32)), .val (.int (Int32.ofNat cs.length)), .val (.int (Int32.ofNat cs.length)), .val (.int (Int32.ofNat i))] [])) (s₁.setTop (mkF m 17 #[.val (.ref t), .val (.int (0 : Int32)), .val (.int (Int32.ofNat cs.length)), .val (.int (Int32.ofNat cs.length)), .val (.int (Int32.ofNat i))] [(.int (cs.getD i 0))])) := by
        refine c5.trans ?_
        show Steps p.tables e below (s₁.setTop (mkF m 16 #[.val (.ref t), .val (.int (0 : Int32)), .val (.int (Int32.ofNat cs.length)), .val (.int (Int32.ofNat cs.length)), .val (.int (Int32.ofNat i))] [(.int (Int32.ofNat i)), (.ref t)])) _
        refine X0.baloadBytes hx (j := (Int32.ofNat i)) (by rw [e0]; exact Ar6.1) (State.isArrayOf_alike hZ.alike Ar6.2.1) Ar6.2.2 in6 hv6 (g := (mkF m 16 #[.val (.ref t), .val (.int (0 : Int32)), .val (.int (Int32.ofNat cs.length)), .val (.int (Int32.ofNat cs.length)), .val (.int (Int32.ofNat i))] [(.int (Int32.ofNat i)), (.ref t)])) rfl rfl (hb hby dPo_16) _ ?_
        exact Steps.refl _
      have c7 : Steps p.tables e below (s₁.setTop (mkF m 7 #[.val (.ref t), .val (.int (0 : Int32)), .val (.int (Int32.ofNat cs.length)), .val (.int (Int32.ofNat cs.length)), .val (.int (Int32.ofNat i))] [])) (s₁.setTop (mkF m 7 #[.val (.ref t), .val (.int (0 : Int32)), .val (.int (Int32.ofNat cs.length)), .val (.int (Int32.ofNat cs.length)), .val (.int ((Int32.ofNat i) + (1 : Int32)))] [])) := by
        refine c6.trans ?_
        show Steps p.tables e below (s₁.setTop (mkF m 17 #[.val (.ref t), .val (.int (0 : Int32)), .val (.int (Int32.ofNat cs.length)), .val (.int (Int32.ofNat cs.length)), .val (.int (Int32.ofNat i))] [(.int (cs.getD i 0))])) _
        refine XS.ifYes X0.here hx rfl (pc0 := 17) (pc' := 25) rfl (hb hby dPo_17) rfl ((if0 _ _).trans (flt (own_get7 hp i).1).2.1) (by decide) (by decide) ?_
        show Steps p.tables e below (s₁.setTop (mkF m 25 #[.val (.ref t), .val (.int (0 : Int32)), .val (.int (Int32.ofNat cs.length)), .val (.int (Int32.ofNat cs.length)), .val (.int (Int32.ofNat i))] [])) _
        refine XS.iinc X0.here hx rfl (hb hby dPo_25) rfl (l' := #[.val (.ref t), .val (.int (0 : Int32)), .val (.int (Int32.ofNat cs.length)), .val (.int (Int32.ofNat cs.length)), .val (.int ((Int32.ofNat i) + (1 : Int32)))]) rfl ?_
        show Steps p.tables e below (s₁.setTop (mkF m 28 #[.val (.ref t), .val (.int (0 : Int32)), .val (.int (Int32.ofNat cs.length)), .val (.int (Int32.ofNat cs.length)), .val (.int ((Int32.ofNat i) + (1 : Int32)))] [])) _
        refine XS.goto X0.here hx rfl (pc0 := 28) (pc' := 7) rfl (hb hby dPo_28) (by decide) (by decide) ?_
        exact Steps.refl _
      rw [show Int32.ofNat i + (1 : Int32) = Int32.ofNat (i + 1) from own_addn (b := 1) (by omega)] at c7
      exact c7.trans (ih (i + 1) (by omega))
  have c8 : Steps p.tables e below S0 (s₁.setTop (mkF m 31 #[.val (.ref t), .val (.int (0 : Int32)), .val (.int (Int32.ofNat cs.length)), .val (.int (Int32.ofNat cs.length)), .val (.int (Int32.ofNat cs.length))] [])) := c2.trans (loop cs.length 0 (by omega))
  have c29 : Steps p.tables e below S0 (s₁.setTop (mkF m 32 #[.val (.ref t), .val (.int (0 : Int32)), .val (.int (Int32.ofNat cs.length)), .val (.int (Int32.ofNat cs.length)), .val (.int (Int32.ofNat cs.length))] [(.int (Int32.ofNat cs.length))])) := by
    refine c8.trans ?_
    show Steps p.tables e below (s₁.setTop (mkF m 31 #[.val (.ref t), .val (.int (0 : Int32)), .val (.int (Int32.ofNat cs.length)), .val (.int (Int32.ofNat cs.length)), .val (.int (Int32.ofNat cs.length))] [])) _
    refine XS.iloadN X0.here hx rfl (hb hby dPo_31) rfl ?_
    exact Steps.refl _
  obtain ⟨fs, hr, hrun, hended, hW, hsame⟩ := X0.leave (v := some (.int (Int32.ofNat cs.length))) (fun h => by rw [Bd.returns] at h; cases h)
  refine ⟨_, _, c29.trans ?_, hrun, hended, _, _, rfl, ?_, ⟨_, rfl⟩, hW, hsame.mono (by decide) (by decide)⟩
  · show Steps p.tables e below (s₁.setTop (mkF m 32 #[.val (.ref t), .val (.int (0 : Int32)), .val (.int (Int32.ofNat cs.length)), .val (.int (Int32.ofNat cs.length)), .val (.int (Int32.ofNat cs.length))] [(.int (Int32.ofNat cs.length))])) _
    exact retI X0 hx Bd.returns (hb hby dPo_32) hr
  · show QPo Z t kt cs h0 n0 _ s₁.heap _
    rw [e0]
    exact ⟨rfl, N0, rfl⟩
def QHn (Z : State) (t : Addr) (kt : ClassId) (cs : List Int32) (h0 : Heap) (n0 : Nat) (v : Option Value) (h : Heap) (L : List Loc) : Prop := v = some (.int 0) ∧ Fr n0 L ∧ h = h0
theorem efHn (m : MethodId) (t : Addr) (cs : List Int32) : entryFrame m #[(.ref t), (.int (0 : Int32)), (.int (Int32.ofNat cs.length))] 3 = mkF m 0 #[.val (.ref t), .val (.int (0 : Int32)), .val (.int (Int32.ofNat cs.length))] [] := by first | (simp [entryFrame, mkF, argsToLocals, Value.category, List.replicate]; done) | rfl
set_option maxRecDepth 65536 in
set_option maxHeartbeats 40000000 in
theorem rmHn (l : Launch) (Z : State) (a0 : Array Value) (hw : ∀ d ∈ tables_1, d.before a0 Z = true) (ws : List Jvm.Cond) (t : Addr) (kt : ClassId) (cs : List Int32) (h0 : Heap) (n0 : Nat) (Z0 : n0 ≤ h0.size) (Vt : Arv Z h0 t kt .byte (Int32.ofNat cs.length) (own_by cs) (.int 0)) (hp : ∀ c ∈ cs, ¬ c < 0 ∧ ¬ (127 : Int32) < c) (hn : cs.length ≤ 100) :
    MetFree l (⟨"java/lang/StringCoding", "hasNegatives", "([BII)Z"⟩ : MethodName) (head1 (Jvm.Cond.code (⟨"java/lang/StringCoding", "hasNegatives", "([BII)Z"⟩ : MethodName) jdk_123_method_2_code 3 (some .boolean) :: ws) ({ frames := 1, cells := 0, slots := 0, locals := 16 } : Room)) (fun aa UU => aa = #[(.ref t), (.int (0 : Int32)), (.int (Int32.ofNat cs.length))] ∧ Z.Warmed39 UU.vm ∧ UU.heap = h0) (fun _ _ _ _ _ => True) (fun _ UU oo UT => ∃ vv LL, oo = .returned vv ∧ QHn Z t kt cs h0 n0 vv UT.heap LL ∧ FrameEnd UU oo UT LL ({ frames := 1, cells := 0, slots := 0, locals := 16 } : Room).cells ({ frames := 1, cells := 0, slots := 0, locals := 16 } : Room).slots) := by
  refine MetFree.of_bodySF (by decide +kernel) hisR ?_
  intro p e s m args below meth c s₁ Bd hml0 hP hK
  obtain ⟨rfl, hZ, hh⟩ := hP
  have hx := Bd.exec
  have hby := Bd.bytes
  have hml : c.maxLocals = 3 := hml0
  have hown : s.vm.findClass "java/lang/StringCoding" = some m.cls := findClass_of_methodNamed Bd.named
  have hnm := (name_of_methodNamed Bd.named Bd.method).1
  have X0 : Stand p l e ({ frames := 1, cells := 0, slots := 0, locals := 16 } : Room) s m #[(.ref t), (.int (0 : Int32)), (.int (Int32.ofNat cs.length))] below meth c s₁ [] 0 0 := Stand.of_body Bd
  have e0 : s₁.heap = h0 := by rw [← hh, Bd.state]; rfl
  have N0 := Fr.nil n0
  have c0 : Steps p.tables e below (s₁.setTop (entryFrame m #[(.ref t), (.int (0 : Int32)), (.int (Int32.ofNat cs.length))] 3)) (s₁.setTop (mkF m 0 #[.val (.ref t), .val (.int (0 : Int32)), .val (.int (Int32.ofNat cs.length))] [])) := castTop (efHn m t cs) (Steps.refl _)
  show ∃ s₂ oo, Steps p.tables e below (s₁.setTop (entryFrame m #[(.ref t), (.int (0 : Int32)), (.int (Int32.ofNat cs.length))] 3)) s₂ ∧ _ ∧ _ ∧ _
  generalize s₁.setTop (entryFrame m #[(.ref t), (.int (0 : Int32)), (.int (Int32.ofNat cs.length))] 3) = S0 at c0 ⊢
  have c1 : Steps p.tables e below S0 (s₁.setTop (mkF m 3 #[.val (.ref t), .val (.int (0 : Int32)), .val (.int (Int32.ofNat cs.length))] [(.int (Int32.ofNat cs.length)), (.int (0 : Int32)), (.ref t)])) := by
    refine c0.trans ?_
    show Steps p.tables e below (s₁.setTop (mkF m 0 #[.val (.ref t), .val (.int (0 : Int32)), .val (.int (Int32.ofNat cs.length))] [])) _
    refine XS.aloadN X0.here hx rfl (hb hby dHn_0) rfl rfl ?_
    show Steps p.tables e below (s₁.setTop (mkF m 1 #[.val (.ref t), .val (.int (0 : Int32)), .val (.int (Int32.ofNat cs.length))] [(.ref t)])) _
    refine XS.iloadN X0.here hx rfl (hb hby dHn_1) rfl ?_
    show Steps p.tables e below (s₁.setTop (mkF m 2 #[.val (.ref t), .val (.int (0 : Int32)), .val (.int (Int32.ofNat cs.length))] [(.int (0 : Int32)), (.ref t)])) _
    refine XS.iloadN X0.here hx rfl (hb hby dHn_2) rfl ?_
    exact Steps.refl _
  obtain ⟨_, _, ⟨T2, L2, k2, n2⟩, -, X2, ⟨Lc2, hQ2, l2, y2, z2⟩, st2⟩ := Jvm.LawKit.callS X0 hx (y := (⟨"java/lang/StringCoding", "countPositives", "([BII)I"⟩ : MethodName)) hown (mvT hZ (hw _ (List.mem_of_getElem? (i := 194) rfl))) (mvT hZ (hw _ (List.mem_of_getElem? (i := 195) rfl))) (mvT hZ (hw _ (List.mem_of_getElem? (i := 192) rfl))) (mvT hZ (hw _ (List.mem_of_getElem? (i := 196) rfl))) (by decide) (backOf (W := 0) (rmPo l Z a0 hw [] t kt cs h0 n0 Z0 Vt hp hn) hZ (hw _ (List.mem_of_getElem? (i := 196) rfl)) (hw _ (List.mem_of_getElem? (i := 192) rfl)) (by decide) (by decide)) (g := (mkF m 3 #[.val (.ref t), .val (.int (0 : Int32)), .val (.int (Int32.ofNat cs.length))] [(.int (Int32.ofNat cs.length)), (.int (0 : Int32)), (.ref t)])) rfl (by rw [hml]; rfl) (argsL := [(.ref t), (.int (0 : Int32)), (.int (Int32.ofNat cs.length))]) (rest := []) (lenOf pd16 rfl) rfl (by show 2 * 0 + _ ≤ _; exact Nat.le_of_eq rfl) (hb hby dHn_3) (fun _ _ => ⟨rfl, e0, (by decide : 0 + 0 ≤ _), (by decide : 0 + 0 ≤ _)⟩)
  dsimp only [Pt.U, Pt.locs, Pt.cells, Pt.slots] at X2 l2 y2 z2 st2 hQ2
  subst l2 y2 z2
  obtain ⟨rfl, N1, e1⟩ := hQ2
  have c2 : Steps p.tables e below S0 (T2.setTop (mkF m 6 #[.val (.ref t), .val (.int (0 : Int32)), .val (.int (Int32.ofNat cs.length))] [(.int (Int32.ofNat cs.length))])) := by
    refine c1.trans ?_
    show Steps p.tables e below (s₁.setTop (mkF m 3 #[.val (.ref t), .val (.int (0 : Int32)), .val (.int (Int32.ofNat cs.length))] [(.int (Int32.ofNat cs.length)), (.int (0 : Int32)), (.ref t)])) _
    refine st2 _ ?_
    exact Steps.refl _
  have c3 : Steps p.tables e below S0 (T2.setTop (mkF m 15 #[.val (.ref t), .val (.int (0 : Int32)), .val (.int (Int32.ofNat cs.length))] [(.int (0 : Int32))])) := by
    refine c2.trans ?_
    show Steps p.tables e below (T2.setTop (mkF m 6 #[.val (.ref t), .val (.int (0 : Int32)), .val (.int (Int32.ofNat cs.length))] [(.int (Int32.ofNat cs.length))])) _
    refine XS.iloadN X2.here hx rfl (hb hby dHn_6) rfl ?_
    show Steps p.tables e below (T2.setTop (mkF m 7 #[.val (.ref t), .val (.int (0 : Int32)), .val (.int (Int32.ofNat cs.length))] [(.int (Int32.ofNat cs.length)), (.int (Int32.ofNat cs.length))])) _
    refine XS.icmpYes X2.here hx rfl (pc0 := 7) (pc' := 14) rfl (hb hby dHn_7) rfl (teq rfl).1 (by decide) (by decide) ?_
    show Steps p.tables e below (T2.setTop (mkF m 14 #[.val (.ref t), .val (.int (0 : Int32)), .val (.int (Int32.ofNat cs.length))] [])) _
    refine XS.iconst X2.here hx rfl (hb hby dHn_14) ?_
    exact Steps.refl _
  obtain ⟨fs, hr, hrun, hended, hW, hsame⟩ := X2.leave (v := some (.int 0)) (fun h => by rw [Bd.returns] at h; cases h)
  refine ⟨_, _, c3.trans ?_, hrun, hended, _, _, rfl, ?_, ⟨_, rfl⟩, hW, hsame.mono (by decide) (by decide)⟩
  · show Steps p.tables e below (T2.setTop (mkF m 15 #[.val (.ref t), .val (.int (0 : Int32)), .val (.int (Int32.ofNat cs.length))] [(.int (0 : Int32))])) _
    exact retN X2 hx (t := .boolean) Bd.returns (by simp) (hb hby dHn_15) hr
  · show QHn Z t kt cs h0 n0 _ T2.heap _
    rw [e1]
    exact ⟨rfl, Fr.app N0 N1, rfl⟩
def QEu (Z : State) (t : Addr) (kt : ClassId) (cs : List Int32) (h0 : Heap) (n0 : Nat) (v : Option Value) (h : Heap) (L : List Loc) : Prop := (∃ (r : Addr) (k : ClassId), v = some (.ref r) ∧ h0.size ≤ r ∧ Arv Z h r k .byte (Int32.ofNat cs.length) (own_by cs) (.int 0)) ∧ Fr n0 L ∧ Keep h0 h []
theorem efEu (m : MethodId) (t : Addr) : entryFrame m #[(.int (0 : Int32)), (.ref t), (.int (1 : Int32))] 9 = mkF m 0 #[.val (.int (0 : Int32)), .val (.ref t), .val (.int (1 : Int32)), .unset, .unset, .unset, .unset, .unset, .unset] [] := by first | (simp [entryFrame, mkF, argsToLocals, Value.category, List.replicate]; done) | rfl
set_option maxRecDepth 65536 in
set_option maxHeartbeats 40000000 in
theorem rmEu (l : Launch) (Z : State) (a0 : Array Value) (hw : ∀ d ∈ tables_1, d.before a0 Z = true) (ws : List Jvm.Cond) (t : Addr) (kt : ClassId) (cs : List Int32) (h0 : Heap) (n0 : Nat) (Z0 : n0 ≤ h0.size) (Vt : Arv Z h0 t kt .byte (Int32.ofNat cs.length) (own_by cs) (.int 0)) (hp : ∀ c ∈ cs, ¬ c < 0 ∧ ¬ (127 : Int32) < c) (hn : cs.length ≤ 100) (Et : Exa Z h0 t "[B") :
    MetFree l (⟨"java/lang/String", "encodeUTF8", "(B[BZ)[B"⟩ : MethodName) (head1 (Jvm.Cond.code (⟨"java/lang/String", "encodeUTF8", "(B[BZ)[B"⟩ : MethodName) jdk_42_method_46_code 9 (some (.array .byte)) :: ws) ({ frames := 2, cells := 1, slots := 100, locals := 30 } : Room)) (fun aa UU => aa = #[(.int (0 : Int32)), (.ref t), (.int (1 : Int32))] ∧ Z.Warmed39 UU.vm ∧ UU.heap = h0) (fun _ _ _ _ _ => True) (fun _ UU oo UT => ∃ vv LL, oo = .returned vv ∧ QEu Z t kt cs h0 n0 vv UT.heap LL ∧ FrameEnd UU oo UT LL ({ frames := 2, cells := 1, slots := 100, locals := 30 } : Room).cells ({ frames := 2, cells := 1, slots := 100, locals := 30 } : Room).slots) := by
  refine MetFree.of_bodySF (by decide +kernel) hisR ?_
  intro p e s m args below meth c s₁ Bd hml0 hP hK
  obtain ⟨rfl, hZ, hh⟩ := hP
  have hx := Bd.exec
  have hby := Bd.bytes
  have hml : c.maxLocals = 9 := hml0
  have hown : s.vm.findClass "java/lang/String" = some m.cls := findClass_of_methodNamed Bd.named
  have hnm := (name_of_methodNamed Bd.named Bd.method).1
  have X0 : Stand p l e ({ frames := 2, cells := 1, slots := 100, locals := 30 } : Room) s m #[(.int (0 : Int32)), (.ref t), (.int (1 : Int32))] below meth c s₁ [] 0 0 := Stand.of_body Bd
  have e0 : s₁.heap = h0 := by rw [← hh, Bd.state]; rfl
  have N0 := Fr.nil n0
  have c0 : Steps p.tables e below (s₁.setTop (entryFrame m #[(.int (0 : Int32)), (.ref t), (.int (1 : Int32))] 9)) (s₁.setTop (mkF m 0 #[.val (.int (0 : Int32)), .val (.ref t), .val (.int (1 : Int32)), .unset, .unset, .unset, .unset, .unset, .unset] [])) := castTop (efEu m t) (Steps.refl _)
  show ∃ s₂ oo, Steps p.tables e below (s₁.setTop (entryFrame m #[(.int (0 : Int32)), (.ref t), (.int (1 : Int32))] 9)) s₂ ∧ _ ∧ _ ∧ _
  generalize s₁.setTop (entryFrame m #[(.int (0 : Int32)), (.ref t), (.int (1 : Int32))] 9) = S0 at c0 ⊢
  obtain ⟨cl, Ar, -, Sz, Mz, -, -⟩ := id Vt
  have c1 : Steps p.tables e below S0 (s₁.setTop (mkF m 11 #[.val (.int (0 : Int32)), .val (.ref t), .val (.int (1 : Int32)), .unset, .unset, .unset, .unset, .unset, .unset] [])) := by
    refine c0.trans ?_
    show Steps p.tables e below (s₁.setTop (mkF m 0 #[.val (.int (0 : Int32)), .val (.ref t), .val (.int (1 : Int32)), .unset, .unset, .unset, .unset, .unset, .unset] [])) _
    refine XS.iloadN X0.here hx rfl (hb hby dEu_0) rfl ?_
    show Steps p.tables e below (s₁.setTop (mkF m 1 #[.val (.int (0 : Int32)), .val (.ref t), .val (.int (1 : Int32)), .unset, .unset, .unset, .unset, .unset, .unset] [(.int (0 : Int32))])) _
    refine XS.iconst X0.here hx rfl (hb hby dEu_1) ?_
    show Steps p.tables e below (s₁.setTop (mkF m 2 #[.val (.int (0 : Int32)), .val (.ref t), .val (.int (1 : Int32)), .unset, .unset, .unset, .unset, .unset, .unset] [(.int (1 : Int32)), (.int (0 : Int32))])) _
    refine XS.icmpYes X0.here hx rfl (pc0 := 2) (pc' := 11) rfl (hb hby dEu_2) rfl (feq (by decide)).2 (by decide) (by decide) ?_
    exact Steps.refl _
  have c2 : Steps p.tables e below S0 (s₁.setTop (mkF m 14 #[.val (.int (0 : Int32)), .val (.ref t), .val (.int (1 : Int32)), .unset, .unset, .unset, .unset, .unset, .unset] [(.ref t), (.int (0 : Int32)), (.ref t)])) := by
    refine c1.trans ?_
    show Steps p.tables e below (s₁.setTop (mkF m 11 #[.val (.int (0 : Int32)), .val (.ref t), .val (.int (1 : Int32)), .unset, .unset, .unset, .unset, .unset, .unset] [])) _
    refine XS.aloadN X0.here hx rfl (hb hby dEu_11) rfl rfl ?_
    show Steps p.tables e below (s₁.setTop (mkF m 12 #[.val (.int (0 : Int32)), .val (.ref t), .val (.int (1 : Int32)), .unset, .unset, .unset, .unset, .unset, .unset] [(.ref t)])) _
    refine XS.iconst X0.here hx rfl (hb hby dEu_12) ?_
    show Steps p.tables e below (s₁.setTop (mkF m 13 #[.val (.int (0 : Int32)), .val (.ref t), .val (.int (1 : Int32)), .unset, .unset, .unset, .unset, .unset, .unset] [(.int (0 : Int32)), (.ref t)])) _
    refine XS.aloadN X0.here hx rfl (hb hby dEu_13) rfl rfl ?_
    exact Steps.refl _
  have c3 : Steps p.tables e below S0 (s₁.setTop (mkF m 15 #[.val (.int (0 : Int32)), .val (.ref t), .val (.int (1 : Int32)), .unset, .unset, .unset, .unset, .unset, .unset] [(.int (Int32.ofNat cs.length)), (.int (0 : Int32)), (.ref t)])) := by
    refine c2.trans ?_
    show Steps p.tables e below (s₁.setTop (mkF m 14 #[.val (.int (0 : Int32)), .val (.ref t), .val (.int (1 : Int32)), .unset, .unset, .unset, .unset, .unset, .unset] [(.ref t), (.int (0 : Int32)), (.ref t)])) _
    refine X0.arraylength hx (by rw [e0]; exact Ar.1) (State.isArrayOf_alike hZ.alike Ar.2.1) (g := (mkF m 14 #[.val (.int (0 : Int32)), .val (.ref t), .val (.int (1 : Int32)), .unset, .unset, .unset, .unset, .unset, .unset] [(.ref t), (.int (0 : Int32)), (.ref t)])) rfl rfl (hb hby dEu_14) _ ?_
    rw [len_of Sz Mz]
    exact Steps.refl _
  obtain ⟨_, _, ⟨T4, L4, k4, n4⟩, -, X4, ⟨Lc4, hQ4, l4, y4, z4⟩, st4⟩ := Jvm.LawKit.callS X0 hx (y := (⟨"java/lang/StringCoding", "hasNegatives", "([BII)Z"⟩ : MethodName)) hown (mvT hZ (hw _ (List.mem_of_getElem? (i := 190) rfl))) (mvT hZ (hw _ (List.mem_of_getElem? (i := 191) rfl))) (mvT hZ (hw _ (List.mem_of_getElem? (i := 192) rfl))) (mvT hZ (hw _ (List.mem_of_getElem? (i := 193) rfl))) (by decide) (backOf (W := 0) (rmHn l Z a0 hw [] t kt cs h0 n0 Z0 Vt hp hn) hZ (hw _ (List.mem_of_getElem? (i := 193) rfl)) (hw _ (List.mem_of_getElem? (i := 192) rfl)) (by decide) (by decide)) (g := (mkF m 15 #[.val (.int (0 : Int32)), .val (.ref t), .val (.int (1 : Int32)), .unset, .unset, .unset, .unset, .unset, .unset] [(.int (Int32.ofNat cs.length)), (.int (0 : Int32)), (.ref t)])) rfl (by rw [hml]; rfl) (argsL := [(.ref t), (.int (0 : Int32)), (.int (Int32.ofNat cs.length))]) (rest := []) (lenOf pd17 rfl) rfl (by show 2 * 0 + _ ≤ _; exact Nat.le_of_eq rfl) (hb hby dEu_15) (fun _ _ => ⟨rfl, e0, (by decide : 0 + 0 ≤ _), (by decide : 0 + 0 ≤ _)⟩)
  dsimp only [Pt.U, Pt.locs, Pt.cells, Pt.slots] at X4 l4 y4 z4 st4 hQ4
  subst l4 y4 z4
  obtain ⟨rfl, N1, e1⟩ := hQ4
  have c4 : Steps p.tables e below S0 (T4.setTop (mkF m 18 #[.val (.int (0 : Int32)), .val (.ref t), .val (.int (1 : Int32)), .unset, .unset, .unset, .unset, .unset, .unset] [(.int (0 : Int32))])) := by
    refine c3.trans ?_
    show Steps p.tables e below (s₁.setTop (mkF m 15 #[.val (.int (0 : Int32)), .val (.ref t), .val (.int (1 : Int32)), .unset, .unset, .unset, .unset, .unset, .unset] [(.int (Int32.ofNat cs.length)), (.int (0 : Int32)), (.ref t)])) _
    refine st4 _ ?_
    exact Steps.refl _
  have c5 : Steps p.tables e below S0 (T4.setTop (mkF m 21 #[.val (.int (0 : Int32)), .val (.ref t), .val (.int (1 : Int32)), .unset, .unset, .unset, .unset, .unset, .unset] [])) := by
    refine c4.trans ?_
    show Steps p.tables e below (T4.setTop (mkF m 18 #[.val (.int (0 : Int32)), .val (.ref t), .val (.int (1 : Int32)), .unset, .unset, .unset, .unset, .unset, .unset] [(.int (0 : Int32))])) _
    refine XS.ifNo X4.here hx rfl (hb hby dEu_18) rfl ((if0 _ _).trans (teq rfl).2) ?_
    exact Steps.refl _
  have c6 : Steps p.tables e below S0 (T4.setTop (mkF m 22 #[.val (.int (0 : Int32)), .val (.ref t), .val (.int (1 : Int32)), .unset, .unset, .unset, .unset, .unset, .unset] [(.ref t)])) := by
    refine c5.trans ?_
    show Steps p.tables e below (T4.setTop (mkF m 21 #[.val (.int (0 : Int32)), .val (.ref t), .val (.int (1 : Int32)), .unset, .unset, .unset, .unset, .unset, .unset] [])) _
    refine XS.aloadN X4.here hx rfl (hb hby dEu_21) rfl rfl ?_
    exact Steps.refl _
  obtain ⟨T7, h7, X7, e7, E7, V7, A7x, st7⟩ := own_cloneV X4 hx hZ hown (hw _ (List.mem_of_getElem? (i := 197) rfl)) (hw _ (List.mem_of_getElem? (i := 198) rfl)) (hw _ (List.mem_of_getElem? (i := 202) rfl)) (hw _ (List.mem_of_getElem? (i := 200) rfl)) (hw _ (List.mem_of_getElem? (i := 201) rfl)) (hw _ (List.mem_of_getElem? (i := 203) rfl)) e1 Vt Et (g := (mkF m 22 #[.val (.int (0 : Int32)), .val (.ref t), .val (.int (1 : Int32)), .unset, .unset, .unset, .unset, .unset, .unset] [(.ref t)])) rfl (by rw [hml]; rfl) rfl (hb hby dEu_22) (by decide) (W := 0) (cap := 100) (by show 2 * 0 + _ ≤ _; exact Nat.le_of_eq rfl) (by decide) (by rw [own_nat (by omega)]; omega) (by decide) (by decide)
  obtain ⟨b7, g7⟩ : ∃ z, z = h0.size := ⟨_, rfl⟩
  rw [← g7] at V7 A7x st7
  have c7 : Steps p.tables e below S0 (T7.setTop (mkF m 25 #[.val (.int (0 : Int32)), .val (.ref t), .val (.int (1 : Int32)), .unset, .unset, .unset, .unset, .unset, .unset] [(.ref b7)])) := by
    refine c6.trans ?_
    show Steps p.tables e below (T4.setTop (mkF m 22 #[.val (.int (0 : Int32)), .val (.ref t), .val (.int (1 : Int32)), .unset, .unset, .unset, .unset, .unset, .unset] [(.ref t)])) _
    refine st7 _ ?_
    exact Steps.refl _
  obtain ⟨T8, X8, e8, st8⟩ := castY X7 hx hZ hown (hw _ (List.mem_of_getElem? (i := 204) rfl)) e7 (Ins.self A7x) (g := (mkF m 25 #[.val (.int (0 : Int32)), .val (.ref t), .val (.int (1 : Int32)), .unset, .unset, .unset, .unset, .unset, .unset] [(.ref b7)])) rfl rfl (hb hby dEu_25)
  have c8 : Steps p.tables e below S0 (T8.setTop (mkF m 28 #[.val (.int (0 : Int32)), .val (.ref t), .val (.int (1 : Int32)), .unset, .unset, .unset, .unset, .unset, .unset] [(.ref b7)])) := by
    refine c7.trans ?_
    show Steps p.tables e below (T7.setTop (mkF m 25 #[.val (.int (0 : Int32)), .val (.ref t), .val (.int (1 : Int32)), .unset, .unset, .unset, .unset, .unset, .unset] [(.ref b7)])) _
    refine st8 _ ?_
    exact Steps.refl _
  obtain ⟨fs, hr, hrun, hended, hW, hsame⟩ := X8.leave (v := some (.ref b7)) (fun h => by rw [Bd.returns] at h; cases h)
  refine ⟨_, _, c8.trans ?_, hrun, hended, _, _, rfl, ?_, ⟨_, rfl⟩, hW, hsame.mono (by decide) (by decide)⟩
  · show Steps p.tables e below (T8.setTop (mkF m 28 #[.val (.int (0 : Int32)), .val (.ref t), .val (.int (1 : Int32)), .unset, .unset, .unset, .unset, .unset, .unset] [(.ref b7)])) _
    exact retA X8 hx Bd.returns rfl rfl (hb hby dEu_28) hr
  · show QEu Z t kt cs h0 n0 _ T8.heap _
    rw [e8]
    exact ⟨⟨_, _, rfl, Nat.le_of_eq g7.symm, V7⟩, Fr.app N0 N1, (Keep.refl h0 []).ext E7⟩
def QEn (Z : State) (cu : Addr) (t : Addr) (kt : ClassId) (cs : List Int32) (h0 : Heap) (n0 : Nat) (v : Option Value) (h : Heap) (L : List Loc) : Prop := (∃ (r : Addr) (k : ClassId), v = some (.ref r) ∧ h0.size ≤ r ∧ Arv Z h r k .byte (Int32.ofNat cs.length) (own_by cs) (.int 0)) ∧ Fr n0 L ∧ Keep h0 h []
theorem efEn (m : MethodId) (cu : Addr) (t : Addr) : entryFrame m #[(.ref cu), (.int (0 : Int32)), (.ref t)] 3 = mkF m 0 #[.val (.ref cu), .val (.int (0 : Int32)), .val (.ref t)] [] := by first | (simp [entryFrame, mkF, argsToLocals, Value.category, List.replicate]; done) | rfl
set_option maxRecDepth 65536 in
set_option maxHeartbeats 40000000 in
theorem rmEn (l : Launch) (Z : State) (a0 : Array Value) (hw : ∀ d ∈ tables_1, d.before a0 Z = true) (ws : List Jvm.Cond) (cu : Addr) (t : Addr) (kt : ClassId) (cs : List Int32) (h0 : Heap) (n0 : Nat) (Z0 : n0 ≤ h0.size) (Su : Sta Z Z.heap "sun/nio/cs/UTF_8" "INSTANCE" "Lsun/nio/cs/UTF_8;" (.ref cu)) (X00 : Old Z n0 h0) (Vt : Arv Z h0 t kt .byte (Int32.ofNat cs.length) (own_by cs) (.int 0)) (hp : ∀ c ∈ cs, ¬ c < 0 ∧ ¬ (127 : Int32) < c) (hn : cs.length ≤ 100) (Et : Exa Z h0 t "[B") :
    MetFree l (⟨"java/lang/String", "encode", "(Ljava/nio/charset/Charset;B[B)[B"⟩ : MethodName) (head1 (Jvm.Cond.code (⟨"java/lang/String", "encode", "(Ljava/nio/charset/Charset;B[B)[B"⟩ : MethodName) jdk_42_method_18_code 3 (some (.array .byte)) :: ws) ({ frames := 3, cells := 1, slots := 100, locals := 52 } : Room)) (fun aa UU => aa = #[(.ref cu), (.int (0 : Int32)), (.ref t)] ∧ Z.Warmed39 UU.vm ∧ UU.heap = h0) (fun _ _ _ _ _ => True) (fun _ UU oo UT => ∃ vv LL, oo = .returned vv ∧ QEn Z cu t kt cs h0 n0 vv UT.heap LL ∧ FrameEnd UU oo UT LL ({ frames := 3, cells := 1, slots := 100, locals := 52 } : Room).cells ({ frames := 3, cells := 1, slots := 100, locals := 52 } : Room).slots) := by
  refine MetFree.of_bodySF (by decide +kernel) hisR ?_
  intro p e s m args below meth c s₁ Bd hml0 hP hK
  obtain ⟨rfl, hZ, hh⟩ := hP
  have hx := Bd.exec
  have hby := Bd.bytes
  have hml : c.maxLocals = 3 := hml0
  have hown : s.vm.findClass "java/lang/String" = some m.cls := findClass_of_methodNamed Bd.named
  have hnm := (name_of_methodNamed Bd.named Bd.method).1
  have X0 : Stand p l e ({ frames := 3, cells := 1, slots := 100, locals := 52 } : Room) s m #[(.ref cu), (.int (0 : Int32)), (.ref t)] below meth c s₁ [] 0 0 := Stand.of_body Bd
  have e0 : s₁.heap = h0 := by rw [← hh, Bd.state]; rfl
  have N0 := Fr.nil n0
  have c0 : Steps p.tables e below (s₁.setTop (entryFrame m #[(.ref cu), (.int (0 : Int32)), (.ref t)] 3)) (s₁.setTop (mkF m 0 #[.val (.ref cu), .val (.int (0 : Int32)), .val (.ref t)] [])) := castTop (efEn m cu t) (Steps.refl _)
  show ∃ s₂ oo, Steps p.tables e below (s₁.setTop (entryFrame m #[(.ref cu), (.int (0 : Int32)), (.ref t)] 3)) s₂ ∧ _ ∧ _ ∧ _
  generalize s₁.setTop (entryFrame m #[(.ref cu), (.int (0 : Int32)), (.ref t)] 3) = S0 at c0 ⊢
  have c1 : Steps p.tables e below S0 (s₁.setTop (mkF m 1 #[.val (.ref cu), .val (.int (0 : Int32)), .val (.ref t)] [(.ref cu)])) := by
    refine c0.trans ?_
    show Steps p.tables e below (s₁.setTop (mkF m 0 #[.val (.ref cu), .val (.int (0 : Int32)), .val (.ref t)] [])) _
    refine XS.aloadN X0.here hx rfl (hb hby dEn_0) rfl rfl ?_
    exact Steps.refl _
  obtain ⟨T2, X2, e2, st2⟩ := getS X0 hx hZ hown (host := "") (hw _ (List.mem_of_getElem? (i := 185) rfl)) Via.refl e0 (Su.ext X00.2) (g := (mkF m 1 #[.val (.ref cu), .val (.int (0 : Int32)), .val (.ref t)] [(.ref cu)])) rfl (hb hby dEn_1)
  have c2 : Steps p.tables e below S0 (T2.setTop (mkF m 4 #[.val (.ref cu), .val (.int (0 : Int32)), .val (.ref t)] [(.ref cu), (.ref cu)])) := by
    refine c1.trans ?_
    show Steps p.tables e below (s₁.setTop (mkF m 1 #[.val (.ref cu), .val (.int (0 : Int32)), .val (.ref t)] [(.ref cu)])) _
    refine st2 _ ?_
    exact Steps.refl _
  have c3 : Steps p.tables e below S0 (T2.setTop (mkF m 7 #[.val (.ref cu), .val (.int (0 : Int32)), .val (.ref t)] [])) := by
    refine c2.trans ?_
    show Steps p.tables e below (T2.setTop (mkF m 4 #[.val (.ref cu), .val (.int (0 : Int32)), .val (.ref t)] [(.ref cu), (.ref cu)])) _
    refine Jvm.RoadKit.acmp (g := (mkF m 4 #[.val (.ref cu), .val (.int (0 : Int32)), .val (.ref t)] [(.ref cu), (.ref cu)])) X2 hx rfl rfl rfl (pc0 := 4) (pc' := 7) (same := true) rfl (hb hby dEn_4) rfl (by simp) (by decide) (by decide) ?_
    exact Steps.refl _
  have c4 : Steps p.tables e below S0 (T2.setTop (mkF m 10 #[.val (.ref cu), .val (.int (0 : Int32)), .val (.ref t)] [(.int (1 : Int32)), (.ref t), (.int (0 : Int32))])) := by
    refine c3.trans ?_
    show Steps p.tables e below (T2.setTop (mkF m 7 #[.val (.ref cu), .val (.int (0 : Int32)), .val (.ref t)] [])) _
    refine XS.iloadN X2.here hx rfl (hb hby dEn_7) rfl ?_
    show Steps p.tables e below (T2.setTop (mkF m 8 #[.val (.ref cu), .val (.int (0 : Int32)), .val (.ref t)] [(.int (0 : Int32))])) _
    refine XS.aloadN X2.here hx rfl (hb hby dEn_8) rfl rfl ?_
    show Steps p.tables e below (T2.setTop (mkF m 9 #[.val (.ref cu), .val (.int (0 : Int32)), .val (.ref t)] [(.ref t), (.int (0 : Int32))])) _
    refine XS.iconst X2.here hx rfl (hb hby dEn_9) ?_
    exact Steps.refl _
  obtain ⟨_, _, ⟨T5, L5, k5, n5⟩, -, X5, ⟨Lc5, hQ5, l5, y5, z5⟩, st5⟩ := Jvm.LawKit.callS X2 hx (y := (⟨"java/lang/String", "encodeUTF8", "(B[BZ)[B"⟩ : MethodName)) hown (mvT hZ (hw _ (List.mem_of_getElem? (i := 187) rfl))) (mvT hZ (hw _ (List.mem_of_getElem? (i := 188) rfl))) (mvT hZ (hw _ (List.mem_of_getElem? (i := 7) rfl))) (mvT hZ (hw _ (List.mem_of_getElem? (i := 189) rfl))) (by decide) (backOf (W := 0) (rmEu l Z a0 hw [] t kt cs h0 n0 Z0 Vt hp hn Et) hZ (hw _ (List.mem_of_getElem? (i := 189) rfl)) (hw _ (List.mem_of_getElem? (i := 7) rfl)) (by decide) (by decide)) (g := (mkF m 10 #[.val (.ref cu), .val (.int (0 : Int32)), .val (.ref t)] [(.int (1 : Int32)), (.ref t), (.int (0 : Int32))])) rfl (by rw [hml]; rfl) (argsL := [(.int (0 : Int32)), (.ref t), (.int (1 : Int32))]) (rest := []) (lenOf pd18 rfl) rfl (by show 2 * 0 + _ ≤ _; exact Nat.le_of_eq rfl) (hb hby dEn_10) (fun _ _ => ⟨rfl, e2, (by decide : 0 + 1 ≤ _), (by decide : 0 + 100 ≤ _)⟩)
  dsimp only [Pt.U, Pt.locs, Pt.cells, Pt.slots] at X5 l5 y5 z5 st5 hQ5
  subst l5 y5 z5
  obtain ⟨⟨r, k, rfl, zr, Vr⟩, N1, K1⟩ := hQ5
  have c5 : Steps p.tables e below S0 (T5.setTop (mkF m 13 #[.val (.ref cu), .val (.int (0 : Int32)), .val (.ref t)] [(.ref r)])) := by
    refine c4.trans ?_
    show Steps p.tables e below (T2.setTop (mkF m 10 #[.val (.ref cu), .val (.int (0 : Int32)), .val (.ref t)] [(.int (1 : Int32)), (.ref t), (.int (0 : Int32))])) _
    refine st5 _ ?_
    exact Steps.refl _
  obtain ⟨fs, hr, hrun, hended, hW, hsame⟩ := X5.leave (v := some (.ref r)) (fun h => by rw [Bd.returns] at h; cases h)
  refine ⟨_, _, c5.trans ?_, hrun, hended, _, _, rfl, ?_, ⟨_, rfl⟩, hW, hsame.mono (by decide) (by decide)⟩
  · show Steps p.tables e below (T5.setTop (mkF m 13 #[.val (.ref cu), .val (.int (0 : Int32)), .val (.ref t)] [(.ref r)])) _
    exact retA X5 hx Bd.returns rfl rfl (hb hby dEn_13) hr
  · show QEn Z cu t kt cs h0 n0 _ T5.heap _
    exact ⟨⟨_, _, rfl, zr, Vr⟩, Fr.app N0 N1, K1⟩
def QGc (Z : State) (a : Addr) (ta : Addr) (cs : List Int32) (cu : Addr) (G1 : Int32) (h0 : Heap) (n0 : Nat) (v : Option Value) (h : Heap) (L : List Loc) : Prop := (∃ (r : Addr) (k : ClassId), v = some (.ref r) ∧ h0.size ≤ r ∧ Arv Z h r k .byte (Int32.ofNat cs.length) (own_by cs) (.int 0)) ∧ Fr n0 L ∧ Keep h0 h []
theorem efGc (m : MethodId) (a : Addr) (cu : Addr) : entryFrame m #[(.ref a), (.ref cu)] 2 = mkF m 0 #[.val (.ref a), .val (.ref cu)] [] := by first | (simp [entryFrame, mkF, argsToLocals, Value.category, List.replicate]; done) | rfl
set_option maxRecDepth 65536 in
set_option maxHeartbeats 40000000 in
theorem rmGc (l : Launch) (Z : State) (a0 : Array Value) (hw : ∀ d ∈ tables_1, d.before a0 Z = true) (ws : List Jvm.Cond) (a : Addr) (ta : Addr) (cs : List Int32) (cu : Addr) (G1 : Int32) (h0 : Heap) (n0 : Nat) (Z0 : n0 ≤ h0.size) (O2 : Sta Z Z.heap "java/lang/String" "COMPACT_STRINGS" "Z" (.int G1)) (P5 : ¬ G1 = 0) (X00 : Old Z n0 h0) (Su : Sta Z Z.heap "sun/nio/cs/UTF_8" "INSTANCE" "Lsun/nio/cs/UTF_8;" (.ref cu)) (S : own_Str Z h0 a ta cs) (hp : ∀ c ∈ cs, ¬ c < 0 ∧ ¬ (127 : Int32) < c) (hn : cs.length ≤ 100) (Et : Exa Z h0 ta "[B") :
    MetFree l (⟨"java/lang/String", "getBytes", "(Ljava/nio/charset/Charset;)[B"⟩ : MethodName) (head1 (Jvm.Cond.code (⟨"java/lang/String", "getBytes", "(Ljava/nio/charset/Charset;)[B"⟩ : MethodName) jdk_42_method_64_code 2 (some (.array .byte)) :: ws) ({ frames := 4, cells := 1, slots := 100, locals := 68 } : Room)) (fun aa UU => aa = #[(.ref a), (.ref cu)] ∧ Z.Warmed39 UU.vm ∧ UU.heap = h0) (fun _ _ _ _ _ => True) (fun _ UU oo UT => ∃ vv LL, oo = .returned vv ∧ QGc Z a ta cs cu G1 h0 n0 vv UT.heap LL ∧ FrameEnd UU oo UT LL ({ frames := 4, cells := 1, slots := 100, locals := 68 } : Room).cells ({ frames := 4, cells := 1, slots := 100, locals := 68 } : Room).slots) := by
  refine MetFree.of_bodySF (by decide +kernel) hisR ?_
  intro p e s m args below meth c s₁ Bd hml0 hP hK
  obtain ⟨rfl, hZ, hh⟩ := hP
  have hx := Bd.exec
  have hby := Bd.bytes
  have hml : c.maxLocals = 2 := hml0
  have hown : s.vm.findClass "java/lang/String" = some m.cls := findClass_of_methodNamed Bd.named
  have hnm := (name_of_methodNamed Bd.named Bd.method).1
  have X0 : Stand p l e ({ frames := 4, cells := 1, slots := 100, locals := 68 } : Room) s m #[(.ref a), (.ref cu)] below meth c s₁ [] 0 0 := Stand.of_body Bd
  have e0 : s₁.heap = h0 := by rw [← hh, Bd.state]; rfl
  have N0 := Fr.nil n0
  have c0 : Steps p.tables e below (s₁.setTop (entryFrame m #[(.ref a), (.ref cu)] 2)) (s₁.setTop (mkF m 0 #[.val (.ref a), .val (.ref cu)] [])) := castTop (efGc m a cu) (Steps.refl _)
  show ∃ s₂ oo, Steps p.tables e below (s₁.setTop (entryFrame m #[(.ref a), (.ref cu)] 2)) s₂ ∧ _ ∧ _ ∧ _
  generalize s₁.setTop (entryFrame m #[(.ref a), (.ref cu)] 2) = S0 at c0 ⊢
  have c1 : Steps p.tables e below S0 (s₁.setTop (mkF m 12 #[.val (.ref a), .val (.ref cu)] [])) := by
    refine c0.trans ?_
    show Steps p.tables e below (s₁.setTop (mkF m 0 #[.val (.ref a), .val (.ref cu)] [])) _
    refine XS.aloadN X0.here hx rfl (hb hby dGc_0) rfl rfl ?_
    show Steps p.tables e below (s₁.setTop (mkF m 1 #[.val (.ref a), .val (.ref cu)] [(.ref cu)])) _
    refine XS.ifnonnullYes X0.here hx rfl (pc0 := 1) (pc' := 12) rfl (hb hby dGc_1) rfl (by decide) (by decide) ?_
    exact Steps.refl _
  have c2 : Steps p.tables e below S0 (s₁.setTop (mkF m 14 #[.val (.ref a), .val (.ref cu)] [(.ref a), (.ref cu)])) := by
    refine c1.trans ?_
    show Steps p.tables e below (s₁.setTop (mkF m 12 #[.val (.ref a), .val (.ref cu)] [])) _
    refine XS.aloadN X0.here hx rfl (hb hby dGc_12) rfl rfl ?_
    show Steps p.tables e below (s₁.setTop (mkF m 13 #[.val (.ref a), .val (.ref cu)] [(.ref cu)])) _
    refine XS.aloadN X0.here hx rfl (hb hby dGc_13) rfl rfl ?_
    exact Steps.refl _
  obtain ⟨cq3, kq3, q3a, q3b, q3c⟩ := isOf hZ e0 S.1
  obtain ⟨_, _, ⟨T3, L3, k3, n3⟩, -, X3, ⟨Lc3, hQ3, l3, y3, z3⟩, st3⟩ := X0.virtualBack hx (y := (⟨"java/lang/String", "coder", "()B"⟩ : MethodName)) (z := (⟨"java/lang/String", "coder", "()B"⟩ : MethodName)) hown (mvT hZ (hw _ (List.mem_of_getElem? (i := 63) rfl))) (mvT hZ (hw _ (List.mem_of_getElem? (i := 64) rfl))) (notFace_of_selects (args := #[]) (mvT hZ (hw _ (List.mem_of_getElem? (i := 66) rfl)))) (mvT hZ (hw _ (List.mem_of_getElem? (i := 66) rfl))) (mvT hZ (hw _ (List.mem_of_getElem? (i := 65) rfl))) (by decide) (backOf (W := 1) (rmCo l Z a0 hw [] a G1 h0 n0 Z0 O2 P5 X00 S.2.1) hZ (hw _ (List.mem_of_getElem? (i := 67) rfl)) (hw _ (List.mem_of_getElem? (i := 7) rfl)) (by decide) (by decide)) q3a q3c (g := (mkF m 14 #[.val (.ref a), .val (.ref cu)] [(.ref a), (.ref cu)])) rfl (by rw [hml]; rfl) (Steps.refl _) (argsL := []) (rest := [(.ref cu)]) (lenOf pd0 rfl) rfl (by show 2 * 0 + _ ≤ _; exact Nat.le_of_eq rfl) (hb hby dGc_14) (fun _ _ => ⟨rfl, e0, (by decide : 0 + 0 ≤ _), (by decide : 0 + 0 ≤ _)⟩)
  dsimp only [Pt.U, Pt.locs, Pt.cells, Pt.slots] at X3 l3 y3 z3 st3 hQ3
  subst l3 y3 z3
  obtain ⟨rfl, N1, e1⟩ := hQ3
  have c3 : Steps p.tables e below S0 (T3.setTop (mkF m 17 #[.val (.ref a), .val (.ref cu)] [(.int (0 : Int32)), (.ref cu)])) := by
    refine c2.trans ?_
    show Steps p.tables e below (s₁.setTop (mkF m 14 #[.val (.ref a), .val (.ref cu)] [(.ref a), (.ref cu)])) _
    refine st3.trans ?_
    exact Steps.refl _
  have c4 : Steps p.tables e below S0 (T3.setTop (mkF m 18 #[.val (.ref a), .val (.ref cu)] [(.ref a), (.int (0 : Int32)), (.ref cu)])) := by
    refine c3.trans ?_
    show Steps p.tables e below (T3.setTop (mkF m 17 #[.val (.ref a), .val (.ref cu)] [(.int (0 : Int32)), (.ref cu)])) _
    refine XS.aloadN X3.here hx rfl (hb hby dGc_17) rfl rfl ?_
    exact Steps.refl _
  obtain ⟨T5, X5, e5, st5⟩ := getF X3 hx hZ hown (host := "") (Or.inl (hw _ (List.mem_of_getElem? (i := 24) rfl))) Via.refl e1 S.2.2.1 (g := (mkF m 18 #[.val (.ref a), .val (.ref cu)] [(.ref a), (.int (0 : Int32)), (.ref cu)])) rfl rfl (hb hby dGc_18)
  have c5 : Steps p.tables e below S0 (T5.setTop (mkF m 21 #[.val (.ref a), .val (.ref cu)] [(.ref ta), (.int (0 : Int32)), (.ref cu)])) := by
    refine c4.trans ?_
    show Steps p.tables e below (T3.setTop (mkF m 18 #[.val (.ref a), .val (.ref cu)] [(.ref a), (.int (0 : Int32)), (.ref cu)])) _
    refine st5 _ ?_
    exact Steps.refl _
  obtain ⟨_, _, ⟨T6, L6, k6, n6⟩, -, X6, ⟨Lc6, hQ6, l6, y6, z6⟩, st6⟩ := Jvm.LawKit.callS X5 hx (y := (⟨"java/lang/String", "encode", "(Ljava/nio/charset/Charset;B[B)[B"⟩ : MethodName)) hown (mvT hZ (hw _ (List.mem_of_getElem? (i := 182) rfl))) (mvT hZ (hw _ (List.mem_of_getElem? (i := 183) rfl))) (mvT hZ (hw _ (List.mem_of_getElem? (i := 7) rfl))) (mvT hZ (hw _ (List.mem_of_getElem? (i := 184) rfl))) (by decide) (backOf (W := 0) (rmEn l Z a0 hw [] cu ta _ cs h0 n0 Z0 Su X00 S.2.2.2.1.choose_spec hp hn Et) hZ (hw _ (List.mem_of_getElem? (i := 184) rfl)) (hw _ (List.mem_of_getElem? (i := 7) rfl)) (by decide) (by decide)) (g := (mkF m 21 #[.val (.ref a), .val (.ref cu)] [(.ref ta), (.int (0 : Int32)), (.ref cu)])) rfl (by rw [hml]; rfl) (argsL := [(.ref cu), (.int (0 : Int32)), (.ref ta)]) (rest := []) (lenOf pd19 rfl) rfl (by show 2 * 0 + _ ≤ _; exact Nat.le_of_eq rfl) (hb hby dGc_21) (fun _ _ => ⟨rfl, e5, (by decide : 0 + 1 ≤ _), (by decide : 0 + 100 ≤ _)⟩)
  dsimp only [Pt.U, Pt.locs, Pt.cells, Pt.slots] at X6 l6 y6 z6 st6 hQ6
  subst l6 y6 z6
  obtain ⟨⟨r, k, rfl, zr, Vr⟩, N2, K2⟩ := hQ6
  have c6 : Steps p.tables e below S0 (T6.setTop (mkF m 24 #[.val (.ref a), .val (.ref cu)] [(.ref r)])) := by
    refine c5.trans ?_
    show Steps p.tables e below (T5.setTop (mkF m 21 #[.val (.ref a), .val (.ref cu)] [(.ref ta), (.int (0 : Int32)), (.ref cu)])) _
    refine st6 _ ?_
    exact Steps.refl _
  obtain ⟨fs, hr, hrun, hended, hW, hsame⟩ := X6.leave (v := some (.ref r)) (fun h => by rw [Bd.returns] at h; cases h)
  refine ⟨_, _, c6.trans ?_, hrun, hended, _, _, rfl, ?_, ⟨_, rfl⟩, hW, hsame.mono (by decide) (by decide)⟩
  · show Steps p.tables e below (T6.setTop (mkF m 24 #[.val (.ref a), .val (.ref cu)] [(.ref r)])) _
    exact retA X6 hx Bd.returns rfl rfl (hb hby dGc_24) hr
  · show QGc Z a ta cs cu G1 h0 n0 _ T6.heap _
    exact ⟨⟨_, _, rfl, zr, Vr⟩, Fr.app (Fr.app N0 N1) N2, K2⟩
def QBy (Z : State) (o : Addr) (b : Addr) (t : Addr) (cap : Nat) (cs : List Int32) (cu : Addr) (G1 : Int32) (h0 : Heap) (n0 : Nat) (v : Option Value) (h : Heap) (L : List Loc) : Prop := (∃ (r : Addr) (k : ClassId), v = some (.ref r) ∧ h0.size ≤ r ∧ Arv Z h r k .byte (Int32.ofNat cs.length) (own_by cs) (.int 0)) ∧ Fr n0 L ∧ Keep h0 h []
theorem efBy (m : MethodId) (o : Addr) : entryFrame m #[(.ref o)] 1 = mkF m 0 #[.val (.ref o)] [] := by first | (simp [entryFrame, mkF, argsToLocals, Value.category, List.replicate]; done) | rfl
set_option maxRecDepth 65536 in
set_option maxHeartbeats 40000000 in
theorem rmBy (l : Launch) (Z : State) (a0 : Array Value) (hw : ∀ d ∈ tables_1, d.before a0 Z = true) (ws : List Jvm.Cond) (o : Addr) (b : Addr) (t : Addr) (cap : Nat) (cs : List Int32) (cu : Addr) (G1 : Int32) (h0 : Heap) (n0 : Nat) (Z0 : n0 ≤ h0.size) (O2 : Sta Z Z.heap "java/lang/String" "COMPACT_STRINGS" "Z" (.int G1)) (P5 : ¬ G1 = 0) (X00 : Old Z n0 h0) (Su : Sta Z Z.heap "sun/nio/cs/UTF_8" "INSTANCE" "Lsun/nio/cs/UTF_8;" (.ref cu)) (Su2 : Sta Z Z.heap "java/nio/charset/StandardCharsets" "UTF_8" "Ljava/nio/charset/Charset;" (.ref cu)) (Fo : Fld Z h0 o "com/example/waybill/waybill/board/Html" "out" "Ljava/lang/StringBuilder;" (.ref b)) (B : own_SB Z h0 b t cap cs) (hp : ∀ c ∈ cs, ¬ c < 0 ∧ ¬ (127 : Int32) < c) (hn : cs.length ≤ 100) (hlt : cs.length < cap) :
    MetFree l (⟨"com/example/waybill/waybill/board/Html", "bytes", "()[B"⟩ : MethodName) (head1 (Jvm.Cond.code (⟨"com/example/waybill/waybill/board/Html", "bytes", "()[B"⟩ : MethodName) prog_22_method_8_code 1 (some (.array .byte)) :: ws) ({ frames := 6, cells := 3, slots := 204, locals := 118 } : Room)) (fun aa UU => aa = #[(.ref o)] ∧ Z.Warmed39 UU.vm ∧ UU.heap = h0) (fun _ _ _ _ _ => True) (fun _ UU oo UT => ∃ vv LL, oo = .returned vv ∧ QBy Z o b t cap cs cu G1 h0 n0 vv UT.heap LL ∧ FrameEnd UU oo UT LL ({ frames := 6, cells := 3, slots := 204, locals := 118 } : Room).cells ({ frames := 6, cells := 3, slots := 204, locals := 118 } : Room).slots) := by
  refine MetFree.of_bodySF (plainFor_of_name pn0) hisR ?_
  intro p e s m args below meth c s₁ Bd hml0 hP hK
  obtain ⟨rfl, hZ, hh⟩ := hP
  have hx := Bd.exec
  have hby := Bd.bytes
  have hml : c.maxLocals = 1 := hml0
  have hown : s.vm.findClass "com/example/waybill/waybill/board/Html" = some m.cls := findClass_of_methodNamed Bd.named
  have hnm := (name_of_methodNamed Bd.named Bd.method).1
  have X0 : Stand p l e ({ frames := 6, cells := 3, slots := 204, locals := 118 } : Room) s m #[(.ref o)] below meth c s₁ [] 0 0 := Stand.of_body Bd
  have e0 : s₁.heap = h0 := by rw [← hh, Bd.state]; rfl
  have N0 := Fr.nil n0
  have c0 : Steps p.tables e below (s₁.setTop (entryFrame m #[(.ref o)] 1)) (s₁.setTop (mkF m 0 #[.val (.ref o)] [])) := castTop (efBy m o) (Steps.refl _)
  show ∃ s₂ oo, Steps p.tables e below (s₁.setTop (entryFrame m #[(.ref o)] 1)) s₂ ∧ _ ∧ _ ∧ _
  generalize s₁.setTop (entryFrame m #[(.ref o)] 1) = S0 at c0 ⊢
  have c1 : Steps p.tables e below S0 (s₁.setTop (mkF m 1 #[.val (.ref o)] [(.ref o)])) := by
    refine c0.trans ?_
    show Steps p.tables e below (s₁.setTop (mkF m 0 #[.val (.ref o)] [])) _
    refine XS.aloadN X0.here hx rfl (hb hby dBy_0) rfl rfl ?_
    exact Steps.refl _
  obtain ⟨T2, X2, e2, st2⟩ := getF X0 hx hZ hown (host := "") (Or.inl (hw _ (List.mem_of_getElem? (i := 115) rfl))) Via.refl e0 Fo (g := (mkF m 1 #[.val (.ref o)] [(.ref o)])) rfl rfl (hb hby dBy_1)
  have c2 : Steps p.tables e below S0 (T2.setTop (mkF m 4 #[.val (.ref o)] [(.ref b)])) := by
    refine c1.trans ?_
    show Steps p.tables e below (s₁.setTop (mkF m 1 #[.val (.ref o)] [(.ref o)])) _
    refine st2 _ ?_
    exact Steps.refl _
  obtain ⟨cq3, kq3, q3a, q3b, q3c⟩ := isOf hZ e2 B.1
  obtain ⟨_, _, ⟨T3, L3, k3, n3⟩, -, X3, ⟨Lc3, hQ3, l3, y3, z3⟩, st3⟩ := X2.virtualBack hx (y := (⟨"java/lang/StringBuilder", "toString", "()Ljava/lang/String;"⟩ : MethodName)) (z := (⟨"java/lang/StringBuilder", "toString", "()Ljava/lang/String;"⟩ : MethodName)) hown (mvT hZ (hw _ (List.mem_of_getElem? (i := 130) rfl))) (mvT hZ (hw _ (List.mem_of_getElem? (i := 131) rfl))) (notFace_of_selects (args := #[]) (mvT hZ (hw _ (List.mem_of_getElem? (i := 133) rfl)))) (mvT hZ (hw _ (List.mem_of_getElem? (i := 133) rfl))) (mvT hZ (hw _ (List.mem_of_getElem? (i := 132) rfl))) (by decide) (backOf (W := 0) (rmTs l Z a0 hw [] b t cap cs G1 h0 n0 Z0 O2 P5 X00 B hn hlt) hZ (hw _ (List.mem_of_getElem? (i := 134) rfl)) (hw _ (List.mem_of_getElem? (i := 46) rfl)) (by decide) (by decide)) q3a q3c (g := (mkF m 4 #[.val (.ref o)] [(.ref b)])) rfl (by rw [hml]; rfl) (Steps.refl _) (argsL := []) (rest := []) (lenOf pd20 rfl) rfl (by show 2 * 0 + _ ≤ _; exact Nat.le_of_eq rfl) (hb hby dBy_4) (fun _ _ => ⟨rfl, e2, (by decide : 0 + 2 ≤ _), (by decide : 0 + 104 ≤ _)⟩)
  dsimp only [Pt.U, Pt.locs, Pt.cells, Pt.slots] at X3 l3 y3 z3 st3 hQ3
  subst l3 y3 z3
  obtain ⟨⟨a, t2, rfl, za, Sa, Ea2⟩, N1, K1⟩ := hQ3
  have c3 : Steps p.tables e below S0 (T3.setTop (mkF m 7 #[.val (.ref o)] [(.ref a)])) := by
    refine c2.trans ?_
    show Steps p.tables e below (T2.setTop (mkF m 4 #[.val (.ref o)] [(.ref b)])) _
    refine st3.trans ?_
    exact Steps.refl _
  have X01 := X00.keep K1 (fun x hx => by cases hx)
  obtain ⟨T4, X4, e4, st4⟩ := getS X3 hx hZ hown (host := "") (hw _ (List.mem_of_getElem? (i := 175) rfl)) Via.refl rfl (Su2.ext X01.2) (g := (mkF m 7 #[.val (.ref o)] [(.ref a)])) rfl (hb hby dBy_7)
  have c4 : Steps p.tables e below S0 (T4.setTop (mkF m 10 #[.val (.ref o)] [(.ref cu), (.ref a)])) := by
    refine c3.trans ?_
    show Steps p.tables e below (T3.setTop (mkF m 7 #[.val (.ref o)] [(.ref a)])) _
    refine st4 _ ?_
    exact Steps.refl _
  obtain ⟨cq5, kq5, q5a, q5b, q5c⟩ := isOf hZ e4 Sa.1
  obtain ⟨_, _, ⟨T5, L5, k5, n5⟩, -, X5, ⟨Lc5, hQ5, l5, y5, z5⟩, st5⟩ := X4.virtualBack hx (y := (⟨"java/lang/String", "getBytes", "(Ljava/nio/charset/Charset;)[B"⟩ : MethodName)) (z := (⟨"java/lang/String", "getBytes", "(Ljava/nio/charset/Charset;)[B"⟩ : MethodName)) hown (mvT hZ (hw _ (List.mem_of_getElem? (i := 177) rfl))) (mvT hZ (hw _ (List.mem_of_getElem? (i := 178) rfl))) (notFace_of_selects (args := #[]) (mvT hZ (hw _ (List.mem_of_getElem? (i := 180) rfl)))) (mvT hZ (hw _ (List.mem_of_getElem? (i := 180) rfl))) (mvT hZ (hw _ (List.mem_of_getElem? (i := 179) rfl))) (by decide) (backOf (W := 0) (rmGc l Z a0 hw [] a t2 cs cu G1 T3.heap n0 (Nat.le_trans Z0 K1.1) O2 P5 X01 Su Sa hp hn Ea2) hZ (hw _ (List.mem_of_getElem? (i := 181) rfl)) (hw _ (List.mem_of_getElem? (i := 7) rfl)) (by decide) (by decide)) q5a q5c (g := (mkF m 10 #[.val (.ref o)] [(.ref cu), (.ref a)])) rfl (by rw [hml]; rfl) (Steps.refl _) (argsL := [(.ref cu)]) (rest := []) (lenOf pd21 rfl) rfl (by show 2 * 0 + _ ≤ _; exact Nat.le_of_eq rfl) (hb hby dBy_10) (fun _ _ => ⟨rfl, e4, (by decide : 2 + 1 ≤ _), (by decide : 104 + 100 ≤ _)⟩)
  dsimp only [Pt.U, Pt.locs, Pt.cells, Pt.slots] at X5 l5 y5 z5 st5 hQ5
  subst l5 y5 z5
  obtain ⟨⟨r, k, rfl, zr, Vr⟩, N2, K2⟩ := hQ5
  have c5 : Steps p.tables e below S0 (T5.setTop (mkF m 13 #[.val (.ref o)] [(.ref r)])) := by
    refine c4.trans ?_
    show Steps p.tables e below (T4.setTop (mkF m 10 #[.val (.ref o)] [(.ref cu), (.ref a)])) _
    refine st5.trans ?_
    exact Steps.refl _
  obtain ⟨fs, hr, hrun, hended, hW, hsame⟩ := X5.leave (v := some (.ref r)) (fun h => by rw [Bd.returns] at h; cases h)
  refine ⟨_, _, c5.trans ?_, hrun, hended, _, _, rfl, ?_, ⟨_, rfl⟩, hW, hsame.mono (by decide) (by decide)⟩
  · show Steps p.tables e below (T5.setTop (mkF m 13 #[.val (.ref o)] [(.ref r)])) _
    exact retA X5 hx Bd.returns rfl rfl (hb hby dBy_13) hr
  · show QBy Z o b t cap cs cu G1 h0 n0 _ T5.heap _
    exact ⟨⟨_, _, rfl, Nat.le_trans K1.1 zr, Vr⟩, Fr.app (Fr.app N0 N1) N2, K1.trans K2 (fun x hx => by cases hx)⟩
def QHi (Z : State) (o : Addr) (G1 : Int32) (h0 : Heap) (n0 : Nat) (v : Option Value) (h : Heap) (L : List Loc) : Prop := v = none ∧ Fr n0 L ∧ Keep h0 h [o] ∧ ∃ b t : Addr, h0.size ≤ b ∧ h0.size ≤ t ∧ Fld Z h o "com/example/waybill/waybill/board/Html" "out" "Ljava/lang/StringBuilder;" (.ref b) ∧ own_SB Z h b t 32 ([60, 33, 68, 79, 67, 84, 89, 80, 69, 32, 104, 116, 109, 108, 62, 10] : List Int32)
theorem efHi (m : MethodId) (o : Addr) : entryFrame m #[(.ref o)] 1 = mkF m 0 #[.val (.ref o)] [] := by first | (simp [entryFrame, mkF, argsToLocals, Value.category, List.replicate]; done) | rfl
set_option maxRecDepth 65536 in
set_option maxHeartbeats 40000000 in
theorem rmHi (l : Launch) (Z : State) (a0 : Array Value) (hw : ∀ d ∈ tables_1, d.before a0 Z = true) (ws : List Jvm.Cond) (o : Addr) (G1 : Int32) (h0 : Heap) (n0 : Nat) (Z0 : n0 ≤ h0.size) (O2 : Sta Z Z.heap "java/lang/String" "COMPACT_STRINGS" "Z" (.int G1)) (P5 : ¬ G1 = 0) (X00 : Old Z n0 h0) (Eo : Exa Z h0 o "com/example/waybill/waybill/board/Html") (Fo : Fld Z h0 o "com/example/waybill/waybill/board/Html" "out" "Ljava/lang/StringBuilder;" .null) (go : n0 ≤ o) :
    MetFree l (⟨"com/example/waybill/waybill/board/Html", "<init>", "()V"⟩ : MethodName) (head1 (Jvm.Cond.code (⟨"com/example/waybill/waybill/board/Html", "<init>", "()V"⟩ : MethodName) prog_22_method_1_code 1 none :: ws) ({ frames := 10, cells := 4, slots := 138, locals := 164 } : Room)) (fun aa UU => aa = #[(.ref o)] ∧ Z.Warmed39 UU.vm ∧ UU.heap = h0 ∧ CHv Z consts_1 UU.vm h0 ∧ ∀ x ∈ ([] : List Addr), Safe Z consts_1 UU.vm h0 x) (fun _ _ _ _ _ => True) (fun _ UU oo UT => ∃ vv LL, oo = .returned vv ∧ QHi Z o G1 h0 n0 vv UT.heap LL ∧ CHr Z consts_1 UU.vm UU.heap UT.vm UT.heap ∧ ReturnedEndW UU oo UT LL ({ frames := 10, cells := 4, slots := 138, locals := 164 } : Room).cells ({ frames := 10, cells := 4, slots := 138, locals := 164 } : Room).slots) := by
  refine MetFree.of_bodySF (plainFor_of_name pn0) hisR ?_
  intro p e s m args below meth c s₁ Bd hml0 hP hK
  obtain ⟨rfl, hZ, hh, hC, hX⟩ := hP
  have hx := Bd.exec
  have hby := Bd.bytes
  have hml : c.maxLocals = 1 := hml0
  have hown : s.vm.findClass "com/example/waybill/waybill/board/Html" = some m.cls := findClass_of_methodNamed Bd.named
  have hnm := (name_of_methodNamed Bd.named Bd.method).1
  have X0 : Stand p l e ({ frames := 10, cells := 4, slots := 138, locals := 164 } : Room) s m #[(.ref o)] below meth c s₁ [] 0 0 := Stand.of_body Bd
  have e0 : s₁.heap = h0 := by rw [← hh, Bd.state]; rfl
  have N0 := Fr.nil n0
  have c0 : Steps p.tables e below (s₁.setTop (entryFrame m #[(.ref o)] 1)) (s₁.setTop (mkF m 0 #[.val (.ref o)] [])) := castTop (efHi m o) (Steps.refl _)
  show ∃ s₂ oo, Steps p.tables e below (s₁.setTop (entryFrame m #[(.ref o)] 1)) s₂ ∧ _ ∧ _ ∧ _
  generalize s₁.setTop (entryFrame m #[(.ref o)] 1) = S0 at c0 ⊢
  obtain ⟨V0, hV0⟩ : ∃ V, V = s.vm := ⟨_, rfl⟩
  have Xs : Stand p l e ({ frames := 10, cells := 4, slots := 138, locals := 164 } : Room) (s.setVm V0) m #[(.ref o)] below meth c s₁ [] 0 0 := by subst hV0; exact X0
  have hS : s.Since V0 h0.size := by subst hV0; exact (State.WarmedH.refl s).since _
  replace hZ : Z.Warmed39 (s.setVm V0).vm := by subst hV0; exact hZ
  replace hown : (s.setVm V0).vm.findClass "com/example/waybill/waybill/board/Html" = some m.cls := by subst hV0; exact hown
  have hk : h0.size ≤ h0.size := Nat.le_refl _
  have Zh := Z0
  have hR : CHr Z consts_1 V0 h0 V0 h0 := by subst hV0; exact CHr.refl hC
  have hEL := own_EW hw
  have c1 : Steps p.tables e below S0 (s₁.setTop (mkF m 1 #[.val (.ref o)] [(.ref o)])) := by
    refine c0.trans ?_
    show Steps p.tables e below (s₁.setTop (mkF m 0 #[.val (.ref o)] [])) _
    refine XS.aloadN Xs.here hx rfl (hb hby dHi_0) rfl rfl ?_
    exact Steps.refl _
  obtain ⟨T2, X2, e2, st2⟩ := initO Xs hx hZ hown (hw _ (List.mem_of_getElem? (i := 43) rfl)) (hw _ (List.mem_of_getElem? (i := 16) rfl)) (hw _ (List.mem_of_getElem? (i := 17) rfl)) e0 (g := (mkF m 1 #[.val (.ref o)] [(.ref o)])) rfl (by rw [hml]; rfl) rfl (hb hby dHi_1) (by decide) (W := 0) (by show 2 * 0 + _ ≤ _; exact Nat.le_of_eq rfl) (by decide)
  have c2 : Steps p.tables e below S0 (T2.setTop (mkF m 4 #[.val (.ref o)] [])) := by
    refine c1.trans ?_
    show Steps p.tables e below (s₁.setTop (mkF m 1 #[.val (.ref o)] [(.ref o)])) _
    refine st2 _ ?_
    exact Steps.refl _
  have c3 : Steps p.tables e below S0 (T2.setTop (mkF m 5 #[.val (.ref o)] [(.ref o)])) := by
    refine c2.trans ?_
    show Steps p.tables e below (T2.setTop (mkF m 4 #[.val (.ref o)] [])) _
    refine XS.aloadN X2.here hx rfl (hb hby dHi_4) rfl rfl ?_
    exact Steps.refl _
  obtain ⟨T4, h4, X4, e4, E4, A4, D4, -, st4⟩ := newO X2 hx hZ hown (hw _ (List.mem_of_getElem? (i := 44) rfl)) (hw _ (List.mem_of_getElem? (i := 45) rfl)) (hw _ (List.mem_of_getElem? (i := 46) rfl)) e2 (g := (mkF m 5 #[.val (.ref o)] [(.ref o)])) rfl (hb hby dHi_5) (by decide) (by decide)
  obtain ⟨b4, g4⟩ : ∃ z, z = h0.size := ⟨_, rfl⟩
  rw [← g4] at A4 D4 st4
  have c4 : Steps p.tables e below S0 (T4.setTop (mkF m 8 #[.val (.ref o)] [(.ref b4), (.ref o)])) := by
    refine c3.trans ?_
    show Steps p.tables e below (T2.setTop (mkF m 5 #[.val (.ref o)] [(.ref o)])) _
    refine st4 _ ?_
    exact Steps.refl _
  have Sf_b4 := Safe.ext E4 hR.1 (Safe.new (Nat.le_of_eq g4.symm))
  have gb4 : n0 ≤ b4 := Nat.le_trans Zh (Nat.le_of_eq g4.symm)
  have hRs4 := CHr.ext E4 hR.1
  have hR := hR.trans hRs4
  have Zh := Nat.le_trans Zh E4.1
  have hk := Nat.le_trans hk E4.1
  have zb : h0.size ≤ b4 := Nat.le_of_eq g4.symm
  have hKp := (Keep.refl h0 [o]).ext E4
  have Gv : Fld Z h4 b4 "java/lang/AbstractStringBuilder" "value" "[B" .null := D4 (Or.inl (hw _ (List.mem_of_getElem? (i := 73) rfl))) (ty := (.array .byte)) (by decide)
  have Gc : Fld Z h4 b4 "java/lang/AbstractStringBuilder" "coder" "B" (.int 0) := D4 (Or.inl (hw _ (List.mem_of_getElem? (i := 71) rfl))) (ty := .byte) (by decide)
  have Gn : Fld Z h4 b4 "java/lang/AbstractStringBuilder" "count" "I" (.int 0) := D4 (Or.inl (hw _ (List.mem_of_getElem? (i := 89) rfl))) (ty := .int) (by decide)
  have c5 : Steps p.tables e below S0 (T4.setTop (mkF m 9 #[.val (.ref o)] [(.ref b4), (.ref b4), (.ref o)])) := by
    refine c4.trans ?_
    show Steps p.tables e below (T4.setTop (mkF m 8 #[.val (.ref o)] [(.ref b4), (.ref o)])) _
    refine XS.dup X4.here hx rfl (hb hby dHi_8) rfl rfl ?_
    exact Steps.refl _
  obtain ⟨q6, T6, h6, k6, r6, kq6, X6, e6, E6, hS, hk, hZ, hown, Xq6, Fc6, Fv6, Vq6, ql6, rl6, hCs6, -, -, st6⟩ := ldcCH X4 hx hZ hown (hw _ (List.mem_of_getElem? (i := 47) rfl)) (own_wS hw) e4 hS hk hEL (by decide) hR.1 (vs := [(.int (60)), (.int (33)), (.int (68)), (.int (79)), (.int (67)), (.int (84)), (.int (89)), (.int (80)), (.int (69)), (.int (32)), (.int (104)), (.int (116)), (.int (109)), (.int (108)), (.int (62)), (.int (10))]) (z := 16) (by decide +kernel) (by decide) (by decide) (g := (mkF m 9 #[.val (.ref o)] [(.ref b4), (.ref b4), (.ref o)])) rfl (hb hby dHi_9) (n := 64) (by decide) (by decide) (by decide) (by decide)
  have hR := hR.trans hCs6
  have c6 : Steps p.tables e below S0 (T6.setTop (mkF m 11 #[.val (.ref o)] [(.ref q6), (.ref b4), (.ref b4), (.ref o)])) := by
    refine c5.trans ?_
    show Steps p.tables e below (T4.setTop (mkF m 9 #[.val (.ref o)] [(.ref b4), (.ref b4), (.ref o)])) _
    refine st6 _ ?_
    exact Steps.refl _
  have Zh := Nat.le_trans Zh E6.1
  have hKp := hKp.ext E6
  have Sl : own_Str Z h6 q6 r6 ([60, 33, 68, 79, 67, 84, 89, 80, 69, 32, 104, 116, 109, 108, 62, 10] : List Int32) := ⟨Xq6, Fc6, Fv6, ⟨_, Vq6⟩, by decide, by decide⟩
  have Ab := A4.ext E6
  obtain ⟨_, _, ⟨T7, L7, k7, n7⟩, -, X7, ⟨Lc7, hQ7, l7, y7, z7⟩, st7⟩ := X6.specialBack hx (y := (⟨"java/lang/StringBuilder", "<init>", "(Ljava/lang/String;)V"⟩ : MethodName)) rfl hown (mvT hZ (hw _ (List.mem_of_getElem? (i := 48) rfl))) (mvT hZ (hw _ (List.mem_of_getElem? (i := 49) rfl))) (mvT hZ (hw _ (List.mem_of_getElem? (i := 50) rfl))) (by decide) (backOf (W := 2) (rmSj l Z a0 hw [] b4 q6 r6 ([60, 33, 68, 79, 67, 84, 89, 80, 69, 32, 104, 116, 109, 108, 62, 10] : List Int32) G1 h6 n0 Zh O2 P5 (X00.keep hKp (fun x hx => by cases List.mem_singleton.mp hx; exact go)) Ab (Gv.ext E6) (Gc.ext E6) (Gn.ext E6) gb4 Sl (by decide)) hZ (hw _ (List.mem_of_getElem? (i := 50) rfl)) (hw _ (List.mem_of_getElem? (i := 46) rfl)) (by decide) (by decide)) (g := (mkF m 11 #[.val (.ref o)] [(.ref q6), (.ref b4), (.ref b4), (.ref o)])) rfl (by rw [hml]; rfl) (Steps.refl _) (a := b4) (argsL := [(.ref q6)]) (rest := [(.ref b4), (.ref o)]) (lenOf pd1 rfl) rfl (by show 2 * 0 + _ ≤ _; exact Nat.le_of_eq rfl) (hb hby dHi_11) (fun _ _ => ⟨rfl, e6, (by decide : 3 + 1 ≤ _), (by decide : 72 + 66 ≤ _)⟩)
  dsimp only [Pt.U, Pt.locs, Pt.cells, Pt.slots] at X7 l7 y7 z7 st7 hQ7
  subst l7 y7 z7
  obtain ⟨rfl, N1, K1, t, zt, B⟩ := hQ7
  have c7 : Steps p.tables e below S0 (T7.setTop (mkF m 14 #[.val (.ref o)] [(.ref b4), (.ref o)])) := by
    refine c6.trans ?_
    show Steps p.tables e below (T6.setTop (mkF m 11 #[.val (.ref o)] [(.ref q6), (.ref b4), (.ref b4), (.ref o)])) _
    refine st7.trans ?_
    exact Steps.refl _
  have zt0 : h0.size ≤ t := Nat.le_trans hKp.1 zt
  have nob : o ≠ b4 := Nat.ne_of_lt (Nat.lt_of_lt_of_le Eo.lt zb)
  have not_ : o ≠ t := Nat.ne_of_lt (Nat.lt_of_lt_of_le Eo.lt zt0)
  have hRs7 := CHr.keep K1 (fun x hx => by cases List.mem_singleton.mp hx; exact Safe.exa hZ.alike Ab (by decide) (by decide)) hR.1
  have hR := hR.trans hRs7
  have Zh := Nat.le_trans Zh K1.1
  have hk := Nat.le_trans hk K1.1
  have Eo1 := ((Eo.ext E4).ext E6).keep K1
  have Fo1 := ((Fo.ext E4).ext E6).keep K1 (fun z => nob (List.mem_singleton.mp z))
  have hKp := hKp.trans K1 (fun x hx => by cases List.mem_singleton.mp hx; exact Or.inr zb)
  obtain ⟨T8, h8, X8, e8, W8, st8⟩ := putF X7 hx hZ hown (host := "") (Or.inl (hw _ (List.mem_of_getElem? (i := 115) rfl))) Via.refl rfl Fo1 Eo1 (Or.inr ⟨(hw _ (List.mem_of_getElem? (i := 116) rfl)), rfl, hnm⟩) (hw _ (List.mem_of_getElem? (i := 38) rfl)) (ty := (.object "java/lang/StringBuilder")) (by decide) rfl rfl (g := (mkF m 14 #[.val (.ref o)] [(.ref b4), (.ref o)])) rfl rfl (hb hby dHi_14)
  have c8 : Steps p.tables e below S0 (T8.setTop (mkF m 17 #[.val (.ref o)] [])) := by
    refine c7.trans ?_
    show Steps p.tables e below (T7.setTop (mkF m 14 #[.val (.ref o)] [(.ref b4), (.ref o)])) _
    refine st8 _ ?_
    exact Steps.refl _
  have Nb := Fr.snoc X8 (Fr.app N0 N1) go
  have hRs8 := CHr.wr W8 (Safe.exa hZ.alike Eo1 (by decide) (by decide)) hR.1
  have hR := hR.trans hRs8
  have Zh := Nat.le_trans Zh (Nat.le_of_eq (own_wsz W8).symm)
  have hk := Nat.le_trans hk (Nat.le_of_eq (own_wsz W8).symm)
  obtain ⟨y1, y2, y3, y4, ⟨ky, y5, y6⟩, y7⟩ := B
  have Bf : own_SB Z h8 b4 t 32 ([60, 33, 68, 79, 67, 84, 89, 80, 69, 32, 104, 116, 109, 108, 62, 10] : List Int32) := ⟨y1.wr W8, y2.other W8 (Or.inl nob.symm), y3.other W8 (Or.inl nob.symm), y4.other W8 (Or.inl nob.symm), ⟨ky, y5.other W8 not_.symm, y6.wr W8⟩, y7⟩
  obtain ⟨fs, hr, hrun, hended, hW⟩ := X8.leaveW hS (by rw [e8]; exact hk) (v := none) (fun _ => rfl)
  refine ⟨_, _, c8.trans ?_, hrun, hended, _, _, rfl, ?_, ?_, hW.1, hW.2.1, hW.2.2.1, hW.2.2.2.mono (by decide) (by decide)⟩
  · show Steps p.tables e below (T8.setTop (mkF m 17 #[.val (.ref o)] [])) _
    exact X8.returnOut hx Bd.returns (hb hby dHi_17) hr
  · show QHi Z o G1 h0 n0 _ T8.heap _
    rw [e8]
    exact ⟨rfl, Nb, hKp.wr W8 (Or.inl (List.mem_of_getElem? (i := 0) rfl)), b4, t, zb, zt0, Fo1.same W8, Bf⟩
  · show CHr Z consts_1 s.vm s.heap T8.vm T8.heap
    rw [hh, e8, ← hV0]
    exact hR.trans (CHv.at X8 hZ hEL hR.1)
def QHc (Z : State) (o : Addr) (b : Addr) (t : Addr) (cs : List Int32) (a : Addr) (ta : Addr) (ds : List Int32) (G1 : Int32) (h0 : Heap) (n0 : Nat) (v : Option Value) (h : Heap) (L : List Loc) : Prop := v = some (.ref o) ∧ Fr n0 L ∧ own_SB Z h b t 32 (((cs ++ ([60, 47] : List Int32)) ++ ds) ++ ([62, 10] : List Int32)) ∧ Keep h0 h [b, t]
theorem efHc (m : MethodId) (o : Addr) (a : Addr) : entryFrame m #[(.ref o), (.ref a)] 2 = mkF m 0 #[.val (.ref o), .val (.ref a)] [] := by first | (simp [entryFrame, mkF, argsToLocals, Value.category, List.replicate]; done) | rfl
set_option maxRecDepth 65536 in
set_option maxHeartbeats 40000000 in
theorem rmHc (l : Launch) (Z : State) (a0 : Array Value) (hw : ∀ d ∈ tables_1, d.before a0 Z = true) (ws : List Jvm.Cond) (o : Addr) (b : Addr) (t : Addr) (cs : List Int32) (a : Addr) (ta : Addr) (ds : List Int32) (G1 : Int32) (h0 : Heap) (n0 : Nat) (Z0 : n0 ≤ h0.size) (O2 : Sta Z Z.heap "java/lang/String" "COMPACT_STRINGS" "Z" (.int G1)) (P5 : ¬ G1 = 0) (X00 : Old Z n0 h0) (Fo : Fld Z h0 o "com/example/waybill/waybill/board/Html" "out" "Ljava/lang/StringBuilder;" (.ref b)) (B : own_SB Z h0 b t 32 cs) (S : own_Str Z h0 a ta ds) (hc : cs.length + ds.length + 4 ≤ 32) (gb : n0 ≤ b) (gt : n0 ≤ t) (nta : ta ≠ t) :
    MetFree l (⟨"com/example/waybill/waybill/board/Html", "close", "(Ljava/lang/String;)Lcom/example/waybill/waybill/board/Html;"⟩ : MethodName) (head1 (Jvm.Cond.code (⟨"com/example/waybill/waybill/board/Html", "close", "(Ljava/lang/String;)Lcom/example/waybill/waybill/board/Html;"⟩ : MethodName) prog_22_method_4_code 2 (some (.object "com/example/waybill/waybill/board/Html")) :: ws) ({ frames := 7, cells := 4, slots := 24, locals := 112 } : Room)) (fun aa UU => aa = #[(.ref o), (.ref a)] ∧ Z.Warmed39 UU.vm ∧ UU.heap = h0 ∧ CHv Z consts_1 UU.vm h0 ∧ ∀ x ∈ ([] : List Addr), Safe Z consts_1 UU.vm h0 x) (fun _ _ _ _ _ => True) (fun _ UU oo UT => ∃ vv LL, oo = .returned vv ∧ QHc Z o b t cs a ta ds G1 h0 n0 vv UT.heap LL ∧ CHr Z consts_1 UU.vm UU.heap UT.vm UT.heap ∧ ReturnedEndW UU oo UT LL ({ frames := 7, cells := 4, slots := 24, locals := 112 } : Room).cells ({ frames := 7, cells := 4, slots := 24, locals := 112 } : Room).slots) := by
  refine MetFree.of_bodySF (plainFor_of_name pn0) hisR ?_
  intro p e s m args below meth c s₁ Bd hml0 hP hK
  obtain ⟨rfl, hZ, hh, hC, hX⟩ := hP
  have hx := Bd.exec
  have hby := Bd.bytes
  have hml : c.maxLocals = 2 := hml0
  have hown : s.vm.findClass "com/example/waybill/waybill/board/Html" = some m.cls := findClass_of_methodNamed Bd.named
  have hnm := (name_of_methodNamed Bd.named Bd.method).1
  have X0 : Stand p l e ({ frames := 7, cells := 4, slots := 24, locals := 112 } : Room) s m #[(.ref o), (.ref a)] below meth c s₁ [] 0 0 := Stand.of_body Bd
  have e0 : s₁.heap = h0 := by rw [← hh, Bd.state]; rfl
  have N0 := Fr.nil n0
  have c0 : Steps p.tables e below (s₁.setTop (entryFrame m #[(.ref o), (.ref a)] 2)) (s₁.setTop (mkF m 0 #[.val (.ref o), .val (.ref a)] [])) := castTop (efHc m o a) (Steps.refl _)
  show ∃ s₂ oo, Steps p.tables e below (s₁.setTop (entryFrame m #[(.ref o), (.ref a)] 2)) s₂ ∧ _ ∧ _ ∧ _
  generalize s₁.setTop (entryFrame m #[(.ref o), (.ref a)] 2) = S0 at c0 ⊢
  obtain ⟨V0, hV0⟩ : ∃ V, V = s.vm := ⟨_, rfl⟩
  have Xs : Stand p l e ({ frames := 7, cells := 4, slots := 24, locals := 112 } : Room) (s.setVm V0) m #[(.ref o), (.ref a)] below meth c s₁ [] 0 0 := by subst hV0; exact X0
  have hS : s.Since V0 h0.size := by subst hV0; exact (State.WarmedH.refl s).since _
  replace hZ : Z.Warmed39 (s.setVm V0).vm := by subst hV0; exact hZ
  replace hown : (s.setVm V0).vm.findClass "com/example/waybill/waybill/board/Html" = some m.cls := by subst hV0; exact hown
  have hk : h0.size ≤ h0.size := Nat.le_refl _
  have Zh := Z0
  have hR : CHr Z consts_1 V0 h0 V0 h0 := by subst hV0; exact CHr.refl hC
  have hEL := own_EW hw
  have Nf := N0
  have hKp := Keep.refl h0 [b, t]
  have na : a ∉ [b, t] := fun q => by simp only [List.mem_cons, List.not_mem_nil, or_false] at q; exact q.elim (fun q => B.1.ne S.1 (by decide) q.symm) (fun q => S.1.neArv B.2.2.2.2.1.choose_spec.1 (hw _ (List.mem_of_getElem? (i := 6) rfl)) q)
  have nt : ta ∉ [b, t] := fun q => by simp only [List.mem_cons, List.not_mem_nil, or_false] at q; exact q.elim (fun q => B.1.neArv S.2.2.2.1.choose_spec (hw _ (List.mem_of_getElem? (i := 45) rfl)) q.symm) nta
  have gbt : ∀ x ∈ [b, t], n0 ≤ x := fun x hx => by simp only [List.mem_cons, List.not_mem_nil, or_false] at hx; rcases hx with rfl | rfl <;> first | exact gb | exact gt
  have hcl : cs.length ≤ 28 := by omega
  have c1 : Steps p.tables e below S0 (s₁.setTop (mkF m 1 #[.val (.ref o), .val (.ref a)] [(.ref o)])) := by
    refine c0.trans ?_
    show Steps p.tables e below (s₁.setTop (mkF m 0 #[.val (.ref o), .val (.ref a)] [])) _
    refine XS.aloadN Xs.here hx rfl (hb hby dHc_0) rfl rfl ?_
    exact Steps.refl _
  obtain ⟨T2, X2, e2, st2⟩ := getF Xs hx hZ hown (host := "") (Or.inl (hw _ (List.mem_of_getElem? (i := 115) rfl))) Via.refl e0 Fo (g := (mkF m 1 #[.val (.ref o), .val (.ref a)] [(.ref o)])) rfl rfl (hb hby dHc_1)
  have c2 : Steps p.tables e below S0 (T2.setTop (mkF m 4 #[.val (.ref o), .val (.ref a)] [(.ref b)])) := by
    refine c1.trans ?_
    show Steps p.tables e below (s₁.setTop (mkF m 1 #[.val (.ref o), .val (.ref a)] [(.ref o)])) _
    refine st2 _ ?_
    exact Steps.refl _
  obtain ⟨q3, T3, h3, k3, r3, kq3, X3, e3, E3, hS, hk, hZ, hown, Xq3, Fc3, Fv3, Vq3, ql3, rl3, hCs3, -, -, st3⟩ := ldcCH X2 hx hZ hown (hw _ (List.mem_of_getElem? (i := 122) rfl)) (own_wS hw) e2 hS hk hEL (by decide) hR.1 (vs := [(.int (60)), (.int (47))]) (z := 2) (by decide +kernel) (by decide) (by decide) (g := (mkF m 4 #[.val (.ref o), .val (.ref a)] [(.ref b)])) rfl (hb hby dHc_4) (n := 8) (by decide) (by decide) (by decide) (by decide)
  have hR := hR.trans hCs3
  have c3 : Steps p.tables e below S0 (T3.setTop (mkF m 6 #[.val (.ref o), .val (.ref a)] [(.ref q3), (.ref b)])) := by
    refine c2.trans ?_
    show Steps p.tables e below (T2.setTop (mkF m 4 #[.val (.ref o), .val (.ref a)] [(.ref b)])) _
    refine st3 _ ?_
    exact Steps.refl _
  have Zh := Nat.le_trans Zh E3.1
  have hKp := hKp.ext E3
  have B := B.ext E3
  have Sl : own_Str Z h3 q3 r3 ([60, 47] : List Int32) := ⟨Xq3, Fc3, Fv3, ⟨_, Vq3⟩, by decide, by decide⟩
  obtain ⟨cq4, kq4, q4a, q4b, q4c⟩ := isOf hZ e3 B.1
  obtain ⟨_, _, ⟨T4, L4, k4, n4⟩, -, X4, ⟨Lc4, hQ4, l4, y4, z4⟩, st4⟩ := X3.virtualBack hx (y := (⟨"java/lang/StringBuilder", "append", "(Ljava/lang/String;)Ljava/lang/StringBuilder;"⟩ : MethodName)) (z := (⟨"java/lang/StringBuilder", "append", "(Ljava/lang/String;)Ljava/lang/StringBuilder;"⟩ : MethodName)) hown (mvT hZ (hw _ (List.mem_of_getElem? (i := 123) rfl))) (mvT hZ (hw _ (List.mem_of_getElem? (i := 81) rfl))) (notFace_of_selects (args := #[]) (mvT hZ (hw _ (List.mem_of_getElem? (i := 83) rfl)))) (mvT hZ (hw _ (List.mem_of_getElem? (i := 83) rfl))) (mvT hZ (hw _ (List.mem_of_getElem? (i := 82) rfl))) (by decide) (backOf (W := 0) (rmSa l Z a0 hw [] q3 r3 ([60, 47] : List Int32) b t 32 cs G1 h3 n0 Zh O2 P5 (X00.keep hKp gbt) Sl (by first | omega | decide) B (by simp only [List.length_append, List.length_cons, List.length_nil]; omega) (by decide) gb gt) hZ (hw _ (List.mem_of_getElem? (i := 84) rfl)) (hw _ (List.mem_of_getElem? (i := 46) rfl)) (by decide) (by decide)) q4a q4c (g := (mkF m 6 #[.val (.ref o), .val (.ref a)] [(.ref q3), (.ref b)])) rfl (by rw [hml]; rfl) (Steps.refl _) (argsL := [(.ref q3)]) (rest := []) (lenOf pd14 rfl) rfl (by show 2 * 0 + _ ≤ _; exact Nat.le_of_eq rfl) (hb hby dHc_6) (fun _ _ => ⟨rfl, e3, (by decide : 2 + 0 ≤ _), (by decide : 12 + 0 ≤ _)⟩)
  dsimp only [Pt.U, Pt.locs, Pt.cells, Pt.slots] at X4 l4 y4 z4 st4 hQ4
  subst l4 y4 z4
  obtain ⟨rfl, Nd, B', Kd⟩ := hQ4
  have c4 : Steps p.tables e below S0 (T4.setTop (mkF m 9 #[.val (.ref o), .val (.ref a)] [(.ref b)])) := by
    refine c3.trans ?_
    show Steps p.tables e below (T3.setTop (mkF m 6 #[.val (.ref o), .val (.ref a)] [(.ref q3), (.ref b)])) _
    refine st4.trans ?_
    exact Steps.refl _
  have hRs4 := CHr.keep Kd (fun x hx => by simp only [List.mem_cons, List.not_mem_nil, or_false] at hx; rcases hx with rfl | rfl <;> first | exact Safe.exa hZ.alike B.1 (by decide) (by decide) | exact (own_safeLen hZ (own_EWL hw) B.2.2.2.2.1.choose_spec.2 B.2.2.2.2.1.choose_spec.1 (by decide +kernel))) hR.1
  have hR := hR.trans hRs4
  have Zh := Nat.le_trans Zh Kd.1
  have hk := Nat.le_trans hk Kd.1
  have Nf := Fr.app Nf Nd
  have hKp := hKp.trans Kd (fun x hx => Or.inl hx)
  have B := B'
  have c5 : Steps p.tables e below S0 (T4.setTop (mkF m 10 #[.val (.ref o), .val (.ref a)] [(.ref a), (.ref b)])) := by
    refine c4.trans ?_
    show Steps p.tables e below (T4.setTop (mkF m 9 #[.val (.ref o), .val (.ref a)] [(.ref b)])) _
    refine XS.aloadN X4.here hx rfl (hb hby dHc_9) rfl rfl ?_
    exact Steps.refl _
  obtain ⟨cq6, kq6, q6a, q6b, q6c⟩ := isOf hZ rfl B.1
  obtain ⟨_, _, ⟨T6, L6, k6, n6⟩, -, X6, ⟨Lc6, hQ6, l6, y6, z6⟩, st6⟩ := X4.virtualBack hx (y := (⟨"java/lang/StringBuilder", "append", "(Ljava/lang/String;)Ljava/lang/StringBuilder;"⟩ : MethodName)) (z := (⟨"java/lang/StringBuilder", "append", "(Ljava/lang/String;)Ljava/lang/StringBuilder;"⟩ : MethodName)) hown (mvT hZ (hw _ (List.mem_of_getElem? (i := 123) rfl))) (mvT hZ (hw _ (List.mem_of_getElem? (i := 81) rfl))) (notFace_of_selects (args := #[]) (mvT hZ (hw _ (List.mem_of_getElem? (i := 83) rfl)))) (mvT hZ (hw _ (List.mem_of_getElem? (i := 83) rfl))) (mvT hZ (hw _ (List.mem_of_getElem? (i := 82) rfl))) (by decide) (backOf (W := 0) (rmSa l Z a0 hw [] a ta ds b t 32 (cs ++ ([60, 47] : List Int32)) G1 T4.heap n0 Zh O2 P5 (X00.keep hKp gbt) (S.keep hKp na nt) (by first | omega | decide) B (by simp only [List.length_append, List.length_cons, List.length_nil]; omega) (by decide) gb gt) hZ (hw _ (List.mem_of_getElem? (i := 84) rfl)) (hw _ (List.mem_of_getElem? (i := 46) rfl)) (by decide) (by decide)) q6a q6c (g := (mkF m 10 #[.val (.ref o), .val (.ref a)] [(.ref a), (.ref b)])) rfl (by rw [hml]; rfl) (Steps.refl _) (argsL := [(.ref a)]) (rest := []) (lenOf pd14 rfl) rfl (by show 2 * 0 + _ ≤ _; exact Nat.le_of_eq rfl) (hb hby dHc_10) (fun _ _ => ⟨rfl, rfl, (by decide : 2 + 0 ≤ _), (by decide : 12 + 0 ≤ _)⟩)
  dsimp only [Pt.U, Pt.locs, Pt.cells, Pt.slots] at X6 l6 y6 z6 st6 hQ6
  subst l6 y6 z6
  obtain ⟨rfl, Nd, B', Kd⟩ := hQ6
  have c6 : Steps p.tables e below S0 (T6.setTop (mkF m 13 #[.val (.ref o), .val (.ref a)] [(.ref b)])) := by
    refine c5.trans ?_
    show Steps p.tables e below (T4.setTop (mkF m 10 #[.val (.ref o), .val (.ref a)] [(.ref a), (.ref b)])) _
    refine st6.trans ?_
    exact Steps.refl _
  have hRs6 := CHr.keep Kd (fun x hx => by simp only [List.mem_cons, List.not_mem_nil, or_false] at hx; rcases hx with rfl | rfl <;> first | exact Safe.exa hZ.alike B.1 (by decide) (by decide) | exact (own_safeLen hZ (own_EWL hw) B.2.2.2.2.1.choose_spec.2 B.2.2.2.2.1.choose_spec.1 (by decide +kernel))) hR.1
  have hR := hR.trans hRs6
  have Zh := Nat.le_trans Zh Kd.1
  have hk := Nat.le_trans hk Kd.1
  have Nf := Fr.app Nf Nd
  have hKp := hKp.trans Kd (fun x hx => Or.inl hx)
  have B := B'
  obtain ⟨q7, T7, h7, k7, r7, kq7, X7, e7, E7, hS, hk, hZ, hown, Xq7, Fc7, Fv7, Vq7, ql7, rl7, hCs7, -, -, st7⟩ := ldcCH X6 hx hZ hown (hw _ (List.mem_of_getElem? (i := 124) rfl)) (own_wS hw) rfl hS hk hEL (by decide) hR.1 (vs := [(.int (62)), (.int (10))]) (z := 2) (by decide +kernel) (by decide) (by decide) (g := (mkF m 13 #[.val (.ref o), .val (.ref a)] [(.ref b)])) rfl (hb hby dHc_13) (n := 8) (by decide) (by decide) (by decide) (by decide)
  have hR := hR.trans hCs7
  have c7 : Steps p.tables e below S0 (T7.setTop (mkF m 15 #[.val (.ref o), .val (.ref a)] [(.ref q7), (.ref b)])) := by
    refine c6.trans ?_
    show Steps p.tables e below (T6.setTop (mkF m 13 #[.val (.ref o), .val (.ref a)] [(.ref b)])) _
    refine st7 _ ?_
    exact Steps.refl _
  have Zh := Nat.le_trans Zh E7.1
  have hKp := hKp.ext E7
  have B := B.ext E7
  have Sl : own_Str Z h7 q7 r7 ([62, 10] : List Int32) := ⟨Xq7, Fc7, Fv7, ⟨_, Vq7⟩, by decide, by decide⟩
  obtain ⟨cq8, kq8, q8a, q8b, q8c⟩ := isOf hZ e7 B.1
  obtain ⟨_, _, ⟨T8, L8, k8, n8⟩, -, X8, ⟨Lc8, hQ8, l8, y8, z8⟩, st8⟩ := X7.virtualBack hx (y := (⟨"java/lang/StringBuilder", "append", "(Ljava/lang/String;)Ljava/lang/StringBuilder;"⟩ : MethodName)) (z := (⟨"java/lang/StringBuilder", "append", "(Ljava/lang/String;)Ljava/lang/StringBuilder;"⟩ : MethodName)) hown (mvT hZ (hw _ (List.mem_of_getElem? (i := 123) rfl))) (mvT hZ (hw _ (List.mem_of_getElem? (i := 81) rfl))) (notFace_of_selects (args := #[]) (mvT hZ (hw _ (List.mem_of_getElem? (i := 83) rfl)))) (mvT hZ (hw _ (List.mem_of_getElem? (i := 83) rfl))) (mvT hZ (hw _ (List.mem_of_getElem? (i := 82) rfl))) (by decide) (backOf (W := 0) (rmSa l Z a0 hw [] q7 r7 ([62, 10] : List Int32) b t 32 ((cs ++ ([60, 47] : List Int32)) ++ ds) G1 h7 n0 Zh O2 P5 (X00.keep hKp gbt) Sl (by first | omega | decide) B (by simp only [List.length_append, List.length_cons, List.length_nil]; omega) (by decide) gb gt) hZ (hw _ (List.mem_of_getElem? (i := 84) rfl)) (hw _ (List.mem_of_getElem? (i := 46) rfl)) (by decide) (by decide)) q8a q8c (g := (mkF m 15 #[.val (.ref o), .val (.ref a)] [(.ref q7), (.ref b)])) rfl (by rw [hml]; rfl) (Steps.refl _) (argsL := [(.ref q7)]) (rest := []) (lenOf pd14 rfl) rfl (by show 2 * 0 + _ ≤ _; exact Nat.le_of_eq rfl) (hb hby dHc_15) (fun _ _ => ⟨rfl, e7, (by decide : 4 + 0 ≤ _), (by decide : 24 + 0 ≤ _)⟩)
  dsimp only [Pt.U, Pt.locs, Pt.cells, Pt.slots] at X8 l8 y8 z8 st8 hQ8
  subst l8 y8 z8
  obtain ⟨rfl, Nd, B', Kd⟩ := hQ8
  have c8 : Steps p.tables e below S0 (T8.setTop (mkF m 18 #[.val (.ref o), .val (.ref a)] [(.ref b)])) := by
    refine c7.trans ?_
    show Steps p.tables e below (T7.setTop (mkF m 15 #[.val (.ref o), .val (.ref a)] [(.ref q7), (.ref b)])) _
    refine st8.trans ?_
    exact Steps.refl _
  have hRs8 := CHr.keep Kd (fun x hx => by simp only [List.mem_cons, List.not_mem_nil, or_false] at hx; rcases hx with rfl | rfl <;> first | exact Safe.exa hZ.alike B.1 (by decide) (by decide) | exact (own_safeLen hZ (own_EWL hw) B.2.2.2.2.1.choose_spec.2 B.2.2.2.2.1.choose_spec.1 (by decide +kernel))) hR.1
  have hR := hR.trans hRs8
  have Zh := Nat.le_trans Zh Kd.1
  have hk := Nat.le_trans hk Kd.1
  have Nf := Fr.app Nf Nd
  have hKp := hKp.trans Kd (fun x hx => Or.inl hx)
  have B := B'
  have c9 : Steps p.tables e below S0 (T8.setTop (mkF m 20 #[.val (.ref o), .val (.ref a)] [(.ref o)])) := by
    refine c8.trans ?_
    show Steps p.tables e below (T8.setTop (mkF m 18 #[.val (.ref o), .val (.ref a)] [(.ref b)])) _
    refine XS.pop X8.here hx rfl (hb hby dHc_18) rfl rfl ?_
    show Steps p.tables e below (T8.setTop (mkF m 19 #[.val (.ref o), .val (.ref a)] [])) _
    refine XS.aloadN X8.here hx rfl (hb hby dHc_19) rfl rfl ?_
    exact Steps.refl _
  obtain ⟨fs, hr, hrun, hended, hW⟩ := X8.leaveW hS hk (v := some (.ref o)) (fun h => by rw [Bd.returns] at h; cases h)
  refine ⟨_, _, c9.trans ?_, hrun, hended, _, _, rfl, ?_, ?_, hW.1, hW.2.1, hW.2.2.1, hW.2.2.2.mono (by decide) (by decide)⟩
  · show Steps p.tables e below (T8.setTop (mkF m 20 #[.val (.ref o), .val (.ref a)] [(.ref o)])) _
    exact retA X8 hx Bd.returns rfl rfl (hb hby dHc_20) hr
  · show QHc Z o b t cs a ta ds G1 h0 n0 _ T8.heap _
    exact ⟨rfl, Nf, B, hKp⟩
  · show CHr Z consts_1 s.vm s.heap T8.vm T8.heap
    rw [hh, ← hV0]
    exact hR.trans (CHv.at X8 hZ hEL hR.1)
def QNm (Z : State) (s1 : Int32) (x : Int32) (h0 : Heap) (n0 : Nat) (v : Option Value) (h : Heap) (L : List Loc) : Prop := (∃ (a : Addr) (k : ClassId) (cs : List Int32), v = some (.ref a) ∧ h0.size ≤ a ∧ cs.length ≤ 3 ∧ (∀ c ∈ cs, ¬ c < 0 ∧ ¬ (127 : Int32) < c) ∧ Arv Z h a k .char (Int32.ofNat cs.length) (cs.map Value.int) (.int 0)) ∧ Fr n0 L ∧ Keep h0 h []
theorem efNm (m : MethodId) (s1 : Int32) (x : Int32) : entryFrame m #[(.int s1), (.int x)] 4 = mkF m 0 #[.val (.int s1), .val (.int x), .unset, .unset] [] := by first | (simp [entryFrame, mkF, argsToLocals, Value.category, List.replicate]; done) | rfl
set_option maxRecDepth 65536 in
set_option maxHeartbeats 40000000 in
theorem rmNm (l : Launch) (Z : State) (a0 : Array Value) (hw : ∀ d ∈ tables_1, d.before a0 Z = true) (ws : List Jvm.Cond) (s1 : Int32) (x : Int32) (h0 : Heap) (n0 : Nat) (Z0 : n0 ≤ h0.size)  :
    MetFree l (⟨"com/example/waybill/waybill/board/HtmlClosePinLaw", "name", "(II)[C"⟩ : MethodName) (head1 (Jvm.Cond.code (⟨"com/example/waybill/waybill/board/HtmlClosePinLaw", "name", "(II)[C"⟩ : MethodName) method_3_code 4 (some (.array .char)) :: ws) ({ frames := 0, cells := 1, slots := 3, locals := 0 } : Room)) (fun aa UU => aa = #[(.int s1), (.int x)] ∧ Z.Warmed39 UU.vm ∧ UU.heap = h0) (fun _ _ _ _ _ => True) (fun _ UU oo UT => ∃ vv LL, oo = .returned vv ∧ QNm Z s1 x h0 n0 vv UT.heap LL ∧ FrameEnd UU oo UT LL ({ frames := 0, cells := 1, slots := 3, locals := 0 } : Room).cells ({ frames := 0, cells := 1, slots := 3, locals := 0 } : Room).slots) := by
  refine MetFree.of_bodySF (plainFor_of_name pn1) hisR ?_
  intro p e s m args below meth c s₁ Bd hml0 hP hK
  obtain ⟨rfl, hZ, hh⟩ := hP
  have hx := Bd.exec
  have hby := Bd.bytes
  have hml : c.maxLocals = 4 := hml0
  have hown : s.vm.findClass "com/example/waybill/waybill/board/HtmlClosePinLaw" = some m.cls := findClass_of_methodNamed Bd.named
  have hnm := (name_of_methodNamed Bd.named Bd.method).1
  have X0 : Stand p l e ({ frames := 0, cells := 1, slots := 3, locals := 0 } : Room) s m #[(.int s1), (.int x)] below meth c s₁ [] 0 0 := Stand.of_body Bd
  have e0 : s₁.heap = h0 := by rw [← hh, Bd.state]; rfl
  have N0 := Fr.nil n0
  have c0 : Steps p.tables e below (s₁.setTop (entryFrame m #[(.int s1), (.int x)] 4)) (s₁.setTop (mkF m 0 #[.val (.int s1), .val (.int x), .unset, .unset] [])) := castTop (efNm m s1 x) (Steps.refl _)
  show ∃ s₂ oo, Steps p.tables e below (s₁.setTop (entryFrame m #[(.int s1), (.int x)] 4)) s₂ ∧ _ ∧ _ ∧ _
  generalize s₁.setTop (entryFrame m #[(.int s1), (.int x)] 4) = S0 at c0 ⊢
  have c1 : Steps p.tables e below S0 (s₁.setTop (mkF m 3 #[.val (.int s1), .val (.int x), .unset, .unset] [(.int (s1 &&& (3 : Int32)))])) := by
    refine c0.trans ?_
    show Steps p.tables e below (s₁.setTop (mkF m 0 #[.val (.int s1), .val (.int x), .unset, .unset] [])) _
    refine XS.iloadN X0.here hx rfl (hb hby dNm_0) rfl ?_
    show Steps p.tables e below (s₁.setTop (mkF m 1 #[.val (.int s1), .val (.int x), .unset, .unset] [(.int s1)])) _
    refine XS.iconst X0.here hx rfl (hb hby dNm_1) ?_
    show Steps p.tables e below (s₁.setTop (mkF m 2 #[.val (.int s1), .val (.int x), .unset, .unset] [(.int (3 : Int32)), (.int s1)])) _
    refine XS.iand X0.here hx rfl (hb hby dNm_2) rfl ?_
    exact Steps.refl _
  have hm := own_m3 s1
  generalize s1 &&& (3 : Int32) = nn at hm c1
  rcases hm with rfl | rfl | rfl | rfl
  · have c2 : Steps p.tables e below S0 (s₁.setTop (mkF m 5 #[.val (.int s1), .val (.int x), .val (.int (0 : Int32)), .unset] [(.int (0 : Int32))])) := by
      refine c1.trans ?_
      show Steps p.tables e below (s₁.setTop (mkF m 3 #[.val (.int s1), .val (.int x), .unset, .unset] [(.int (0 : Int32))])) _
      refine XS.istoreN X0.here hx rfl (hb hby dNm_3) rfl (l' := #[.val (.int s1), .val (.int x), .val (.int (0 : Int32)), .unset]) rfl ?_
      show Steps p.tables e below (s₁.setTop (mkF m 4 #[.val (.int s1), .val (.int x), .val (.int (0 : Int32)), .unset] [])) _
      refine XS.iloadN X0.here hx rfl (hb hby dNm_4) rfl ?_
      exact Steps.refl _
    obtain ⟨T3, h3, kA3, X3, e3, E3, A3, st3⟩ := newP X0 hx hZ (hw _ (List.mem_of_getElem? (i := 4) rfl)) e0 (g := (mkF m 5 #[.val (.int s1), .val (.int x), .val (.int (0 : Int32)), .unset] [(.int (0 : Int32))])) rfl (hb hby dNm_5) rfl (by decide : ¬ ((0 : Int32) < (0 : Int32))) (cap := 3) (by decide) (by decide) (by decide) (by decide)
    obtain ⟨b3, g3⟩ : ∃ z, z = h0.size := ⟨_, rfl⟩
    rw [← g3] at A3 st3
    have c3 : Steps p.tables e below S0 (T3.setTop (mkF m 7 #[.val (.int s1), .val (.int x), .val (.int (0 : Int32)), .unset] [(.ref b3)])) := by
      refine c2.trans ?_
      show Steps p.tables e below (s₁.setTop (mkF m 5 #[.val (.int s1), .val (.int x), .val (.int (0 : Int32)), .unset] [(.int (0 : Int32))])) _
      refine st3 _ ?_
      exact Steps.refl _
    have V3 := Arv.new A3 (by decide)
    have zb : h0.size ≤ b3 := Nat.le_of_eq g3.symm
    have gb : n0 ≤ b3 := Nat.le_trans Z0 zb
    have hKp := (Keep.refl h0 []).ext E3
    have Nf := N0
    have c4 : Steps p.tables e below S0 (T3.setTop (mkF m 20 #[.val (.int s1), .val (.int x), .val (.int (0 : Int32)), .val (.ref b3)] [])) := by
      refine c3.trans ?_
      show Steps p.tables e below (T3.setTop (mkF m 7 #[.val (.int s1), .val (.int x), .val (.int (0 : Int32)), .unset] [(.ref b3)])) _
      refine XS.astoreN X3.here hx rfl (hb hby dNm_7) rfl rfl (l' := #[.val (.int s1), .val (.int x), .val (.int (0 : Int32)), .val (.ref b3)]) rfl ?_
      show Steps p.tables e below (T3.setTop (mkF m 8 #[.val (.int s1), .val (.int x), .val (.int (0 : Int32)), .val (.ref b3)] [])) _
      refine XS.iloadN X3.here hx rfl (hb hby dNm_8) rfl ?_
      show Steps p.tables e below (T3.setTop (mkF m 9 #[.val (.int s1), .val (.int x), .val (.int (0 : Int32)), .val (.ref b3)] [(.int (0 : Int32))])) _
      refine XS.ifYes X3.here hx rfl (pc0 := 9) (pc' := 20) rfl (hb hby dNm_9) rfl ((if0 _ _).trans (flt (by decide)).2.2.2) (by decide) (by decide) ?_
      exact Steps.refl _
    have c5 : Steps p.tables e below S0 (T3.setTop (mkF m 36 #[.val (.int s1), .val (.int x), .val (.int (0 : Int32)), .val (.ref b3)] [])) := by
      refine c4.trans ?_
      show Steps p.tables e below (T3.setTop (mkF m 20 #[.val (.int s1), .val (.int x), .val (.int (0 : Int32)), .val (.ref b3)] [])) _
      refine XS.iloadN X3.here hx rfl (hb hby dNm_20) rfl ?_
      show Steps p.tables e below (T3.setTop (mkF m 21 #[.val (.int s1), .val (.int x), .val (.int (0 : Int32)), .val (.ref b3)] [(.int (0 : Int32))])) _
      refine XS.iconst X3.here hx rfl (hb hby dNm_21) ?_
      show Steps p.tables e below (T3.setTop (mkF m 22 #[.val (.int s1), .val (.int x), .val (.int (0 : Int32)), .val (.ref b3)] [(.int (1 : Int32)), (.int (0 : Int32))])) _
      refine XS.icmpYes X3.here hx rfl (pc0 := 22) (pc' := 36) rfl (hb hby dNm_22) rfl (flt (by decide)).2.2.2 (by decide) (by decide) ?_
      exact Steps.refl _
    have c6 : Steps p.tables e below S0 (T3.setTop (mkF m 52 #[.val (.int s1), .val (.int x), .val (.int (0 : Int32)), .val (.ref b3)] [])) := by
      refine c5.trans ?_
      show Steps p.tables e below (T3.setTop (mkF m 36 #[.val (.int s1), .val (.int x), .val (.int (0 : Int32)), .val (.ref b3)] [])) _
      refine XS.iloadN X3.here hx rfl (hb hby dNm_36) rfl ?_
      show Steps p.tables e below (T3.setTop (mkF m 37 #[.val (.int s1), .val (.int x), .val (.int (0 : Int32)), .val (.ref b3)] [(.int (0 : Int32))])) _
      refine XS.iconst X3.here hx rfl (hb hby dNm_37) ?_
      show Steps p.tables e below (T3.setTop (mkF m 38 #[.val (.int s1), .val (.int x), .val (.int (0 : Int32)), .val (.ref b3)] [(.int (2 : Int32)), (.int (0 : Int32))])) _
      refine XS.icmpYes X3.here hx rfl (pc0 := 38) (pc' := 52) rfl (hb hby dNm_38) rfl (flt (by decide)).2.2.2 (by decide) (by decide) ?_
      exact Steps.refl _
    have hp : ∀ c ∈ ([] : List Int32), ¬ c < 0 ∧ ¬ (127 : Int32) < c := by
      intro c hc
      cases hc
    have Vc : Arv Z h3 b3 kA3 .char (0 : Int32) (([] : List Int32).map Value.int) (.int 0) := by
      have := V3
      exact this
    have c7 : Steps p.tables e below S0 (T3.setTop (mkF m 53 #[.val (.int s1), .val (.int x), .val (.int (0 : Int32)), .val (.ref b3)] [(.ref b3)])) := by
      refine c6.trans ?_
      show Steps p.tables e below (T3.setTop (mkF m 52 #[.val (.int s1), .val (.int x), .val (.int (0 : Int32)), .val (.ref b3)] [])) _
      refine XS.aloadN X3.here hx rfl (hb hby dNm_52) rfl rfl ?_
      exact Steps.refl _
    obtain ⟨fs, hr, hrun, hended, hW, hsame⟩ := X3.leave (v := some (.ref b3)) (fun h => by rw [Bd.returns] at h; cases h)
    refine ⟨_, _, c7.trans ?_, hrun, hended, _, _, rfl, ?_, ⟨_, rfl⟩, hW, hsame.mono (by decide) (by decide)⟩
    · show Steps p.tables e below (T3.setTop (mkF m 53 #[.val (.int s1), .val (.int x), .val (.int (0 : Int32)), .val (.ref b3)] [(.ref b3)])) _
      exact retA X3 hx Bd.returns rfl rfl (hb hby dNm_53) hr
    · show QNm Z s1 x h0 n0 _ T3.heap _
      rw [e3]
      exact ⟨⟨_, _, ([] : List Int32), rfl, zb, Nat.le_of_ble_eq_true rfl, hp, Vc⟩, Nf, hKp⟩
  · have c8 : Steps p.tables e below S0 (s₁.setTop (mkF m 5 #[.val (.int s1), .val (.int x), .val (.int (1 : Int32)), .unset] [(.int (1 : Int32))])) := by
      refine c1.trans ?_
      show Steps p.tables e below (s₁.setTop (mkF m 3 #[.val (.int s1), .val (.int x), .unset, .unset] [(.int (1 : Int32))])) _
      refine XS.istoreN X0.here hx rfl (hb hby dNm_3) rfl (l' := #[.val (.int s1), .val (.int x), .val (.int (1 : Int32)), .unset]) rfl ?_
      show Steps p.tables e below (s₁.setTop (mkF m 4 #[.val (.int s1), .val (.int x), .val (.int (1 : Int32)), .unset] [])) _
      refine XS.iloadN X0.here hx rfl (hb hby dNm_4) rfl ?_
      exact Steps.refl _
    obtain ⟨T9, h9, kA9, X9, e9, E9, A9, st9⟩ := newP X0 hx hZ (hw _ (List.mem_of_getElem? (i := 4) rfl)) e0 (g := (mkF m 5 #[.val (.int s1), .val (.int x), .val (.int (1 : Int32)), .unset] [(.int (1 : Int32))])) rfl (hb hby dNm_5) rfl (by decide : ¬ ((1 : Int32) < (0 : Int32))) (cap := 3) (by decide) (by decide) (by decide) (by decide)
    obtain ⟨b9, g9⟩ : ∃ z, z = h0.size := ⟨_, rfl⟩
    rw [← g9] at A9 st9
    have c9 : Steps p.tables e below S0 (T9.setTop (mkF m 7 #[.val (.int s1), .val (.int x), .val (.int (1 : Int32)), .unset] [(.ref b9)])) := by
      refine c8.trans ?_
      show Steps p.tables e below (s₁.setTop (mkF m 5 #[.val (.int s1), .val (.int x), .val (.int (1 : Int32)), .unset] [(.int (1 : Int32))])) _
      refine st9 _ ?_
      exact Steps.refl _
    have V9 := Arv.new A9 (by decide)
    have zb : h0.size ≤ b9 := Nat.le_of_eq g9.symm
    have gb : n0 ≤ b9 := Nat.le_trans Z0 zb
    have hKp := (Keep.refl h0 []).ext E9
    have Nf := N0
    have c10 : Steps p.tables e below S0 (T9.setTop (mkF m 12 #[.val (.int s1), .val (.int x), .val (.int (1 : Int32)), .val (.ref b9)] [])) := by
      refine c9.trans ?_
      show Steps p.tables e below (T9.setTop (mkF m 7 #[.val (.int s1), .val (.int x), .val (.int (1 : Int32)), .unset] [(.ref b9)])) _
      refine XS.astoreN X9.here hx rfl (hb hby dNm_7) rfl rfl (l' := #[.val (.int s1), .val (.int x), .val (.int (1 : Int32)), .val (.ref b9)]) rfl ?_
      show Steps p.tables e below (T9.setTop (mkF m 8 #[.val (.int s1), .val (.int x), .val (.int (1 : Int32)), .val (.ref b9)] [])) _
      refine XS.iloadN X9.here hx rfl (hb hby dNm_8) rfl ?_
      show Steps p.tables e below (T9.setTop (mkF m 9 #[.val (.int s1), .val (.int x), .val (.int (1 : Int32)), .val (.ref b9)] [(.int (1 : Int32))])) _
      refine XS.ifNo X9.here hx rfl (hb hby dNm_9) rfl ((if0 _ _).trans (tlt (by decide)).2.2.2) ?_
      exact Steps.refl _
    have c11 : Steps p.tables e below S0 (T9.setTop (mkF m 19 #[.val (.int s1), .val (.int x), .val (.int (1 : Int32)), .val (.ref b9)] [(.int ((x &&& (127 : Int32)).toUInt32.toUInt16.toUInt32.toInt32)), (.int (0 : Int32)), (.ref b9)])) := by
      refine c10.trans ?_
      show Steps p.tables e below (T9.setTop (mkF m 12 #[.val (.int s1), .val (.int x), .val (.int (1 : Int32)), .val (.ref b9)] [])) _
      refine XS.aloadN X9.here hx rfl (hb hby dNm_12) rfl rfl ?_
      show Steps p.tables e below (T9.setTop (mkF m 13 #[.val (.int s1), .val (.int x), .val (.int (1 : Int32)), .val (.ref b9)] [(.ref b9)])) _
      refine XS.iconst X9.here hx rfl (hb hby dNm_13) ?_
      show Steps p.tables e below (T9.setTop (mkF m 14 #[.val (.int s1), .val (.int x), .val (.int (1 : Int32)), .val (.ref b9)] [(.int (0 : Int32)), (.ref b9)])) _
      refine XS.iloadN X9.here hx rfl (hb hby dNm_14) rfl ?_
      show Steps p.tables e below (T9.setTop (mkF m 15 #[.val (.int s1), .val (.int x), .val (.int (1 : Int32)), .val (.ref b9)] [(.int x), (.int (0 : Int32)), (.ref b9)])) _
      refine XS.bipush X9.here hx rfl (hb hby dNm_15) ?_
      show Steps p.tables e below (T9.setTop (mkF m 17 #[.val (.int s1), .val (.int x), .val (.int (1 : Int32)), .val (.ref b9)] [(.int (127 : Int32)), (.int x), (.int (0 : Int32)), (.ref b9)])) _
      refine XS.iand X9.here hx rfl (hb hby dNm_17) rfl ?_
      show Steps p.tables e below (T9.setTop (mkF m 18 #[.val (.int s1), .val (.int x), .val (.int (1 : Int32)), .val (.ref b9)] [(.int (x &&& (127 : Int32))), (.int (0 : Int32)), (.ref b9)])) _
      refine XS.i2c X9.here hx rfl (hb hby dNm_18) rfl ?_
      exact Steps.refl _
    have Vp12 : Arv Z _ b9 kA9 .char (1 : Int32) [(.int 0)] (.int 0) := V9.pad (pad_rep [] (.int 0) 1)
    obtain ⟨cl12, Ar12, qr12, S12, M12, Hs12, U12⟩ := Vp12
    obtain ⟨T12, h12, X12, e12, W12, st12⟩ := stC X9 hx hZ e9 Ar12 (j := (0 : Int32)) (inb_of S12 ⟨(by decide), (by decide)⟩) (g := (mkF m 19 #[.val (.int s1), .val (.int x), .val (.int (1 : Int32)), .val (.ref b9)] [(.int ((x &&& (127 : Int32)).toUInt32.toUInt16.toUInt32.toInt32)), (.int (0 : Int32)), (.ref b9)])) rfl rfl (hb hby dNm_19)
    have V12 : Arv Z h12 b9 kA9 .char (1 : Int32) [(.int (nar .char ((x &&& (127 : Int32)).toUInt32.toUInt16.toUInt32.toInt32)))] (.int 0) := Arv.set Ar12 qr12 S12 M12 Hs12 U12 (fits_nar_char _) W12 0 rfl (Nat.le_of_ble_eq_true rfl)
    have c12 : Steps p.tables e below S0 (T12.setTop (mkF m 20 #[.val (.int s1), .val (.int x), .val (.int (1 : Int32)), .val (.ref b9)] [])) := by
      refine c11.trans ?_
      show Steps p.tables e below (T9.setTop (mkF m 19 #[.val (.int s1), .val (.int x), .val (.int (1 : Int32)), .val (.ref b9)] [(.int ((x &&& (127 : Int32)).toUInt32.toUInt16.toUInt32.toInt32)), (.int (0 : Int32)), (.ref b9)])) _
      refine st12 _ ?_
      exact Steps.refl _
    have Nf := Fr.snoc X12 Nf gb
    have hKp := hKp.wr W12 (Or.inr zb)
    have c13 : Steps p.tables e below S0 (T12.setTop (mkF m 36 #[.val (.int s1), .val (.int x), .val (.int (1 : Int32)), .val (.ref b9)] [])) := by
      refine c12.trans ?_
      show Steps p.tables e below (T12.setTop (mkF m 20 #[.val (.int s1), .val (.int x), .val (.int (1 : Int32)), .val (.ref b9)] [])) _
      refine XS.iloadN X12.here hx rfl (hb hby dNm_20) rfl ?_
      show Steps p.tables e below (T12.setTop (mkF m 21 #[.val (.int s1), .val (.int x), .val (.int (1 : Int32)), .val (.ref b9)] [(.int (1 : Int32))])) _
      refine XS.iconst X12.here hx rfl (hb hby dNm_21) ?_
      show Steps p.tables e below (T12.setTop (mkF m 22 #[.val (.int s1), .val (.int x), .val (.int (1 : Int32)), .val (.ref b9)] [(.int (1 : Int32)), (.int (1 : Int32))])) _
      refine XS.icmpYes X12.here hx rfl (pc0 := 22) (pc' := 36) rfl (hb hby dNm_22) rfl (flt (by decide)).2.2.2 (by decide) (by decide) ?_
      exact Steps.refl _
    have c14 : Steps p.tables e below S0 (T12.setTop (mkF m 52 #[.val (.int s1), .val (.int x), .val (.int (1 : Int32)), .val (.ref b9)] [])) := by
      refine c13.trans ?_
      show Steps p.tables e below (T12.setTop (mkF m 36 #[.val (.int s1), .val (.int x), .val (.int (1 : Int32)), .val (.ref b9)] [])) _
      refine XS.iloadN X12.here hx rfl (hb hby dNm_36) rfl ?_
      show Steps p.tables e below (T12.setTop (mkF m 37 #[.val (.int s1), .val (.int x), .val (.int (1 : Int32)), .val (.ref b9)] [(.int (1 : Int32))])) _
      refine XS.iconst X12.here hx rfl (hb hby dNm_37) ?_
      show Steps p.tables e below (T12.setTop (mkF m 38 #[.val (.int s1), .val (.int x), .val (.int (1 : Int32)), .val (.ref b9)] [(.int (2 : Int32)), (.int (1 : Int32))])) _
      refine XS.icmpYes X12.here hx rfl (pc0 := 38) (pc' := 52) rfl (hb hby dNm_38) rfl (flt (by decide)).2.2.2 (by decide) (by decide) ?_
      exact Steps.refl _
    have hp : ∀ c ∈ ([x &&& 127] : List Int32), ¬ c < 0 ∧ ¬ (127 : Int32) < c := by
      intro c hc
      simp only [List.mem_cons, List.not_mem_nil, or_false] at hc
      rcases hc with rfl
      · exact own_m127 _
    have Vc : Arv Z h12 b9 kA9 .char (1 : Int32) (([x &&& 127] : List Int32).map Value.int) (.int 0) := by
      have := V12
      rw [own_nar7] at this
      exact this
    have c15 : Steps p.tables e below S0 (T12.setTop (mkF m 53 #[.val (.int s1), .val (.int x), .val (.int (1 : Int32)), .val (.ref b9)] [(.ref b9)])) := by
      refine c14.trans ?_
      show Steps p.tables e below (T12.setTop (mkF m 52 #[.val (.int s1), .val (.int x), .val (.int (1 : Int32)), .val (.ref b9)] [])) _
      refine XS.aloadN X12.here hx rfl (hb hby dNm_52) rfl rfl ?_
      exact Steps.refl _
    obtain ⟨fs, hr, hrun, hended, hW, hsame⟩ := X12.leave (v := some (.ref b9)) (fun h => by rw [Bd.returns] at h; cases h)
    refine ⟨_, _, c15.trans ?_, hrun, hended, _, _, rfl, ?_, ⟨_, rfl⟩, hW, hsame.mono (by decide) (by decide)⟩
    · show Steps p.tables e below (T12.setTop (mkF m 53 #[.val (.int s1), .val (.int x), .val (.int (1 : Int32)), .val (.ref b9)] [(.ref b9)])) _
      exact retA X12 hx Bd.returns rfl rfl (hb hby dNm_53) hr
    · show QNm Z s1 x h0 n0 _ T12.heap _
      rw [e12]
      exact ⟨⟨_, _, ([x &&& 127] : List Int32), rfl, zb, Nat.le_of_ble_eq_true rfl, hp, Vc⟩, Nf, hKp⟩
  · have c16 : Steps p.tables e below S0 (s₁.setTop (mkF m 5 #[.val (.int s1), .val (.int x), .val (.int (2 : Int32)), .unset] [(.int (2 : Int32))])) := by
      refine c1.trans ?_
      show Steps p.tables e below (s₁.setTop (mkF m 3 #[.val (.int s1), .val (.int x), .unset, .unset] [(.int (2 : Int32))])) _
      refine XS.istoreN X0.here hx rfl (hb hby dNm_3) rfl (l' := #[.val (.int s1), .val (.int x), .val (.int (2 : Int32)), .unset]) rfl ?_
      show Steps p.tables e below (s₁.setTop (mkF m 4 #[.val (.int s1), .val (.int x), .val (.int (2 : Int32)), .unset] [])) _
      refine XS.iloadN X0.here hx rfl (hb hby dNm_4) rfl ?_
      exact Steps.refl _
    obtain ⟨T17, h17, kA17, X17, e17, E17, A17, st17⟩ := newP X0 hx hZ (hw _ (List.mem_of_getElem? (i := 4) rfl)) e0 (g := (mkF m 5 #[.val (.int s1), .val (.int x), .val (.int (2 : Int32)), .unset] [(.int (2 : Int32))])) rfl (hb hby dNm_5) rfl (by decide : ¬ ((2 : Int32) < (0 : Int32))) (cap := 3) (by decide) (by decide) (by decide) (by decide)
    obtain ⟨b17, g17⟩ : ∃ z, z = h0.size := ⟨_, rfl⟩
    rw [← g17] at A17 st17
    have c17 : Steps p.tables e below S0 (T17.setTop (mkF m 7 #[.val (.int s1), .val (.int x), .val (.int (2 : Int32)), .unset] [(.ref b17)])) := by
      refine c16.trans ?_
      show Steps p.tables e below (s₁.setTop (mkF m 5 #[.val (.int s1), .val (.int x), .val (.int (2 : Int32)), .unset] [(.int (2 : Int32))])) _
      refine st17 _ ?_
      exact Steps.refl _
    have V17 := Arv.new A17 (by decide)
    have zb : h0.size ≤ b17 := Nat.le_of_eq g17.symm
    have gb : n0 ≤ b17 := Nat.le_trans Z0 zb
    have hKp := (Keep.refl h0 []).ext E17
    have Nf := N0
    have c18 : Steps p.tables e below S0 (T17.setTop (mkF m 12 #[.val (.int s1), .val (.int x), .val (.int (2 : Int32)), .val (.ref b17)] [])) := by
      refine c17.trans ?_
      show Steps p.tables e below (T17.setTop (mkF m 7 #[.val (.int s1), .val (.int x), .val (.int (2 : Int32)), .unset] [(.ref b17)])) _
      refine XS.astoreN X17.here hx rfl (hb hby dNm_7) rfl rfl (l' := #[.val (.int s1), .val (.int x), .val (.int (2 : Int32)), .val (.ref b17)]) rfl ?_
      show Steps p.tables e below (T17.setTop (mkF m 8 #[.val (.int s1), .val (.int x), .val (.int (2 : Int32)), .val (.ref b17)] [])) _
      refine XS.iloadN X17.here hx rfl (hb hby dNm_8) rfl ?_
      show Steps p.tables e below (T17.setTop (mkF m 9 #[.val (.int s1), .val (.int x), .val (.int (2 : Int32)), .val (.ref b17)] [(.int (2 : Int32))])) _
      refine XS.ifNo X17.here hx rfl (hb hby dNm_9) rfl ((if0 _ _).trans (tlt (by decide)).2.2.2) ?_
      exact Steps.refl _
    have c19 : Steps p.tables e below S0 (T17.setTop (mkF m 19 #[.val (.int s1), .val (.int x), .val (.int (2 : Int32)), .val (.ref b17)] [(.int ((x &&& (127 : Int32)).toUInt32.toUInt16.toUInt32.toInt32)), (.int (0 : Int32)), (.ref b17)])) := by
      refine c18.trans ?_
      show Steps p.tables e below (T17.setTop (mkF m 12 #[.val (.int s1), .val (.int x), .val (.int (2 : Int32)), .val (.ref b17)] [])) _
      refine XS.aloadN X17.here hx rfl (hb hby dNm_12) rfl rfl ?_
      show Steps p.tables e below (T17.setTop (mkF m 13 #[.val (.int s1), .val (.int x), .val (.int (2 : Int32)), .val (.ref b17)] [(.ref b17)])) _
      refine XS.iconst X17.here hx rfl (hb hby dNm_13) ?_
      show Steps p.tables e below (T17.setTop (mkF m 14 #[.val (.int s1), .val (.int x), .val (.int (2 : Int32)), .val (.ref b17)] [(.int (0 : Int32)), (.ref b17)])) _
      refine XS.iloadN X17.here hx rfl (hb hby dNm_14) rfl ?_
      show Steps p.tables e below (T17.setTop (mkF m 15 #[.val (.int s1), .val (.int x), .val (.int (2 : Int32)), .val (.ref b17)] [(.int x), (.int (0 : Int32)), (.ref b17)])) _
      refine XS.bipush X17.here hx rfl (hb hby dNm_15) ?_
      show Steps p.tables e below (T17.setTop (mkF m 17 #[.val (.int s1), .val (.int x), .val (.int (2 : Int32)), .val (.ref b17)] [(.int (127 : Int32)), (.int x), (.int (0 : Int32)), (.ref b17)])) _
      refine XS.iand X17.here hx rfl (hb hby dNm_17) rfl ?_
      show Steps p.tables e below (T17.setTop (mkF m 18 #[.val (.int s1), .val (.int x), .val (.int (2 : Int32)), .val (.ref b17)] [(.int (x &&& (127 : Int32))), (.int (0 : Int32)), (.ref b17)])) _
      refine XS.i2c X17.here hx rfl (hb hby dNm_18) rfl ?_
      exact Steps.refl _
    have Vp20 : Arv Z _ b17 kA17 .char (2 : Int32) [(.int 0)] (.int 0) := V17.pad (pad_rep [] (.int 0) 1)
    obtain ⟨cl20, Ar20, qr20, S20, M20, Hs20, U20⟩ := Vp20
    obtain ⟨T20, h20, X20, e20, W20, st20⟩ := stC X17 hx hZ e17 Ar20 (j := (0 : Int32)) (inb_of S20 ⟨(by decide), (by decide)⟩) (g := (mkF m 19 #[.val (.int s1), .val (.int x), .val (.int (2 : Int32)), .val (.ref b17)] [(.int ((x &&& (127 : Int32)).toUInt32.toUInt16.toUInt32.toInt32)), (.int (0 : Int32)), (.ref b17)])) rfl rfl (hb hby dNm_19)
    have V20 : Arv Z h20 b17 kA17 .char (2 : Int32) [(.int (nar .char ((x &&& (127 : Int32)).toUInt32.toUInt16.toUInt32.toInt32)))] (.int 0) := Arv.set Ar20 qr20 S20 M20 Hs20 U20 (fits_nar_char _) W20 0 rfl (Nat.le_of_ble_eq_true rfl)
    have c20 : Steps p.tables e below S0 (T20.setTop (mkF m 20 #[.val (.int s1), .val (.int x), .val (.int (2 : Int32)), .val (.ref b17)] [])) := by
      refine c19.trans ?_
      show Steps p.tables e below (T17.setTop (mkF m 19 #[.val (.int s1), .val (.int x), .val (.int (2 : Int32)), .val (.ref b17)] [(.int ((x &&& (127 : Int32)).toUInt32.toUInt16.toUInt32.toInt32)), (.int (0 : Int32)), (.ref b17)])) _
      refine st20 _ ?_
      exact Steps.refl _
    have Nf := Fr.snoc X20 Nf gb
    have hKp := hKp.wr W20 (Or.inr zb)
    have c21 : Steps p.tables e below S0 (T20.setTop (mkF m 25 #[.val (.int s1), .val (.int x), .val (.int (2 : Int32)), .val (.ref b17)] [])) := by
      refine c20.trans ?_
      show Steps p.tables e below (T20.setTop (mkF m 20 #[.val (.int s1), .val (.int x), .val (.int (2 : Int32)), .val (.ref b17)] [])) _
      refine XS.iloadN X20.here hx rfl (hb hby dNm_20) rfl ?_
      show Steps p.tables e below (T20.setTop (mkF m 21 #[.val (.int s1), .val (.int x), .val (.int (2 : Int32)), .val (.ref b17)] [(.int (2 : Int32))])) _
      refine XS.iconst X20.here hx rfl (hb hby dNm_21) ?_
      show Steps p.tables e below (T20.setTop (mkF m 22 #[.val (.int s1), .val (.int x), .val (.int (2 : Int32)), .val (.ref b17)] [(.int (1 : Int32)), (.int (2 : Int32))])) _
      refine XS.icmpNo X20.here hx rfl (hb hby dNm_22) rfl (tlt (by decide)).2.2.2 ?_
      exact Steps.refl _
    have c22 : Steps p.tables e below S0 (T20.setTop (mkF m 35 #[.val (.int s1), .val (.int x), .val (.int (2 : Int32)), .val (.ref b17)] [(.int ((((x.toUInt32 >>> ((8 : Int32) &&& 31).toUInt32).toInt32) &&& (127 : Int32)).toUInt32.toUInt16.toUInt32.toInt32)), (.int (1 : Int32)), (.ref b17)])) := by
      refine c21.trans ?_
      show Steps p.tables e below (T20.setTop (mkF m 25 #[.val (.int s1), .val (.int x), .val (.int (2 : Int32)), .val (.ref b17)] [])) _
      refine XS.aloadN X20.here hx rfl (hb hby dNm_25) rfl rfl ?_
      show Steps p.tables e below (T20.setTop (mkF m 26 #[.val (.int s1), .val (.int x), .val (.int (2 : Int32)), .val (.ref b17)] [(.ref b17)])) _
      refine XS.iconst X20.here hx rfl (hb hby dNm_26) ?_
      show Steps p.tables e below (T20.setTop (mkF m 27 #[.val (.int s1), .val (.int x), .val (.int (2 : Int32)), .val (.ref b17)] [(.int (1 : Int32)), (.ref b17)])) _
      refine XS.iloadN X20.here hx rfl (hb hby dNm_27) rfl ?_
      show Steps p.tables e below (T20.setTop (mkF m 28 #[.val (.int s1), .val (.int x), .val (.int (2 : Int32)), .val (.ref b17)] [(.int x), (.int (1 : Int32)), (.ref b17)])) _
      refine XS.bipush X20.here hx rfl (hb hby dNm_28) ?_
      show Steps p.tables e below (T20.setTop (mkF m 30 #[.val (.int s1), .val (.int x), .val (.int (2 : Int32)), .val (.ref b17)] [(.int (8 : Int32)), (.int x), (.int (1 : Int32)), (.ref b17)])) _
      refine XS.iushr X20.here hx rfl (hb hby dNm_30) rfl ?_
      show Steps p.tables e below (T20.setTop (mkF m 31 #[.val (.int s1), .val (.int x), .val (.int (2 : Int32)), .val (.ref b17)] [(.int ((x.toUInt32 >>> ((8 : Int32) &&& 31).toUInt32).toInt32)), (.int (1 : Int32)), (.ref b17)])) _
      refine XS.bipush X20.here hx rfl (hb hby dNm_31) ?_
      show Steps p.tables e below (T20.setTop (mkF m 33 #[.val (.int s1), .val (.int x), .val (.int (2 : Int32)), .val (.ref b17)] [(.int (127 : Int32)), (.int ((x.toUInt32 >>> ((8 : Int32) &&& 31).toUInt32).toInt32)), (.int (1 : Int32)), (.ref b17)])) _
      refine XS.iand X20.here hx rfl (hb hby dNm_33) rfl ?_
      show Steps p.tables e below (T20.setTop (mkF m 34 #[.val (.int s1), .val (.int x), .val (.int (2 : Int32)), .val (.ref b17)] [(.int (((x.toUInt32 >>> ((8 : Int32) &&& 31).toUInt32).toInt32) &&& (127 : Int32))), (.int (1 : Int32)), (.ref b17)])) _
      refine XS.i2c X20.here hx rfl (hb hby dNm_34) rfl ?_
      exact Steps.refl _
    have Vp23 : Arv Z _ b17 kA17 .char (2 : Int32) [(.int (nar .char ((x &&& (127 : Int32)).toUInt32.toUInt16.toUInt32.toInt32))), (.int 0)] (.int 0) := V20.pad (pad_rep [(.int (nar .char ((x &&& (127 : Int32)).toUInt32.toUInt16.toUInt32.toInt32)))] (.int 0) 1)
    obtain ⟨cl23, Ar23, qr23, S23, M23, Hs23, U23⟩ := Vp23
    obtain ⟨T23, h23, X23, e23, W23, st23⟩ := stC X20 hx hZ e20 Ar23 (j := (1 : Int32)) (inb_of S23 ⟨(by decide), (by decide)⟩) (g := (mkF m 35 #[.val (.int s1), .val (.int x), .val (.int (2 : Int32)), .val (.ref b17)] [(.int ((((x.toUInt32 >>> ((8 : Int32) &&& 31).toUInt32).toInt32) &&& (127 : Int32)).toUInt32.toUInt16.toUInt32.toInt32)), (.int (1 : Int32)), (.ref b17)])) rfl rfl (hb hby dNm_35)
    have V23 : Arv Z h23 b17 kA17 .char (2 : Int32) [(.int (nar .char ((x &&& (127 : Int32)).toUInt32.toUInt16.toUInt32.toInt32))), (.int (nar .char ((((x.toUInt32 >>> ((8 : Int32) &&& 31).toUInt32).toInt32) &&& (127 : Int32)).toUInt32.toUInt16.toUInt32.toInt32)))] (.int 0) := Arv.set Ar23 qr23 S23 M23 Hs23 U23 (fits_nar_char _) W23 1 rfl (Nat.le_of_ble_eq_true rfl)
    have c23 : Steps p.tables e below S0 (T23.setTop (mkF m 36 #[.val (.int s1), .val (.int x), .val (.int (2 : Int32)), .val (.ref b17)] [])) := by
      refine c22.trans ?_
      show Steps p.tables e below (T20.setTop (mkF m 35 #[.val (.int s1), .val (.int x), .val (.int (2 : Int32)), .val (.ref b17)] [(.int ((((x.toUInt32 >>> ((8 : Int32) &&& 31).toUInt32).toInt32) &&& (127 : Int32)).toUInt32.toUInt16.toUInt32.toInt32)), (.int (1 : Int32)), (.ref b17)])) _
      refine st23 _ ?_
      exact Steps.refl _
    have Nf := Fr.snoc X23 Nf gb
    have hKp := hKp.wr W23 (Or.inr zb)
    have c24 : Steps p.tables e below S0 (T23.setTop (mkF m 52 #[.val (.int s1), .val (.int x), .val (.int (2 : Int32)), .val (.ref b17)] [])) := by
      refine c23.trans ?_
      show Steps p.tables e below (T23.setTop (mkF m 36 #[.val (.int s1), .val (.int x), .val (.int (2 : Int32)), .val (.ref b17)] [])) _
      refine XS.iloadN X23.here hx rfl (hb hby dNm_36) rfl ?_
      show Steps p.tables e below (T23.setTop (mkF m 37 #[.val (.int s1), .val (.int x), .val (.int (2 : Int32)), .val (.ref b17)] [(.int (2 : Int32))])) _
      refine XS.iconst X23.here hx rfl (hb hby dNm_37) ?_
      show Steps p.tables e below (T23.setTop (mkF m 38 #[.val (.int s1), .val (.int x), .val (.int (2 : Int32)), .val (.ref b17)] [(.int (2 : Int32)), (.int (2 : Int32))])) _
      refine XS.icmpYes X23.here hx rfl (pc0 := 38) (pc' := 52) rfl (hb hby dNm_38) rfl (flt (by decide)).2.2.2 (by decide) (by decide) ?_
      exact Steps.refl _
    have hp : ∀ c ∈ ([x &&& 127, (x.toUInt32 >>> ((8 : Int32) &&& 31).toUInt32).toInt32 &&& 127] : List Int32), ¬ c < 0 ∧ ¬ (127 : Int32) < c := by
      intro c hc
      simp only [List.mem_cons, List.not_mem_nil, or_false] at hc
      rcases hc with rfl | rfl
      · exact own_m127 _
      · exact own_m127 _
    have Vc : Arv Z h23 b17 kA17 .char (2 : Int32) (([x &&& 127, (x.toUInt32 >>> ((8 : Int32) &&& 31).toUInt32).toInt32 &&& 127] : List Int32).map Value.int) (.int 0) := by
      have := V23
      rw [own_nar7, own_nar7] at this
      exact this
    have c25 : Steps p.tables e below S0 (T23.setTop (mkF m 53 #[.val (.int s1), .val (.int x), .val (.int (2 : Int32)), .val (.ref b17)] [(.ref b17)])) := by
      refine c24.trans ?_
      show Steps p.tables e below (T23.setTop (mkF m 52 #[.val (.int s1), .val (.int x), .val (.int (2 : Int32)), .val (.ref b17)] [])) _
      refine XS.aloadN X23.here hx rfl (hb hby dNm_52) rfl rfl ?_
      exact Steps.refl _
    obtain ⟨fs, hr, hrun, hended, hW, hsame⟩ := X23.leave (v := some (.ref b17)) (fun h => by rw [Bd.returns] at h; cases h)
    refine ⟨_, _, c25.trans ?_, hrun, hended, _, _, rfl, ?_, ⟨_, rfl⟩, hW, hsame.mono (by decide) (by decide)⟩
    · show Steps p.tables e below (T23.setTop (mkF m 53 #[.val (.int s1), .val (.int x), .val (.int (2 : Int32)), .val (.ref b17)] [(.ref b17)])) _
      exact retA X23 hx Bd.returns rfl rfl (hb hby dNm_53) hr
    · show QNm Z s1 x h0 n0 _ T23.heap _
      rw [e23]
      exact ⟨⟨_, _, ([x &&& 127, (x.toUInt32 >>> ((8 : Int32) &&& 31).toUInt32).toInt32 &&& 127] : List Int32), rfl, zb, Nat.le_of_ble_eq_true rfl, hp, Vc⟩, Nf, hKp⟩
  · have c26 : Steps p.tables e below S0 (s₁.setTop (mkF m 5 #[.val (.int s1), .val (.int x), .val (.int (3 : Int32)), .unset] [(.int (3 : Int32))])) := by
      refine c1.trans ?_
      show Steps p.tables e below (s₁.setTop (mkF m 3 #[.val (.int s1), .val (.int x), .unset, .unset] [(.int (3 : Int32))])) _
      refine XS.istoreN X0.here hx rfl (hb hby dNm_3) rfl (l' := #[.val (.int s1), .val (.int x), .val (.int (3 : Int32)), .unset]) rfl ?_
      show Steps p.tables e below (s₁.setTop (mkF m 4 #[.val (.int s1), .val (.int x), .val (.int (3 : Int32)), .unset] [])) _
      refine XS.iloadN X0.here hx rfl (hb hby dNm_4) rfl ?_
      exact Steps.refl _
    obtain ⟨T27, h27, kA27, X27, e27, E27, A27, st27⟩ := newP X0 hx hZ (hw _ (List.mem_of_getElem? (i := 4) rfl)) e0 (g := (mkF m 5 #[.val (.int s1), .val (.int x), .val (.int (3 : Int32)), .unset] [(.int (3 : Int32))])) rfl (hb hby dNm_5) rfl (by decide : ¬ ((3 : Int32) < (0 : Int32))) (cap := 3) (by decide) (by decide) (by decide) (by decide)
    obtain ⟨b27, g27⟩ : ∃ z, z = h0.size := ⟨_, rfl⟩
    rw [← g27] at A27 st27
    have c27 : Steps p.tables e below S0 (T27.setTop (mkF m 7 #[.val (.int s1), .val (.int x), .val (.int (3 : Int32)), .unset] [(.ref b27)])) := by
      refine c26.trans ?_
      show Steps p.tables e below (s₁.setTop (mkF m 5 #[.val (.int s1), .val (.int x), .val (.int (3 : Int32)), .unset] [(.int (3 : Int32))])) _
      refine st27 _ ?_
      exact Steps.refl _
    have V27 := Arv.new A27 (by decide)
    have zb : h0.size ≤ b27 := Nat.le_of_eq g27.symm
    have gb : n0 ≤ b27 := Nat.le_trans Z0 zb
    have hKp := (Keep.refl h0 []).ext E27
    have Nf := N0
    have c28 : Steps p.tables e below S0 (T27.setTop (mkF m 12 #[.val (.int s1), .val (.int x), .val (.int (3 : Int32)), .val (.ref b27)] [])) := by
      refine c27.trans ?_
      show Steps p.tables e below (T27.setTop (mkF m 7 #[.val (.int s1), .val (.int x), .val (.int (3 : Int32)), .unset] [(.ref b27)])) _
      refine XS.astoreN X27.here hx rfl (hb hby dNm_7) rfl rfl (l' := #[.val (.int s1), .val (.int x), .val (.int (3 : Int32)), .val (.ref b27)]) rfl ?_
      show Steps p.tables e below (T27.setTop (mkF m 8 #[.val (.int s1), .val (.int x), .val (.int (3 : Int32)), .val (.ref b27)] [])) _
      refine XS.iloadN X27.here hx rfl (hb hby dNm_8) rfl ?_
      show Steps p.tables e below (T27.setTop (mkF m 9 #[.val (.int s1), .val (.int x), .val (.int (3 : Int32)), .val (.ref b27)] [(.int (3 : Int32))])) _
      refine XS.ifNo X27.here hx rfl (hb hby dNm_9) rfl ((if0 _ _).trans (tlt (by decide)).2.2.2) ?_
      exact Steps.refl _
    have c29 : Steps p.tables e below S0 (T27.setTop (mkF m 19 #[.val (.int s1), .val (.int x), .val (.int (3 : Int32)), .val (.ref b27)] [(.int ((x &&& (127 : Int32)).toUInt32.toUInt16.toUInt32.toInt32)), (.int (0 : Int32)), (.ref b27)])) := by
      refine c28.trans ?_
      show Steps p.tables e below (T27.setTop (mkF m 12 #[.val (.int s1), .val (.int x), .val (.int (3 : Int32)), .val (.ref b27)] [])) _
      refine XS.aloadN X27.here hx rfl (hb hby dNm_12) rfl rfl ?_
      show Steps p.tables e below (T27.setTop (mkF m 13 #[.val (.int s1), .val (.int x), .val (.int (3 : Int32)), .val (.ref b27)] [(.ref b27)])) _
      refine XS.iconst X27.here hx rfl (hb hby dNm_13) ?_
      show Steps p.tables e below (T27.setTop (mkF m 14 #[.val (.int s1), .val (.int x), .val (.int (3 : Int32)), .val (.ref b27)] [(.int (0 : Int32)), (.ref b27)])) _
      refine XS.iloadN X27.here hx rfl (hb hby dNm_14) rfl ?_
      show Steps p.tables e below (T27.setTop (mkF m 15 #[.val (.int s1), .val (.int x), .val (.int (3 : Int32)), .val (.ref b27)] [(.int x), (.int (0 : Int32)), (.ref b27)])) _
      refine XS.bipush X27.here hx rfl (hb hby dNm_15) ?_
      show Steps p.tables e below (T27.setTop (mkF m 17 #[.val (.int s1), .val (.int x), .val (.int (3 : Int32)), .val (.ref b27)] [(.int (127 : Int32)), (.int x), (.int (0 : Int32)), (.ref b27)])) _
      refine XS.iand X27.here hx rfl (hb hby dNm_17) rfl ?_
      show Steps p.tables e below (T27.setTop (mkF m 18 #[.val (.int s1), .val (.int x), .val (.int (3 : Int32)), .val (.ref b27)] [(.int (x &&& (127 : Int32))), (.int (0 : Int32)), (.ref b27)])) _
      refine XS.i2c X27.here hx rfl (hb hby dNm_18) rfl ?_
      exact Steps.refl _
    have Vp30 : Arv Z _ b27 kA27 .char (3 : Int32) [(.int 0)] (.int 0) := V27.pad (pad_rep [] (.int 0) 1)
    obtain ⟨cl30, Ar30, qr30, S30, M30, Hs30, U30⟩ := Vp30
    obtain ⟨T30, h30, X30, e30, W30, st30⟩ := stC X27 hx hZ e27 Ar30 (j := (0 : Int32)) (inb_of S30 ⟨(by decide), (by decide)⟩) (g := (mkF m 19 #[.val (.int s1), .val (.int x), .val (.int (3 : Int32)), .val (.ref b27)] [(.int ((x &&& (127 : Int32)).toUInt32.toUInt16.toUInt32.toInt32)), (.int (0 : Int32)), (.ref b27)])) rfl rfl (hb hby dNm_19)
    have V30 : Arv Z h30 b27 kA27 .char (3 : Int32) [(.int (nar .char ((x &&& (127 : Int32)).toUInt32.toUInt16.toUInt32.toInt32)))] (.int 0) := Arv.set Ar30 qr30 S30 M30 Hs30 U30 (fits_nar_char _) W30 0 rfl (Nat.le_of_ble_eq_true rfl)
    have c30 : Steps p.tables e below S0 (T30.setTop (mkF m 20 #[.val (.int s1), .val (.int x), .val (.int (3 : Int32)), .val (.ref b27)] [])) := by
      refine c29.trans ?_
      show Steps p.tables e below (T27.setTop (mkF m 19 #[.val (.int s1), .val (.int x), .val (.int (3 : Int32)), .val (.ref b27)] [(.int ((x &&& (127 : Int32)).toUInt32.toUInt16.toUInt32.toInt32)), (.int (0 : Int32)), (.ref b27)])) _
      refine st30 _ ?_
      exact Steps.refl _
    have Nf := Fr.snoc X30 Nf gb
    have hKp := hKp.wr W30 (Or.inr zb)
    have c31 : Steps p.tables e below S0 (T30.setTop (mkF m 25 #[.val (.int s1), .val (.int x), .val (.int (3 : Int32)), .val (.ref b27)] [])) := by
      refine c30.trans ?_
      show Steps p.tables e below (T30.setTop (mkF m 20 #[.val (.int s1), .val (.int x), .val (.int (3 : Int32)), .val (.ref b27)] [])) _
      refine XS.iloadN X30.here hx rfl (hb hby dNm_20) rfl ?_
      show Steps p.tables e below (T30.setTop (mkF m 21 #[.val (.int s1), .val (.int x), .val (.int (3 : Int32)), .val (.ref b27)] [(.int (3 : Int32))])) _
      refine XS.iconst X30.here hx rfl (hb hby dNm_21) ?_
      show Steps p.tables e below (T30.setTop (mkF m 22 #[.val (.int s1), .val (.int x), .val (.int (3 : Int32)), .val (.ref b27)] [(.int (1 : Int32)), (.int (3 : Int32))])) _
      refine XS.icmpNo X30.here hx rfl (hb hby dNm_22) rfl (tlt (by decide)).2.2.2 ?_
      exact Steps.refl _
    have c32 : Steps p.tables e below S0 (T30.setTop (mkF m 35 #[.val (.int s1), .val (.int x), .val (.int (3 : Int32)), .val (.ref b27)] [(.int ((((x.toUInt32 >>> ((8 : Int32) &&& 31).toUInt32).toInt32) &&& (127 : Int32)).toUInt32.toUInt16.toUInt32.toInt32)), (.int (1 : Int32)), (.ref b27)])) := by
      refine c31.trans ?_
      show Steps p.tables e below (T30.setTop (mkF m 25 #[.val (.int s1), .val (.int x), .val (.int (3 : Int32)), .val (.ref b27)] [])) _
      refine XS.aloadN X30.here hx rfl (hb hby dNm_25) rfl rfl ?_
      show Steps p.tables e below (T30.setTop (mkF m 26 #[.val (.int s1), .val (.int x), .val (.int (3 : Int32)), .val (.ref b27)] [(.ref b27)])) _
      refine XS.iconst X30.here hx rfl (hb hby dNm_26) ?_
      show Steps p.tables e below (T30.setTop (mkF m 27 #[.val (.int s1), .val (.int x), .val (.int (3 : Int32)), .val (.ref b27)] [(.int (1 : Int32)), (.ref b27)])) _
      refine XS.iloadN X30.here hx rfl (hb hby dNm_27) rfl ?_
      show Steps p.tables e below (T30.setTop (mkF m 28 #[.val (.int s1), .val (.int x), .val (.int (3 : Int32)), .val (.ref b27)] [(.int x), (.int (1 : Int32)), (.ref b27)])) _
      refine XS.bipush X30.here hx rfl (hb hby dNm_28) ?_
      show Steps p.tables e below (T30.setTop (mkF m 30 #[.val (.int s1), .val (.int x), .val (.int (3 : Int32)), .val (.ref b27)] [(.int (8 : Int32)), (.int x), (.int (1 : Int32)), (.ref b27)])) _
      refine XS.iushr X30.here hx rfl (hb hby dNm_30) rfl ?_
      show Steps p.tables e below (T30.setTop (mkF m 31 #[.val (.int s1), .val (.int x), .val (.int (3 : Int32)), .val (.ref b27)] [(.int ((x.toUInt32 >>> ((8 : Int32) &&& 31).toUInt32).toInt32)), (.int (1 : Int32)), (.ref b27)])) _
      refine XS.bipush X30.here hx rfl (hb hby dNm_31) ?_
      show Steps p.tables e below (T30.setTop (mkF m 33 #[.val (.int s1), .val (.int x), .val (.int (3 : Int32)), .val (.ref b27)] [(.int (127 : Int32)), (.int ((x.toUInt32 >>> ((8 : Int32) &&& 31).toUInt32).toInt32)), (.int (1 : Int32)), (.ref b27)])) _
      refine XS.iand X30.here hx rfl (hb hby dNm_33) rfl ?_
      show Steps p.tables e below (T30.setTop (mkF m 34 #[.val (.int s1), .val (.int x), .val (.int (3 : Int32)), .val (.ref b27)] [(.int (((x.toUInt32 >>> ((8 : Int32) &&& 31).toUInt32).toInt32) &&& (127 : Int32))), (.int (1 : Int32)), (.ref b27)])) _
      refine XS.i2c X30.here hx rfl (hb hby dNm_34) rfl ?_
      exact Steps.refl _
    have Vp33 : Arv Z _ b27 kA27 .char (3 : Int32) [(.int (nar .char ((x &&& (127 : Int32)).toUInt32.toUInt16.toUInt32.toInt32))), (.int 0)] (.int 0) := V30.pad (pad_rep [(.int (nar .char ((x &&& (127 : Int32)).toUInt32.toUInt16.toUInt32.toInt32)))] (.int 0) 1)
    obtain ⟨cl33, Ar33, qr33, S33, M33, Hs33, U33⟩ := Vp33
    obtain ⟨T33, h33, X33, e33, W33, st33⟩ := stC X30 hx hZ e30 Ar33 (j := (1 : Int32)) (inb_of S33 ⟨(by decide), (by decide)⟩) (g := (mkF m 35 #[.val (.int s1), .val (.int x), .val (.int (3 : Int32)), .val (.ref b27)] [(.int ((((x.toUInt32 >>> ((8 : Int32) &&& 31).toUInt32).toInt32) &&& (127 : Int32)).toUInt32.toUInt16.toUInt32.toInt32)), (.int (1 : Int32)), (.ref b27)])) rfl rfl (hb hby dNm_35)
    have V33 : Arv Z h33 b27 kA27 .char (3 : Int32) [(.int (nar .char ((x &&& (127 : Int32)).toUInt32.toUInt16.toUInt32.toInt32))), (.int (nar .char ((((x.toUInt32 >>> ((8 : Int32) &&& 31).toUInt32).toInt32) &&& (127 : Int32)).toUInt32.toUInt16.toUInt32.toInt32)))] (.int 0) := Arv.set Ar33 qr33 S33 M33 Hs33 U33 (fits_nar_char _) W33 1 rfl (Nat.le_of_ble_eq_true rfl)
    have c33 : Steps p.tables e below S0 (T33.setTop (mkF m 36 #[.val (.int s1), .val (.int x), .val (.int (3 : Int32)), .val (.ref b27)] [])) := by
      refine c32.trans ?_
      show Steps p.tables e below (T30.setTop (mkF m 35 #[.val (.int s1), .val (.int x), .val (.int (3 : Int32)), .val (.ref b27)] [(.int ((((x.toUInt32 >>> ((8 : Int32) &&& 31).toUInt32).toInt32) &&& (127 : Int32)).toUInt32.toUInt16.toUInt32.toInt32)), (.int (1 : Int32)), (.ref b27)])) _
      refine st33 _ ?_
      exact Steps.refl _
    have Nf := Fr.snoc X33 Nf gb
    have hKp := hKp.wr W33 (Or.inr zb)
    have c34 : Steps p.tables e below S0 (T33.setTop (mkF m 41 #[.val (.int s1), .val (.int x), .val (.int (3 : Int32)), .val (.ref b27)] [])) := by
      refine c33.trans ?_
      show Steps p.tables e below (T33.setTop (mkF m 36 #[.val (.int s1), .val (.int x), .val (.int (3 : Int32)), .val (.ref b27)] [])) _
      refine XS.iloadN X33.here hx rfl (hb hby dNm_36) rfl ?_
      show Steps p.tables e below (T33.setTop (mkF m 37 #[.val (.int s1), .val (.int x), .val (.int (3 : Int32)), .val (.ref b27)] [(.int (3 : Int32))])) _
      refine XS.iconst X33.here hx rfl (hb hby dNm_37) ?_
      show Steps p.tables e below (T33.setTop (mkF m 38 #[.val (.int s1), .val (.int x), .val (.int (3 : Int32)), .val (.ref b27)] [(.int (2 : Int32)), (.int (3 : Int32))])) _
      refine XS.icmpNo X33.here hx rfl (hb hby dNm_38) rfl (tlt (by decide)).2.2.2 ?_
      exact Steps.refl _
    have c35 : Steps p.tables e below S0 (T33.setTop (mkF m 51 #[.val (.int s1), .val (.int x), .val (.int (3 : Int32)), .val (.ref b27)] [(.int ((((x.toUInt32 >>> ((16 : Int32) &&& 31).toUInt32).toInt32) &&& (127 : Int32)).toUInt32.toUInt16.toUInt32.toInt32)), (.int (2 : Int32)), (.ref b27)])) := by
      refine c34.trans ?_
      show Steps p.tables e below (T33.setTop (mkF m 41 #[.val (.int s1), .val (.int x), .val (.int (3 : Int32)), .val (.ref b27)] [])) _
      refine XS.aloadN X33.here hx rfl (hb hby dNm_41) rfl rfl ?_
      show Steps p.tables e below (T33.setTop (mkF m 42 #[.val (.int s1), .val (.int x), .val (.int (3 : Int32)), .val (.ref b27)] [(.ref b27)])) _
      refine XS.iconst X33.here hx rfl (hb hby dNm_42) ?_
      show Steps p.tables e below (T33.setTop (mkF m 43 #[.val (.int s1), .val (.int x), .val (.int (3 : Int32)), .val (.ref b27)] [(.int (2 : Int32)), (.ref b27)])) _
      refine XS.iloadN X33.here hx rfl (hb hby dNm_43) rfl ?_
      show Steps p.tables e below (T33.setTop (mkF m 44 #[.val (.int s1), .val (.int x), .val (.int (3 : Int32)), .val (.ref b27)] [(.int x), (.int (2 : Int32)), (.ref b27)])) _
      refine XS.bipush X33.here hx rfl (hb hby dNm_44) ?_
      show Steps p.tables e below (T33.setTop (mkF m 46 #[.val (.int s1), .val (.int x), .val (.int (3 : Int32)), .val (.ref b27)] [(.int (16 : Int32)), (.int x), (.int (2 : Int32)), (.ref b27)])) _
      refine XS.iushr X33.here hx rfl (hb hby dNm_46) rfl ?_
      show Steps p.tables e below (T33.setTop (mkF m 47 #[.val (.int s1), .val (.int x), .val (.int (3 : Int32)), .val (.ref b27)] [(.int ((x.toUInt32 >>> ((16 : Int32) &&& 31).toUInt32).toInt32)), (.int (2 : Int32)), (.ref b27)])) _
      refine XS.bipush X33.here hx rfl (hb hby dNm_47) ?_
      show Steps p.tables e below (T33.setTop (mkF m 49 #[.val (.int s1), .val (.int x), .val (.int (3 : Int32)), .val (.ref b27)] [(.int (127 : Int32)), (.int ((x.toUInt32 >>> ((16 : Int32) &&& 31).toUInt32).toInt32)), (.int (2 : Int32)), (.ref b27)])) _
      refine XS.iand X33.here hx rfl (hb hby dNm_49) rfl ?_
      show Steps p.tables e below (T33.setTop (mkF m 50 #[.val (.int s1), .val (.int x), .val (.int (3 : Int32)), .val (.ref b27)] [(.int (((x.toUInt32 >>> ((16 : Int32) &&& 31).toUInt32).toInt32) &&& (127 : Int32))), (.int (2 : Int32)), (.ref b27)])) _
      refine XS.i2c X33.here hx rfl (hb hby dNm_50) rfl ?_
      exact Steps.refl _
    have Vp36 : Arv Z _ b27 kA27 .char (3 : Int32) [(.int (nar .char ((x &&& (127 : Int32)).toUInt32.toUInt16.toUInt32.toInt32))), (.int (nar .char ((((x.toUInt32 >>> ((8 : Int32) &&& 31).toUInt32).toInt32) &&& (127 : Int32)).toUInt32.toUInt16.toUInt32.toInt32))), (.int 0)] (.int 0) := V33.pad (pad_rep [(.int (nar .char ((x &&& (127 : Int32)).toUInt32.toUInt16.toUInt32.toInt32))), (.int (nar .char ((((x.toUInt32 >>> ((8 : Int32) &&& 31).toUInt32).toInt32) &&& (127 : Int32)).toUInt32.toUInt16.toUInt32.toInt32)))] (.int 0) 1)
    obtain ⟨cl36, Ar36, qr36, S36, M36, Hs36, U36⟩ := Vp36
    obtain ⟨T36, h36, X36, e36, W36, st36⟩ := stC X33 hx hZ e33 Ar36 (j := (2 : Int32)) (inb_of S36 ⟨(by decide), (by decide)⟩) (g := (mkF m 51 #[.val (.int s1), .val (.int x), .val (.int (3 : Int32)), .val (.ref b27)] [(.int ((((x.toUInt32 >>> ((16 : Int32) &&& 31).toUInt32).toInt32) &&& (127 : Int32)).toUInt32.toUInt16.toUInt32.toInt32)), (.int (2 : Int32)), (.ref b27)])) rfl rfl (hb hby dNm_51)
    have V36 : Arv Z h36 b27 kA27 .char (3 : Int32) [(.int (nar .char ((x &&& (127 : Int32)).toUInt32.toUInt16.toUInt32.toInt32))), (.int (nar .char ((((x.toUInt32 >>> ((8 : Int32) &&& 31).toUInt32).toInt32) &&& (127 : Int32)).toUInt32.toUInt16.toUInt32.toInt32))), (.int (nar .char ((((x.toUInt32 >>> ((16 : Int32) &&& 31).toUInt32).toInt32) &&& (127 : Int32)).toUInt32.toUInt16.toUInt32.toInt32)))] (.int 0) := Arv.set Ar36 qr36 S36 M36 Hs36 U36 (fits_nar_char _) W36 2 rfl (Nat.le_of_ble_eq_true rfl)
    have c36 : Steps p.tables e below S0 (T36.setTop (mkF m 52 #[.val (.int s1), .val (.int x), .val (.int (3 : Int32)), .val (.ref b27)] [])) := by
      refine c35.trans ?_
      show Steps p.tables e below (T33.setTop (mkF m 51 #[.val (.int s1), .val (.int x), .val (.int (3 : Int32)), .val (.ref b27)] [(.int ((((x.toUInt32 >>> ((16 : Int32) &&& 31).toUInt32).toInt32) &&& (127 : Int32)).toUInt32.toUInt16.toUInt32.toInt32)), (.int (2 : Int32)), (.ref b27)])) _
      refine st36 _ ?_
      exact Steps.refl _
    have Nf := Fr.snoc X36 Nf gb
    have hKp := hKp.wr W36 (Or.inr zb)
    have hp : ∀ c ∈ ([x &&& 127, (x.toUInt32 >>> ((8 : Int32) &&& 31).toUInt32).toInt32 &&& 127, (x.toUInt32 >>> ((16 : Int32) &&& 31).toUInt32).toInt32 &&& 127] : List Int32), ¬ c < 0 ∧ ¬ (127 : Int32) < c := by
      intro c hc
      simp only [List.mem_cons, List.not_mem_nil, or_false] at hc
      rcases hc with rfl | rfl | rfl
      · exact own_m127 _
      · exact own_m127 _
      · exact own_m127 _
    have Vc : Arv Z h36 b27 kA27 .char (3 : Int32) (([x &&& 127, (x.toUInt32 >>> ((8 : Int32) &&& 31).toUInt32).toInt32 &&& 127, (x.toUInt32 >>> ((16 : Int32) &&& 31).toUInt32).toInt32 &&& 127] : List Int32).map Value.int) (.int 0) := by
      have := V36
      rw [own_nar7, own_nar7, own_nar7] at this
      exact this
    have c37 : Steps p.tables e below S0 (T36.setTop (mkF m 53 #[.val (.int s1), .val (.int x), .val (.int (3 : Int32)), .val (.ref b27)] [(.ref b27)])) := by
      refine c36.trans ?_
      show Steps p.tables e below (T36.setTop (mkF m 52 #[.val (.int s1), .val (.int x), .val (.int (3 : Int32)), .val (.ref b27)] [])) _
      refine XS.aloadN X36.here hx rfl (hb hby dNm_52) rfl rfl ?_
      exact Steps.refl _
    obtain ⟨fs, hr, hrun, hended, hW, hsame⟩ := X36.leave (v := some (.ref b27)) (fun h => by rw [Bd.returns] at h; cases h)
    refine ⟨_, _, c37.trans ?_, hrun, hended, _, _, rfl, ?_, ⟨_, rfl⟩, hW, hsame.mono (by decide) (by decide)⟩
    · show Steps p.tables e below (T36.setTop (mkF m 53 #[.val (.int s1), .val (.int x), .val (.int (3 : Int32)), .val (.ref b27)] [(.ref b27)])) _
      exact retA X36 hx Bd.returns rfl rfl (hb hby dNm_53) hr
    · show QNm Z s1 x h0 n0 _ T36.heap _
      rw [e36]
      exact ⟨⟨_, _, ([x &&& 127, (x.toUInt32 >>> ((8 : Int32) &&& 31).toUInt32).toInt32 &&& 127, (x.toUInt32 >>> ((16 : Int32) &&& 31).toUInt32).toInt32 &&& 127] : List Int32), rfl, zb, Nat.le_of_ble_eq_true rfl, hp, Vc⟩, Nf, hKp⟩
def QTl (Z : State) (b : Addr) (kb : ClassId) (cs : List Int32) (off : Nat) (a : Addr) (ka : ClassId) (ds : List Int32) (h0 : Heap) (n0 : Nat) (v : Option Value) (h : Heap) (L : List Loc) : Prop := v = some (.int 1) ∧ Fr n0 L ∧ h = h0
theorem efTl (m : MethodId) (b : Addr) (off : Nat) (a : Addr) : entryFrame m #[(.ref b), (.int (Int32.ofNat off)), (.ref a)] 5 = mkF m 0 #[.val (.ref b), .val (.int (Int32.ofNat off)), .val (.ref a), .unset, .unset] [] := by first | (simp [entryFrame, mkF, argsToLocals, Value.category, List.replicate]; done) | rfl
set_option maxRecDepth 65536 in
set_option maxHeartbeats 40000000 in
theorem rmTl (l : Launch) (Z : State) (a0 : Array Value) (hw : ∀ d ∈ tables_1, d.before a0 Z = true) (ws : List Jvm.Cond) (b : Addr) (kb : ClassId) (cs : List Int32) (off : Nat) (a : Addr) (ka : ClassId) (ds : List Int32) (h0 : Heap) (n0 : Nat) (Z0 : n0 ≤ h0.size) (Vb : Arv Z h0 b kb .byte (Int32.ofNat cs.length) (own_by cs) (.int 0)) (hp : ∀ c ∈ cs, ¬ c < 0 ∧ ¬ (127 : Int32) < c) (hn : cs.length ≤ 100) (Va : Arv Z h0 a ka .char (Int32.ofNat ds.length) (ds.map Value.int) (.int 0)) (hd : ds.length ≤ 3) (hfit : off + ds.length + 4 ≤ cs.length) (q0 : cs.getD off 0 = 60) (q1 : cs.getD (off + 1) 0 = 47) (qs : ∀ j, j < ds.length → cs.getD (off + 2 + j) 0 = ds.getD j 0) (q2 : cs.getD (off + 2 + ds.length) 0 = 62) (q3 : cs.getD (off + 2 + ds.length + 1) 0 = 10) :
    MetFree l (⟨"com/example/waybill/waybill/board/HtmlClosePinLaw", "tail", "([BI[C)Z"⟩ : MethodName) (head1 (Jvm.Cond.code (⟨"com/example/waybill/waybill/board/HtmlClosePinLaw", "tail", "([BI[C)Z"⟩ : MethodName) method_4_code 5 (some .boolean) :: ws) ({ frames := 0, cells := 0, slots := 0, locals := 0 } : Room)) (fun aa UU => aa = #[(.ref b), (.int (Int32.ofNat off)), (.ref a)] ∧ Z.Warmed39 UU.vm ∧ UU.heap = h0) (fun _ _ _ _ _ => True) (fun _ UU oo UT => ∃ vv LL, oo = .returned vv ∧ QTl Z b kb cs off a ka ds h0 n0 vv UT.heap LL ∧ FrameEnd UU oo UT LL ({ frames := 0, cells := 0, slots := 0, locals := 0 } : Room).cells ({ frames := 0, cells := 0, slots := 0, locals := 0 } : Room).slots) := by
  refine MetFree.of_bodySF (plainFor_of_name pn1) hisR ?_
  intro p e s m args below meth c s₁ Bd hml0 hP hK
  obtain ⟨rfl, hZ, hh⟩ := hP
  have hx := Bd.exec
  have hby := Bd.bytes
  have hml : c.maxLocals = 5 := hml0
  have hown : s.vm.findClass "com/example/waybill/waybill/board/HtmlClosePinLaw" = some m.cls := findClass_of_methodNamed Bd.named
  have hnm := (name_of_methodNamed Bd.named Bd.method).1
  have X0 : Stand p l e ({ frames := 0, cells := 0, slots := 0, locals := 0 } : Room) s m #[(.ref b), (.int (Int32.ofNat off)), (.ref a)] below meth c s₁ [] 0 0 := Stand.of_body Bd
  have e0 : s₁.heap = h0 := by rw [← hh, Bd.state]; rfl
  have N0 := Fr.nil n0
  have c0 : Steps p.tables e below (s₁.setTop (entryFrame m #[(.ref b), (.int (Int32.ofNat off)), (.ref a)] 5)) (s₁.setTop (mkF m 0 #[.val (.ref b), .val (.int (Int32.ofNat off)), .val (.ref a), .unset, .unset] [])) := castTop (efTl m b off a) (Steps.refl _)
  show ∃ s₂ oo, Steps p.tables e below (s₁.setTop (entryFrame m #[(.ref b), (.int (Int32.ofNat off)), (.ref a)] 5)) s₂ ∧ _ ∧ _ ∧ _
  generalize s₁.setTop (entryFrame m #[(.ref b), (.int (Int32.ofNat off)), (.ref a)] 5) = S0 at c0 ⊢
  obtain ⟨cl, Ar, -, Sz, Mz, -, -⟩ := id Va
  have c1 : Steps p.tables e below S0 (s₁.setTop (mkF m 1 #[.val (.ref b), .val (.int (Int32.ofNat off)), .val (.ref a), .unset, .unset] [(.ref a)])) := by
    refine c0.trans ?_
    show Steps p.tables e below (s₁.setTop (mkF m 0 #[.val (.ref b), .val (.int (Int32.ofNat off)), .val (.ref a), .unset, .unset] [])) _
    refine XS.aloadN X0.here hx rfl (hb hby dTl_0) rfl rfl ?_
    exact Steps.refl _
  have c2 : Steps p.tables e below S0 (s₁.setTop (mkF m 2 #[.val (.ref b), .val (.int (Int32.ofNat off)), .val (.ref a), .unset, .unset] [(.int (Int32.ofNat ds.length))])) := by
    refine c1.trans ?_
    show Steps p.tables e below (s₁.setTop (mkF m 1 #[.val (.ref b), .val (.int (Int32.ofNat off)), .val (.ref a), .unset, .unset] [(.ref a)])) _
    refine X0.arraylength hx (by rw [e0]; exact Ar.1) (State.isArrayOf_alike hZ.alike Ar.2.1) (g := (mkF m 1 #[.val (.ref b), .val (.int (Int32.ofNat off)), .val (.ref a), .unset, .unset] [(.ref a)])) rfl rfl (hb hby dTl_1) _ ?_
    rw [len_of Sz Mz]
    exact Steps.refl _
  have c3 : Steps p.tables e below S0 (s₁.setTop (mkF m 5 #[.val (.ref b), .val (.int (Int32.ofNat off)), .val (.ref a), .val (.int (Int32.ofNat ds.length)), .unset] [(.int (Int32.ofNat off)), (.ref b)])) := by
    refine c2.trans ?_
    show Steps p.tables e below (s₁.setTop (mkF m 2 #[.val (.ref b), .val (.int (Int32.ofNat off)), .val (.ref a), .unset, .unset] [(.int (Int32.ofNat ds.length))])) _
    refine XS.istoreN X0.here hx rfl (hb hby dTl_2) rfl (l' := #[.val (.ref b), .val (.int (Int32.ofNat off)), .val (.ref a), .val (.int (Int32.ofNat ds.length)), .unset]) rfl ?_
    show Steps p.tables e below (s₁.setTop (mkF m 3 #[.val (.ref b), .val (.int (Int32.ofNat off)), .val (.ref a), .val (.int (Int32.ofNat ds.length)), .unset] [])) _
    refine XS.aloadN X0.here hx rfl (hb hby dTl_3) rfl rfl ?_
    show Steps p.tables e below (s₁.setTop (mkF m 4 #[.val (.ref b), .val (.int (Int32.ofNat off)), .val (.ref a), .val (.int (Int32.ofNat ds.length)), .unset] [(.ref b)])) _
    refine XS.iloadN X0.here hx rfl (hb hby dTl_4) rfl ?_
    exact Steps.refl _
  obtain ⟨cl4, Ar4, in4, hv4⟩ := own_ld Vb (by omega) (i := off) (by omega) (j := (Int32.ofNat off)) rfl (v := (.int (cs.getD off 0))) (own_by7 hp _)
  have c4 : Steps p.tables e below S0 (s₁.setTop (mkF m 6 #[.val (.ref b), .val (.int (Int32.ofNat off)), .val (.ref a), .val (.int (Int32.ofNat ds.length)), .unset] [(.int (cs.getD off 0))])) := by
    refine c3.trans ?_
    show Steps p.tables e below (s₁.setTop (mkF m 5 #[.val (.ref b), .val (.int (Int32.ofNat off)), .val (.ref a), .val (.int (Int32.ofNat ds.length)), .unset] [(.int (Int32.ofNat off)), (.ref b)])) _
    refine X0.baloadBytes hx (j := (Int32.ofNat off)) (by rw [e0]; exact Ar4.1) (State.isArrayOf_alike hZ.alike Ar4.2.1) Ar4.2.2 in4 hv4 (g := (mkF m 5 #[.val (.ref b), .val (.int (Int32.ofNat off)), .val (.ref a), .val (.int (Int32.ofNat ds.length)), .unset] [(.int (Int32.ofNat off)), (.ref b)])) rfl rfl (hb hby dTl_5) _ ?_
    exact Steps.refl _
  have c5 : Steps p.tables e below S0 (s₁.setTop (mkF m 11 #[.val (.ref b), .val (.int (Int32.ofNat off)), .val (.ref a), .val (.int (Int32.ofNat ds.length)), .unset] [])) := by
    refine c4.trans ?_
    show Steps p.tables e below (s₁.setTop (mkF m 6 #[.val (.ref b), .val (.int (Int32.ofNat off)), .val (.ref a), .val (.int (Int32.ofNat ds.length)), .unset] [(.int (cs.getD off 0))])) _
    refine XS.bipush X0.here hx rfl (hb hby dTl_6) ?_
    show Steps p.tables e below (s₁.setTop (mkF m 8 #[.val (.ref b), .val (.int (Int32.ofNat off)), .val (.ref a), .val (.int (Int32.ofNat ds.length)), .unset] [(.int (60 : Int32)), (.int (cs.getD off 0))])) _
    refine XS.icmpNo X0.here hx rfl (hb hby dTl_8) rfl (teq q0).2 ?_
    exact Steps.refl _
  have c6 : Steps p.tables e below S0 (s₁.setTop (mkF m 15 #[.val (.ref b), .val (.int (Int32.ofNat off)), .val (.ref a), .val (.int (Int32.ofNat ds.length)), .unset] [(.int ((Int32.ofNat off) + (1 : Int32))), (.ref b)])) := by
    refine c5.trans ?_
    show Steps p.tables e below (s₁.setTop (mkF m 11 #[.val (.ref b), .val (.int (Int32.ofNat off)), .val (.ref a), .val (.int (Int32.ofNat ds.length)), .unset] [])) _
    refine XS.aloadN X0.here hx rfl (hb hby dTl_11) rfl rfl ?_
    show Steps p.tables e below (s₁.setTop (mkF m 12 #[.val (.ref b), .val (.int (Int32.ofNat off)), .val (.ref a), .val (.int (Int32.ofNat ds.length)), .unset] [(.ref b)])) _
    refine XS.iloadN X0.here hx rfl (hb hby dTl_12) rfl ?_
    show Steps p.tables e below (s₁.setTop (mkF m 13 #[.val (.ref b), .val (.int (Int32.ofNat off)), .val (.ref a), .val (.int (Int32.ofNat ds.length)), .unset] [(.int (Int32.ofNat off)), (.ref b)])) _
    refine XS.iconst X0.here hx rfl (hb hby dTl_13) ?_
    show Steps p.tables e below (s₁.setTop (mkF m 14 #[.val (.ref b), .val (.int (Int32.ofNat off)), .val (.ref a), .val (.int (Int32.ofNat ds.length)), .unset] [(.int (1 : Int32)), (.int (Int32.ofNat off)), (.ref b)])) _
    refine XS.iadd X0.here hx rfl (hb hby dTl_14) rfl ?_
    exact Steps.refl _
  obtain ⟨cl7, Ar7, in7, hv7⟩ := own_ld Vb (by omega) (i := (off + 1)) (by omega) (j := ((Int32.ofNat off) + (1 : Int32))) (own_addn (b := 1) (by omega)) (v := (.int (cs.getD (off + 1) 0))) (own_by7 hp _)
  have c7 : Steps p.tables e below S0 (s₁.setTop (mkF m 16 #[.val (.ref b), .val (.int (Int32.ofNat off)), .val (.ref a), .val (.int (Int32.ofNat ds.length)), .unset] [(.int (cs.getD (off + 1) 0))])) := by
    refine c6.trans ?_
    show Steps p.tables e below (s₁.setTop (mkF m 15 #[.val (.ref b), .val (.int (Int32.ofNat off)), .val (.ref a), .val (.int (Int32.ofNat ds.length)), .unset] [(.int ((Int32.ofNat off) + (1 : Int32))), (.ref b)])) _
    refine X0.baloadBytes hx (j := ((Int32.ofNat off) + (1 : Int32))) (by rw [e0]; exact Ar7.1) (State.isArrayOf_alike hZ.alike Ar7.2.1) Ar7.2.2 in7 hv7 (g := (mkF m 15 #[.val (.ref b), .val (.int (Int32.ofNat off)), .val (.ref a), .val (.int (Int32.ofNat ds.length)), .unset] [(.int ((Int32.ofNat off) + (1 : Int32))), (.ref b)])) rfl rfl (hb hby dTl_15) _ ?_
    exact Steps.refl _
  have c8 : Steps p.tables e below S0 (s₁.setTop (mkF m 23 #[.val (.ref b), .val (.int (Int32.ofNat off)), .val (.ref a), .val (.int (Int32.ofNat ds.length)), .unset] [])) := by
    refine c7.trans ?_
    show Steps p.tables e below (s₁.setTop (mkF m 16 #[.val (.ref b), .val (.int (Int32.ofNat off)), .val (.ref a), .val (.int (Int32.ofNat ds.length)), .unset] [(.int (cs.getD (off + 1) 0))])) _
    refine XS.bipush X0.here hx rfl (hb hby dTl_16) ?_
    show Steps p.tables e below (s₁.setTop (mkF m 18 #[.val (.ref b), .val (.int (Int32.ofNat off)), .val (.ref a), .val (.int (Int32.ofNat ds.length)), .unset] [(.int (47 : Int32)), (.int (cs.getD (off + 1) 0))])) _
    refine XS.icmpYes X0.here hx rfl (pc0 := 18) (pc' := 23) rfl (hb hby dTl_18) rfl (teq q1).1 (by decide) (by decide) ?_
    exact Steps.refl _
  have c16 : Steps p.tables e below S0 (s₁.setTop (mkF m 40 #[.val (.ref b), .val (.int (Int32.ofNat off)), .val (.ref a), .val (.int (Int32.ofNat ds.length)), .unset] [])) := by
    by_cases hg : ds.length ≤ 0
    · have c15 : Steps p.tables e below S0 (s₁.setTop (mkF m 40 #[.val (.ref b), .val (.int (Int32.ofNat off)), .val (.ref a), .val (.int (Int32.ofNat ds.length)), .unset] [])) := by
        refine c8.trans ?_
        show Steps p.tables e below (s₁.setTop (mkF m 23 #[.val (.ref b), .val (.int (Int32.ofNat off)), .val (.ref a), .val (.int (Int32.ofNat ds.length)), .unset] [])) _
        refine XS.iloadN X0.here hx rfl (hb hby dTl_23) rfl ?_
        show Steps p.tables e below (s₁.setTop (mkF m 24 #[.val (.ref b), .val (.int (Int32.ofNat off)), .val (.ref a), .val (.int (Int32.ofNat ds.length)), .unset] [(.int (Int32.ofNat ds.length))])) _
        refine XS.ifYes X0.here hx rfl (pc0 := 24) (pc' := 40) rfl (hb hby dTl_24) rfl ((if0 _ _).trans (flt (fun q => by have := (own_ltn (a := 0) (by omega) (by omega)).mp q; omega)).2.2.2) (by decide) (by decide) ?_
        exact Steps.refl _
      exact c15
    · have hj : 0 < ds.length := by omega
      have c9 : Steps p.tables e below S0 (s₁.setTop (mkF m 27 #[.val (.ref b), .val (.int (Int32.ofNat off)), .val (.ref a), .val (.int (Int32.ofNat ds.length)), .unset] [])) := by
        refine c8.trans ?_
        show Steps p.tables e below (s₁.setTop (mkF m 23 #[.val (.ref b), .val (.int (Int32.ofNat off)), .val (.ref a), .val (.int (Int32.ofNat ds.length)), .unset] [])) _
        refine XS.iloadN X0.here hx rfl (hb hby dTl_23) rfl ?_
        show Steps p.tables e below (s₁.setTop (mkF m 24 #[.val (.ref b), .val (.int (Int32.ofNat off)), .val (.ref a), .val (.int (Int32.ofNat ds.length)), .unset] [(.int (Int32.ofNat ds.length))])) _
        refine XS.ifNo X0.here hx rfl (hb hby dTl_24) rfl ((if0 _ _).trans (tlt ((own_ltn (a := 0) (by omega) (by omega)).mpr (by omega))).2.2.2) ?_
        exact Steps.refl _
      have c10 : Steps p.tables e below S0 (s₁.setTop (mkF m 31 #[.val (.ref b), .val (.int (Int32.ofNat off)), .val (.ref a), .val (.int (Int32.ofNat ds.length)), .unset] [(.int ((Int32.ofNat off) + (2 : Int32))), (.ref b)])) := by
        refine c9.trans ?_
        show Steps p.tables e below (s₁.setTop (mkF m 27 #[.val (.ref b), .val (.int (Int32.ofNat off)), .val (.ref a), .val (.int (Int32.ofNat ds.length)), .unset] [])) _
        refine XS.aloadN X0.here hx rfl (hb hby dTl_27) rfl rfl ?_
        show Steps p.tables e below (s₁.setTop (mkF m 28 #[.val (.ref b), .val (.int (Int32.ofNat off)), .val (.ref a), .val (.int (Int32.ofNat ds.length)), .unset] [(.ref b)])) _
        refine XS.iloadN X0.here hx rfl (hb hby dTl_28) rfl ?_
        show Steps p.tables e below (s₁.setTop (mkF m 29 #[.val (.ref b), .val (.int (Int32.ofNat off)), .val (.ref a), .val (.int (Int32.ofNat ds.length)), .unset] [(.int (Int32.ofNat off)), (.ref b)])) _
        refine XS.iconst X0.here hx rfl (hb hby dTl_29) ?_
        show Steps p.tables e below (s₁.setTop (mkF m 30 #[.val (.ref b), .val (.int (Int32.ofNat off)), .val (.ref a), .val (.int (Int32.ofNat ds.length)), .unset] [(.int (2 : Int32)), (.int (Int32.ofNat off)), (.ref b)])) _
        refine XS.iadd X0.here hx rfl (hb hby dTl_30) rfl ?_
        exact Steps.refl _
      have ha : Int32.ofNat off + (2 : Int32) = Int32.ofNat (off + 2 + 0) := own_addn (b := 2) (by omega)
      obtain ⟨cl11, Ar11, in11, hv11⟩ := own_ld Vb (by omega) (i := (off + 2 + 0)) (by omega) (j := ((Int32.ofNat off) + (2 : Int32))) ha (v := (.int (cs.getD (off + 2 + 0) 0))) (own_by7 hp _)
      have c11 : Steps p.tables e below S0 (s₁.setTop (mkF m 32 #[.val (.ref b), .val (.int (Int32.ofNat off)), .val (.ref a), .val (.int (Int32.ofNat ds.length)), .unset] [(.int (cs.getD (off + 2 + 0) 0))])) := by
        refine c10.trans ?_
        show Steps p.tables e below (s₁.setTop (mkF m 31 #[.val (.ref b), .val (.int (Int32.ofNat off)), .val (.ref a), .val (.int (Int32.ofNat ds.length)), .unset] [(.int ((Int32.ofNat off) + (2 : Int32))), (.ref b)])) _
        refine X0.baloadBytes hx (j := ((Int32.ofNat off) + (2 : Int32))) (by rw [e0]; exact Ar11.1) (State.isArrayOf_alike hZ.alike Ar11.2.1) Ar11.2.2 in11 hv11 (g := (mkF m 31 #[.val (.ref b), .val (.int (Int32.ofNat off)), .val (.ref a), .val (.int (Int32.ofNat ds.length)), .unset] [(.int ((Int32.ofNat off) + (2 : Int32))), (.ref b)])) rfl rfl (hb hby dTl_31) _ ?_
        exact Steps.refl _
      have c12 : Steps p.tables e below S0 (s₁.setTop (mkF m 34 #[.val (.ref b), .val (.int (Int32.ofNat off)), .val (.ref a), .val (.int (Int32.ofNat ds.length)), .unset] [(.int (0 : Int32)), (.ref a), (.int (cs.getD (off + 2 + 0) 0))])) := by
        refine c11.trans ?_
        show Steps p.tables e below (s₁.setTop (mkF m 32 #[.val (.ref b), .val (.int (Int32.ofNat off)), .val (.ref a), .val (.int (Int32.ofNat ds.length)), .unset] [(.int (cs.getD (off + 2 + 0) 0))])) _
        refine XS.aloadN X0.here hx rfl (hb hby dTl_32) rfl rfl ?_
        show Steps p.tables e below (s₁.setTop (mkF m 33 #[.val (.ref b), .val (.int (Int32.ofNat off)), .val (.ref a), .val (.int (Int32.ofNat ds.length)), .unset] [(.ref a), (.int (cs.getD (off + 2 + 0) 0))])) _
        refine XS.iconst X0.here hx rfl (hb hby dTl_33) ?_
        exact Steps.refl _
      obtain ⟨cl13, Ar13, in13, hv13⟩ := own_ld Va (by omega) (i := 0) (by omega) (j := (0 : Int32)) rfl (v := (.int (ds.getD 0 0))) (own_chget ds 0)
      have c13 : Steps p.tables e below S0 (s₁.setTop (mkF m 35 #[.val (.ref b), .val (.int (Int32.ofNat off)), .val (.ref a), .val (.int (Int32.ofNat ds.length)), .unset] [(.int (ds.getD 0 0)), (.int (cs.getD (off + 2 + 0) 0))])) := by
        refine c12.trans ?_
        show Steps p.tables e below (s₁.setTop (mkF m 34 #[.val (.ref b), .val (.int (Int32.ofNat off)), .val (.ref a), .val (.int (Int32.ofNat ds.length)), .unset] [(.int (0 : Int32)), (.ref a), (.int (cs.getD (off + 2 + 0) 0))])) _
        refine X0.caload hx (j := (0 : Int32)) (by rw [e0]; exact Ar13.1) (State.isArrayOf_alike hZ.alike Ar13.2.1) Ar13.2.2 in13 hv13 (g := (mkF m 34 #[.val (.ref b), .val (.int (Int32.ofNat off)), .val (.ref a), .val (.int (Int32.ofNat ds.length)), .unset] [(.int (0 : Int32)), (.ref a), (.int (cs.getD (off + 2 + 0) 0))])) rfl rfl (hb hby dTl_34) _ ?_
        exact Steps.refl _
      have c14 : Steps p.tables e below S0 (s₁.setTop (mkF m 40 #[.val (.ref b), .val (.int (Int32.ofNat off)), .val (.ref a), .val (.int (Int32.ofNat ds.length)), .unset] [])) := by
        refine c13.trans ?_
        show Steps p.tables e below (s₁.setTop (mkF m 35 #[.val (.ref b), .val (.int (Int32.ofNat off)), .val (.ref a), .val (.int (Int32.ofNat ds.length)), .unset] [(.int (ds.getD 0 0)), (.int (cs.getD (off + 2 + 0) 0))])) _
        refine XS.icmpYes X0.here hx rfl (pc0 := 35) (pc' := 40) rfl (hb hby dTl_35) rfl (teq (qs 0 hj)).1 (by decide) (by decide) ?_
        exact Steps.refl _
      exact c14
  have c24 : Steps p.tables e below S0 (s₁.setTop (mkF m 58 #[.val (.ref b), .val (.int (Int32.ofNat off)), .val (.ref a), .val (.int (Int32.ofNat ds.length)), .unset] [])) := by
    by_cases hg : ds.length ≤ 1
    · have c23 : Steps p.tables e below S0 (s₁.setTop (mkF m 58 #[.val (.ref b), .val (.int (Int32.ofNat off)), .val (.ref a), .val (.int (Int32.ofNat ds.length)), .unset] [])) := by
        refine c16.trans ?_
        show Steps p.tables e below (s₁.setTop (mkF m 40 #[.val (.ref b), .val (.int (Int32.ofNat off)), .val (.ref a), .val (.int (Int32.ofNat ds.length)), .unset] [])) _
        refine XS.iloadN X0.here hx rfl (hb hby dTl_40) rfl ?_
        show Steps p.tables e below (s₁.setTop (mkF m 41 #[.val (.ref b), .val (.int (Int32.ofNat off)), .val (.ref a), .val (.int (Int32.ofNat ds.length)), .unset] [(.int (Int32.ofNat ds.length))])) _
        refine XS.iconst X0.here hx rfl (hb hby dTl_41) ?_
        show Steps p.tables e below (s₁.setTop (mkF m 42 #[.val (.ref b), .val (.int (Int32.ofNat off)), .val (.ref a), .val (.int (Int32.ofNat ds.length)), .unset] [(.int (1 : Int32)), (.int (Int32.ofNat ds.length))])) _
        refine XS.icmpYes X0.here hx rfl (pc0 := 42) (pc' := 58) rfl (hb hby dTl_42) rfl (flt (fun q => by have := (own_ltn (a := 1) (by omega) (by omega)).mp q; omega)).2.2.2 (by decide) (by decide) ?_
        exact Steps.refl _
      exact c23
    · have hj : 1 < ds.length := by omega
      have c17 : Steps p.tables e below S0 (s₁.setTop (mkF m 45 #[.val (.ref b), .val (.int (Int32.ofNat off)), .val (.ref a), .val (.int (Int32.ofNat ds.length)), .unset] [])) := by
        refine c16.trans ?_
        show Steps p.tables e below (s₁.setTop (mkF m 40 #[.val (.ref b), .val (.int (Int32.ofNat off)), .val (.ref a), .val (.int (Int32.ofNat ds.length)), .unset] [])) _
        refine XS.iloadN X0.here hx rfl (hb hby dTl_40) rfl ?_
        show Steps p.tables e below (s₁.setTop (mkF m 41 #[.val (.ref b), .val (.int (Int32.ofNat off)), .val (.ref a), .val (.int (Int32.ofNat ds.length)), .unset] [(.int (Int32.ofNat ds.length))])) _
        refine XS.iconst X0.here hx rfl (hb hby dTl_41) ?_
        show Steps p.tables e below (s₁.setTop (mkF m 42 #[.val (.ref b), .val (.int (Int32.ofNat off)), .val (.ref a), .val (.int (Int32.ofNat ds.length)), .unset] [(.int (1 : Int32)), (.int (Int32.ofNat ds.length))])) _
        refine XS.icmpNo X0.here hx rfl (hb hby dTl_42) rfl (tlt ((own_ltn (a := 1) (by omega) (by omega)).mpr (by omega))).2.2.2 ?_
        exact Steps.refl _
      have c18 : Steps p.tables e below S0 (s₁.setTop (mkF m 49 #[.val (.ref b), .val (.int (Int32.ofNat off)), .val (.ref a), .val (.int (Int32.ofNat ds.length)), .unset] [(.int ((Int32.ofNat off) + (3 : Int32))), (.ref b)])) := by
        refine c17.trans ?_
        show Steps p.tables e below (s₁.setTop (mkF m 45 #[.val (.ref b), .val (.int (Int32.ofNat off)), .val (.ref a), .val (.int (Int32.ofNat ds.length)), .unset] [])) _
        refine XS.aloadN X0.here hx rfl (hb hby dTl_45) rfl rfl ?_
        show Steps p.tables e below (s₁.setTop (mkF m 46 #[.val (.ref b), .val (.int (Int32.ofNat off)), .val (.ref a), .val (.int (Int32.ofNat ds.length)), .unset] [(.ref b)])) _
        refine XS.iloadN X0.here hx rfl (hb hby dTl_46) rfl ?_
        show Steps p.tables e below (s₁.setTop (mkF m 47 #[.val (.ref b), .val (.int (Int32.ofNat off)), .val (.ref a), .val (.int (Int32.ofNat ds.length)), .unset] [(.int (Int32.ofNat off)), (.ref b)])) _
        refine XS.iconst X0.here hx rfl (hb hby dTl_47) ?_
        show Steps p.tables e below (s₁.setTop (mkF m 48 #[.val (.ref b), .val (.int (Int32.ofNat off)), .val (.ref a), .val (.int (Int32.ofNat ds.length)), .unset] [(.int (3 : Int32)), (.int (Int32.ofNat off)), (.ref b)])) _
        refine XS.iadd X0.here hx rfl (hb hby dTl_48) rfl ?_
        exact Steps.refl _
      have ha : Int32.ofNat off + (3 : Int32) = Int32.ofNat (off + 2 + 1) := own_addn (b := 3) (by omega)
      obtain ⟨cl19, Ar19, in19, hv19⟩ := own_ld Vb (by omega) (i := (off + 2 + 1)) (by omega) (j := ((Int32.ofNat off) + (3 : Int32))) ha (v := (.int (cs.getD (off + 2 + 1) 0))) (own_by7 hp _)
      have c19 : Steps p.tables e below S0 (s₁.setTop (mkF m 50 #[.val (.ref b), .val (.int (Int32.ofNat off)), .val (.ref a), .val (.int (Int32.ofNat ds.length)), .unset] [(.int (cs.getD (off + 2 + 1) 0))])) := by
        refine c18.trans ?_
        show Steps p.tables e below (s₁.setTop (mkF m 49 #[.val (.ref b), .val (.int (Int32.ofNat off)), .val (.ref a), .val (.int (Int32.ofNat ds.length)), .unset] [(.int ((Int32.ofNat off) + (3 : Int32))), (.ref b)])) _
        refine X0.baloadBytes hx (j := ((Int32.ofNat off) + (3 : Int32))) (by rw [e0]; exact Ar19.1) (State.isArrayOf_alike hZ.alike Ar19.2.1) Ar19.2.2 in19 hv19 (g := (mkF m 49 #[.val (.ref b), .val (.int (Int32.ofNat off)), .val (.ref a), .val (.int (Int32.ofNat ds.length)), .unset] [(.int ((Int32.ofNat off) + (3 : Int32))), (.ref b)])) rfl rfl (hb hby dTl_49) _ ?_
        exact Steps.refl _
      have c20 : Steps p.tables e below S0 (s₁.setTop (mkF m 52 #[.val (.ref b), .val (.int (Int32.ofNat off)), .val (.ref a), .val (.int (Int32.ofNat ds.length)), .unset] [(.int (1 : Int32)), (.ref a), (.int (cs.getD (off + 2 + 1) 0))])) := by
        refine c19.trans ?_
        show Steps p.tables e below (s₁.setTop (mkF m 50 #[.val (.ref b), .val (.int (Int32.ofNat off)), .val (.ref a), .val (.int (Int32.ofNat ds.length)), .unset] [(.int (cs.getD (off + 2 + 1) 0))])) _
        refine XS.aloadN X0.here hx rfl (hb hby dTl_50) rfl rfl ?_
        show Steps p.tables e below (s₁.setTop (mkF m 51 #[.val (.ref b), .val (.int (Int32.ofNat off)), .val (.ref a), .val (.int (Int32.ofNat ds.length)), .unset] [(.ref a), (.int (cs.getD (off + 2 + 1) 0))])) _
        refine XS.iconst X0.here hx rfl (hb hby dTl_51) ?_
        exact Steps.refl _
      obtain ⟨cl21, Ar21, in21, hv21⟩ := own_ld Va (by omega) (i := 1) (by omega) (j := (1 : Int32)) rfl (v := (.int (ds.getD 1 0))) (own_chget ds 1)
      have c21 : Steps p.tables e below S0 (s₁.setTop (mkF m 53 #[.val (.ref b), .val (.int (Int32.ofNat off)), .val (.ref a), .val (.int (Int32.ofNat ds.length)), .unset] [(.int (ds.getD 1 0)), (.int (cs.getD (off + 2 + 1) 0))])) := by
        refine c20.trans ?_
        show Steps p.tables e below (s₁.setTop (mkF m 52 #[.val (.ref b), .val (.int (Int32.ofNat off)), .val (.ref a), .val (.int (Int32.ofNat ds.length)), .unset] [(.int (1 : Int32)), (.ref a), (.int (cs.getD (off + 2 + 1) 0))])) _
        refine X0.caload hx (j := (1 : Int32)) (by rw [e0]; exact Ar21.1) (State.isArrayOf_alike hZ.alike Ar21.2.1) Ar21.2.2 in21 hv21 (g := (mkF m 52 #[.val (.ref b), .val (.int (Int32.ofNat off)), .val (.ref a), .val (.int (Int32.ofNat ds.length)), .unset] [(.int (1 : Int32)), (.ref a), (.int (cs.getD (off + 2 + 1) 0))])) rfl rfl (hb hby dTl_52) _ ?_
        exact Steps.refl _
      have c22 : Steps p.tables e below S0 (s₁.setTop (mkF m 58 #[.val (.ref b), .val (.int (Int32.ofNat off)), .val (.ref a), .val (.int (Int32.ofNat ds.length)), .unset] [])) := by
        refine c21.trans ?_
        show Steps p.tables e below (s₁.setTop (mkF m 53 #[.val (.ref b), .val (.int (Int32.ofNat off)), .val (.ref a), .val (.int (Int32.ofNat ds.length)), .unset] [(.int (ds.getD 1 0)), (.int (cs.getD (off + 2 + 1) 0))])) _
        refine XS.icmpYes X0.here hx rfl (pc0 := 53) (pc' := 58) rfl (hb hby dTl_53) rfl (teq (qs 1 hj)).1 (by decide) (by decide) ?_
        exact Steps.refl _
      exact c22
  have c32 : Steps p.tables e below S0 (s₁.setTop (mkF m 76 #[.val (.ref b), .val (.int (Int32.ofNat off)), .val (.ref a), .val (.int (Int32.ofNat ds.length)), .unset] [])) := by
    by_cases hg : ds.length ≤ 2
    · have c31 : Steps p.tables e below S0 (s₁.setTop (mkF m 76 #[.val (.ref b), .val (.int (Int32.ofNat off)), .val (.ref a), .val (.int (Int32.ofNat ds.length)), .unset] [])) := by
        refine c24.trans ?_
        show Steps p.tables e below (s₁.setTop (mkF m 58 #[.val (.ref b), .val (.int (Int32.ofNat off)), .val (.ref a), .val (.int (Int32.ofNat ds.length)), .unset] [])) _
        refine XS.iloadN X0.here hx rfl (hb hby dTl_58) rfl ?_
        show Steps p.tables e below (s₁.setTop (mkF m 59 #[.val (.ref b), .val (.int (Int32.ofNat off)), .val (.ref a), .val (.int (Int32.ofNat ds.length)), .unset] [(.int (Int32.ofNat ds.length))])) _
        refine XS.iconst X0.here hx rfl (hb hby dTl_59) ?_
        show Steps p.tables e below (s₁.setTop (mkF m 60 #[.val (.ref b), .val (.int (Int32.ofNat off)), .val (.ref a), .val (.int (Int32.ofNat ds.length)), .unset] [(.int (2 : Int32)), (.int (Int32.ofNat ds.length))])) _
        refine XS.icmpYes X0.here hx rfl (pc0 := 60) (pc' := 76) rfl (hb hby dTl_60) rfl (flt (fun q => by have := (own_ltn (a := 2) (by omega) (by omega)).mp q; omega)).2.2.2 (by decide) (by decide) ?_
        exact Steps.refl _
      exact c31
    · have hj : 2 < ds.length := by omega
      have c25 : Steps p.tables e below S0 (s₁.setTop (mkF m 63 #[.val (.ref b), .val (.int (Int32.ofNat off)), .val (.ref a), .val (.int (Int32.ofNat ds.length)), .unset] [])) := by
        refine c24.trans ?_
        show Steps p.tables e below (s₁.setTop (mkF m 58 #[.val (.ref b), .val (.int (Int32.ofNat off)), .val (.ref a), .val (.int (Int32.ofNat ds.length)), .unset] [])) _
        refine XS.iloadN X0.here hx rfl (hb hby dTl_58) rfl ?_
        show Steps p.tables e below (s₁.setTop (mkF m 59 #[.val (.ref b), .val (.int (Int32.ofNat off)), .val (.ref a), .val (.int (Int32.ofNat ds.length)), .unset] [(.int (Int32.ofNat ds.length))])) _
        refine XS.iconst X0.here hx rfl (hb hby dTl_59) ?_
        show Steps p.tables e below (s₁.setTop (mkF m 60 #[.val (.ref b), .val (.int (Int32.ofNat off)), .val (.ref a), .val (.int (Int32.ofNat ds.length)), .unset] [(.int (2 : Int32)), (.int (Int32.ofNat ds.length))])) _
        refine XS.icmpNo X0.here hx rfl (hb hby dTl_60) rfl (tlt ((own_ltn (a := 2) (by omega) (by omega)).mpr (by omega))).2.2.2 ?_
        exact Steps.refl _
      have c26 : Steps p.tables e below S0 (s₁.setTop (mkF m 67 #[.val (.ref b), .val (.int (Int32.ofNat off)), .val (.ref a), .val (.int (Int32.ofNat ds.length)), .unset] [(.int ((Int32.ofNat off) + (4 : Int32))), (.ref b)])) := by
        refine c25.trans ?_
        show Steps p.tables e below (s₁.setTop (mkF m 63 #[.val (.ref b), .val (.int (Int32.ofNat off)), .val (.ref a), .val (.int (Int32.ofNat ds.length)), .unset] [])) _
        refine XS.aloadN X0.here hx rfl (hb hby dTl_63) rfl rfl ?_
        show Steps p.tables e below (s₁.setTop (mkF m 64 #[.val (.ref b), .val (.int (Int32.ofNat off)), .val (.ref a), .val (.int (Int32.ofNat ds.length)), .unset] [(.ref b)])) _
        refine XS.iloadN X0.here hx rfl (hb hby dTl_64) rfl ?_
        show Steps p.tables e below (s₁.setTop (mkF m 65 #[.val (.ref b), .val (.int (Int32.ofNat off)), .val (.ref a), .val (.int (Int32.ofNat ds.length)), .unset] [(.int (Int32.ofNat off)), (.ref b)])) _
        refine XS.iconst X0.here hx rfl (hb hby dTl_65) ?_
        show Steps p.tables e below (s₁.setTop (mkF m 66 #[.val (.ref b), .val (.int (Int32.ofNat off)), .val (.ref a), .val (.int (Int32.ofNat ds.length)), .unset] [(.int (4 : Int32)), (.int (Int32.ofNat off)), (.ref b)])) _
        refine XS.iadd X0.here hx rfl (hb hby dTl_66) rfl ?_
        exact Steps.refl _
      have ha : Int32.ofNat off + (4 : Int32) = Int32.ofNat (off + 2 + 2) := own_addn (b := 4) (by omega)
      obtain ⟨cl27, Ar27, in27, hv27⟩ := own_ld Vb (by omega) (i := (off + 2 + 2)) (by omega) (j := ((Int32.ofNat off) + (4 : Int32))) ha (v := (.int (cs.getD (off + 2 + 2) 0))) (own_by7 hp _)
      have c27 : Steps p.tables e below S0 (s₁.setTop (mkF m 68 #[.val (.ref b), .val (.int (Int32.ofNat off)), .val (.ref a), .val (.int (Int32.ofNat ds.length)), .unset] [(.int (cs.getD (off + 2 + 2) 0))])) := by
        refine c26.trans ?_
        show Steps p.tables e below (s₁.setTop (mkF m 67 #[.val (.ref b), .val (.int (Int32.ofNat off)), .val (.ref a), .val (.int (Int32.ofNat ds.length)), .unset] [(.int ((Int32.ofNat off) + (4 : Int32))), (.ref b)])) _
        refine X0.baloadBytes hx (j := ((Int32.ofNat off) + (4 : Int32))) (by rw [e0]; exact Ar27.1) (State.isArrayOf_alike hZ.alike Ar27.2.1) Ar27.2.2 in27 hv27 (g := (mkF m 67 #[.val (.ref b), .val (.int (Int32.ofNat off)), .val (.ref a), .val (.int (Int32.ofNat ds.length)), .unset] [(.int ((Int32.ofNat off) + (4 : Int32))), (.ref b)])) rfl rfl (hb hby dTl_67) _ ?_
        exact Steps.refl _
      have c28 : Steps p.tables e below S0 (s₁.setTop (mkF m 70 #[.val (.ref b), .val (.int (Int32.ofNat off)), .val (.ref a), .val (.int (Int32.ofNat ds.length)), .unset] [(.int (2 : Int32)), (.ref a), (.int (cs.getD (off + 2 + 2) 0))])) := by
        refine c27.trans ?_
        show Steps p.tables e below (s₁.setTop (mkF m 68 #[.val (.ref b), .val (.int (Int32.ofNat off)), .val (.ref a), .val (.int (Int32.ofNat ds.length)), .unset] [(.int (cs.getD (off + 2 + 2) 0))])) _
        refine XS.aloadN X0.here hx rfl (hb hby dTl_68) rfl rfl ?_
        show Steps p.tables e below (s₁.setTop (mkF m 69 #[.val (.ref b), .val (.int (Int32.ofNat off)), .val (.ref a), .val (.int (Int32.ofNat ds.length)), .unset] [(.ref a), (.int (cs.getD (off + 2 + 2) 0))])) _
        refine XS.iconst X0.here hx rfl (hb hby dTl_69) ?_
        exact Steps.refl _
      obtain ⟨cl29, Ar29, in29, hv29⟩ := own_ld Va (by omega) (i := 2) (by omega) (j := (2 : Int32)) rfl (v := (.int (ds.getD 2 0))) (own_chget ds 2)
      have c29 : Steps p.tables e below S0 (s₁.setTop (mkF m 71 #[.val (.ref b), .val (.int (Int32.ofNat off)), .val (.ref a), .val (.int (Int32.ofNat ds.length)), .unset] [(.int (ds.getD 2 0)), (.int (cs.getD (off + 2 + 2) 0))])) := by
        refine c28.trans ?_
        show Steps p.tables e below (s₁.setTop (mkF m 70 #[.val (.ref b), .val (.int (Int32.ofNat off)), .val (.ref a), .val (.int (Int32.ofNat ds.length)), .unset] [(.int (2 : Int32)), (.ref a), (.int (cs.getD (off + 2 + 2) 0))])) _
        refine X0.caload hx (j := (2 : Int32)) (by rw [e0]; exact Ar29.1) (State.isArrayOf_alike hZ.alike Ar29.2.1) Ar29.2.2 in29 hv29 (g := (mkF m 70 #[.val (.ref b), .val (.int (Int32.ofNat off)), .val (.ref a), .val (.int (Int32.ofNat ds.length)), .unset] [(.int (2 : Int32)), (.ref a), (.int (cs.getD (off + 2 + 2) 0))])) rfl rfl (hb hby dTl_70) _ ?_
        exact Steps.refl _
      have c30 : Steps p.tables e below S0 (s₁.setTop (mkF m 76 #[.val (.ref b), .val (.int (Int32.ofNat off)), .val (.ref a), .val (.int (Int32.ofNat ds.length)), .unset] [])) := by
        refine c29.trans ?_
        show Steps p.tables e below (s₁.setTop (mkF m 71 #[.val (.ref b), .val (.int (Int32.ofNat off)), .val (.ref a), .val (.int (Int32.ofNat ds.length)), .unset] [(.int (ds.getD 2 0)), (.int (cs.getD (off + 2 + 2) 0))])) _
        refine XS.icmpYes X0.here hx rfl (pc0 := 71) (pc' := 76) rfl (hb hby dTl_71) rfl (teq (qs 2 hj)).1 (by decide) (by decide) ?_
        exact Steps.refl _
      exact c30
  have c33 : Steps p.tables e below S0 (s₁.setTop (mkF m 81 #[.val (.ref b), .val (.int (Int32.ofNat off)), .val (.ref a), .val (.int (Int32.ofNat ds.length)), .unset] [(.int (((Int32.ofNat off) + (2 : Int32)) + (Int32.ofNat ds.length)))])) := by
    refine c32.trans ?_
    show Steps p.tables e below (s₁.setTop (mkF m 76 #[.val (.ref b), .val (.int (Int32.ofNat off)), .val (.ref a), .val (.int (Int32.ofNat ds.length)), .unset] [])) _
    refine XS.iloadN X0.here hx rfl (hb hby dTl_76) rfl ?_
    show Steps p.tables e below (s₁.setTop (mkF m 77 #[.val (.ref b), .val (.int (Int32.ofNat off)), .val (.ref a), .val (.int (Int32.ofNat ds.length)), .unset] [(.int (Int32.ofNat off))])) _
    refine XS.iconst X0.here hx rfl (hb hby dTl_77) ?_
    show Steps p.tables e below (s₁.setTop (mkF m 78 #[.val (.ref b), .val (.int (Int32.ofNat off)), .val (.ref a), .val (.int (Int32.ofNat ds.length)), .unset] [(.int (2 : Int32)), (.int (Int32.ofNat off))])) _
    refine XS.iadd X0.here hx rfl (hb hby dTl_78) rfl ?_
    show Steps p.tables e below (s₁.setTop (mkF m 79 #[.val (.ref b), .val (.int (Int32.ofNat off)), .val (.ref a), .val (.int (Int32.ofNat ds.length)), .unset] [(.int ((Int32.ofNat off) + (2 : Int32)))])) _
    refine XS.iloadN X0.here hx rfl (hb hby dTl_79) rfl ?_
    show Steps p.tables e below (s₁.setTop (mkF m 80 #[.val (.ref b), .val (.int (Int32.ofNat off)), .val (.ref a), .val (.int (Int32.ofNat ds.length)), .unset] [(.int (Int32.ofNat ds.length)), (.int ((Int32.ofNat off) + (2 : Int32)))])) _
    refine XS.iadd X0.here hx rfl (hb hby dTl_80) rfl ?_
    exact Steps.refl _
  rw [show Int32.ofNat off + (2 : Int32) = Int32.ofNat (off + 2) from own_addn (b := 2) (by omega), own_addn (by omega)] at c33
  have c34 : Steps p.tables e below S0 (s₁.setTop (mkF m 86 #[.val (.ref b), .val (.int (Int32.ofNat off)), .val (.ref a), .val (.int (Int32.ofNat ds.length)), .val (.int (Int32.ofNat (off + 2 + ds.length)))] [(.int (Int32.ofNat (off + 2 + ds.length))), (.ref b)])) := by
    refine c33.trans ?_
    show Steps p.tables e below (s₁.setTop (mkF m 81 #[.val (.ref b), .val (.int (Int32.ofNat off)), .val (.ref a), .val (.int (Int32.ofNat ds.length)), .unset] [(.int (Int32.ofNat (off + 2 + ds.length)))])) _
    refine XS.istore X0.here hx rfl (hb hby dTl_81) rfl (l' := #[.val (.ref b), .val (.int (Int32.ofNat off)), .val (.ref a), .val (.int (Int32.ofNat ds.length)), .val (.int (Int32.ofNat (off + 2 + ds.length)))]) rfl ?_
    show Steps p.tables e below (s₁.setTop (mkF m 83 #[.val (.ref b), .val (.int (Int32.ofNat off)), .val (.ref a), .val (.int (Int32.ofNat ds.length)), .val (.int (Int32.ofNat (off + 2 + ds.length)))] [])) _
    refine XS.aloadN X0.here hx rfl (hb hby dTl_83) rfl rfl ?_
    show Steps p.tables e below (s₁.setTop (mkF m 84 #[.val (.ref b), .val (.int (Int32.ofNat off)), .val (.ref a), .val (.int (Int32.ofNat ds.length)), .val (.int (Int32.ofNat (off + 2 + ds.length)))] [(.ref b)])) _
    refine XS.iload X0.here hx rfl (hb hby dTl_84) rfl ?_
    exact Steps.refl _
  obtain ⟨cl35, Ar35, in35, hv35⟩ := own_ld Vb (by omega) (i := (off + 2 + ds.length)) (by omega) (j := (Int32.ofNat (off + 2 + ds.length))) rfl (v := (.int (cs.getD (off + 2 + ds.length) 0))) (own_by7 hp _)
  have c35 : Steps p.tables e below S0 (s₁.setTop (mkF m 87 #[.val (.ref b), .val (.int (Int32.ofNat off)), .val (.ref a), .val (.int (Int32.ofNat ds.length)), .val (.int (Int32.ofNat (off + 2 + ds.length)))] [(.int (cs.getD (off + 2 + ds.length) 0))])) := by
    refine c34.trans ?_
    show Steps p.tables e below (s₁.setTop (mkF m 86 #[.val (.ref b), .val (.int (Int32.ofNat off)), .val (.ref a), .val (.int (Int32.ofNat ds.length)), .val (.int (Int32.ofNat (off + 2 + ds.length)))] [(.int (Int32.ofNat (off + 2 + ds.length))), (.ref b)])) _
    refine X0.baloadBytes hx (j := (Int32.ofNat (off + 2 + ds.length))) (by rw [e0]; exact Ar35.1) (State.isArrayOf_alike hZ.alike Ar35.2.1) Ar35.2.2 in35 hv35 (g := (mkF m 86 #[.val (.ref b), .val (.int (Int32.ofNat off)), .val (.ref a), .val (.int (Int32.ofNat ds.length)), .val (.int (Int32.ofNat (off + 2 + ds.length)))] [(.int (Int32.ofNat (off + 2 + ds.length))), (.ref b)])) rfl rfl (hb hby dTl_86) _ ?_
    exact Steps.refl _
  have c36 : Steps p.tables e below S0 (s₁.setTop (mkF m 92 #[.val (.ref b), .val (.int (Int32.ofNat off)), .val (.ref a), .val (.int (Int32.ofNat ds.length)), .val (.int (Int32.ofNat (off + 2 + ds.length)))] [])) := by
    refine c35.trans ?_
    show Steps p.tables e below (s₁.setTop (mkF m 87 #[.val (.ref b), .val (.int (Int32.ofNat off)), .val (.ref a), .val (.int (Int32.ofNat ds.length)), .val (.int (Int32.ofNat (off + 2 + ds.length)))] [(.int (cs.getD (off + 2 + ds.length) 0))])) _
    refine XS.bipush X0.here hx rfl (hb hby dTl_87) ?_
    show Steps p.tables e below (s₁.setTop (mkF m 89 #[.val (.ref b), .val (.int (Int32.ofNat off)), .val (.ref a), .val (.int (Int32.ofNat ds.length)), .val (.int (Int32.ofNat (off + 2 + ds.length)))] [(.int (62 : Int32)), (.int (cs.getD (off + 2 + ds.length) 0))])) _
    refine XS.icmpNo X0.here hx rfl (hb hby dTl_89) rfl (teq q2).2 ?_
    exact Steps.refl _
  have c37 : Steps p.tables e below S0 (s₁.setTop (mkF m 97 #[.val (.ref b), .val (.int (Int32.ofNat off)), .val (.ref a), .val (.int (Int32.ofNat ds.length)), .val (.int (Int32.ofNat (off + 2 + ds.length)))] [(.int ((Int32.ofNat (off + 2 + ds.length)) + (1 : Int32))), (.ref b)])) := by
    refine c36.trans ?_
    show Steps p.tables e below (s₁.setTop (mkF m 92 #[.val (.ref b), .val (.int (Int32.ofNat off)), .val (.ref a), .val (.int (Int32.ofNat ds.length)), .val (.int (Int32.ofNat (off + 2 + ds.length)))] [])) _
    refine XS.aloadN X0.here hx rfl (hb hby dTl_92) rfl rfl ?_
    show Steps p.tables e below (s₁.setTop (mkF m 93 #[.val (.ref b), .val (.int (Int32.ofNat off)), .val (.ref a), .val (.int (Int32.ofNat ds.length)), .val (.int (Int32.ofNat (off + 2 + ds.length)))] [(.ref b)])) _
    refine XS.iload X0.here hx rfl (hb hby dTl_93) rfl ?_
    show Steps p.tables e below (s₁.setTop (mkF m 95 #[.val (.ref b), .val (.int (Int32.ofNat off)), .val (.ref a), .val (.int (Int32.ofNat ds.length)), .val (.int (Int32.ofNat (off + 2 + ds.length)))] [(.int (Int32.ofNat (off + 2 + ds.length))), (.ref b)])) _
    refine XS.iconst X0.here hx rfl (hb hby dTl_95) ?_
    show Steps p.tables e below (s₁.setTop (mkF m 96 #[.val (.ref b), .val (.int (Int32.ofNat off)), .val (.ref a), .val (.int (Int32.ofNat ds.length)), .val (.int (Int32.ofNat (off + 2 + ds.length)))] [(.int (1 : Int32)), (.int (Int32.ofNat (off + 2 + ds.length))), (.ref b)])) _
    refine XS.iadd X0.here hx rfl (hb hby dTl_96) rfl ?_
    exact Steps.refl _
  obtain ⟨cl38, Ar38, in38, hv38⟩ := own_ld Vb (by omega) (i := (off + 2 + ds.length + 1)) (by omega) (j := ((Int32.ofNat (off + 2 + ds.length)) + (1 : Int32))) (own_addn (b := 1) (by omega)) (v := (.int (cs.getD (off + 2 + ds.length + 1) 0))) (own_by7 hp _)
  have c38 : Steps p.tables e below S0 (s₁.setTop (mkF m 98 #[.val (.ref b), .val (.int (Int32.ofNat off)), .val (.ref a), .val (.int (Int32.ofNat ds.length)), .val (.int (Int32.ofNat (off + 2 + ds.length)))] [(.int (cs.getD (off + 2 + ds.length + 1) 0))])) := by
    refine c37.trans ?_
    show Steps p.tables e below (s₁.setTop (mkF m 97 #[.val (.ref b), .val (.int (Int32.ofNat off)), .val (.ref a), .val (.int (Int32.ofNat ds.length)), .val (.int (Int32.ofNat (off + 2 + ds.length)))] [(.int ((Int32.ofNat (off + 2 + ds.length)) + (1 : Int32))), (.ref b)])) _
    refine X0.baloadBytes hx (j := ((Int32.ofNat (off + 2 + ds.length)) + (1 : Int32))) (by rw [e0]; exact Ar38.1) (State.isArrayOf_alike hZ.alike Ar38.2.1) Ar38.2.2 in38 hv38 (g := (mkF m 97 #[.val (.ref b), .val (.int (Int32.ofNat off)), .val (.ref a), .val (.int (Int32.ofNat ds.length)), .val (.int (Int32.ofNat (off + 2 + ds.length)))] [(.int ((Int32.ofNat (off + 2 + ds.length)) + (1 : Int32))), (.ref b)])) rfl rfl (hb hby dTl_97) _ ?_
    exact Steps.refl _
  have c39 : Steps p.tables e below S0 (s₁.setTop (mkF m 108 #[.val (.ref b), .val (.int (Int32.ofNat off)), .val (.ref a), .val (.int (Int32.ofNat ds.length)), .val (.int (Int32.ofNat (off + 2 + ds.length)))] [(.int (1 : Int32))])) := by
    refine c38.trans ?_
    show Steps p.tables e below (s₁.setTop (mkF m 98 #[.val (.ref b), .val (.int (Int32.ofNat off)), .val (.ref a), .val (.int (Int32.ofNat ds.length)), .val (.int (Int32.ofNat (off + 2 + ds.length)))] [(.int (cs.getD (off + 2 + ds.length + 1) 0))])) _
    refine XS.bipush X0.here hx rfl (hb hby dTl_98) ?_
    show Steps p.tables e below (s₁.setTop (mkF m 100 #[.val (.ref b), .val (.int (Int32.ofNat off)), .val (.ref a), .val (.int (Int32.ofNat ds.length)), .val (.int (Int32.ofNat (off + 2 + ds.length)))] [(.int (10 : Int32)), (.int (cs.getD (off + 2 + ds.length + 1) 0))])) _
    refine XS.icmpNo X0.here hx rfl (hb hby dTl_100) rfl (teq q3).2 ?_
    show Steps p.tables e below (s₁.setTop (mkF m 103 #[.val (.ref b), .val (.int (Int32.ofNat off)), .val (.ref a), .val (.int (Int32.ofNat ds.length)), .val (.int (Int32.ofNat (off + 2 + ds.length)))] [])) _
    refine XS.iconst X0.here hx rfl (hb hby dTl_103) ?_
    show Steps p.tables e below (s₁.setTop (mkF m 104 #[.val (.ref b), .val (.int (Int32.ofNat off)), .val (.ref a), .val (.int (Int32.ofNat ds.length)), .val (.int (Int32.ofNat (off + 2 + ds.length)))] [(.int (1 : Int32))])) _
    refine XS.goto X0.here hx rfl (pc0 := 104) (pc' := 108) rfl (hb hby dTl_104) (by decide) (by decide) ?_
    exact Steps.refl _
  obtain ⟨fs, hr, hrun, hended, hW, hsame⟩ := X0.leave (v := some (.int 1)) (fun h => by rw [Bd.returns] at h; cases h)
  refine ⟨_, _, c39.trans ?_, hrun, hended, _, _, rfl, ?_, ⟨_, rfl⟩, hW, hsame.mono (by decide) (by decide)⟩
  · show Steps p.tables e below (s₁.setTop (mkF m 108 #[.val (.ref b), .val (.int (Int32.ofNat off)), .val (.ref a), .val (.int (Int32.ofNat ds.length)), .val (.int (Int32.ofNat (off + 2 + ds.length)))] [(.int (1 : Int32))])) _
    exact retN X0 hx (t := .boolean) Bd.returns (by simp) (hb hby dTl_108) hr
  · show QTl Z b kb cs off a ka ds h0 n0 _ s₁.heap _
    rw [e0]
    exact ⟨rfl, N0, rfl⟩
def Q0 (Z : State) (i0 : Int32) (i1 : Int32) (i2 : Int32) (i3 : Int32) (G1 : Int32) (cu : Addr) (h0 : Heap) (n0 : Nat) (v : Option Value) (h : Heap) (L : List Loc) : Prop := v = some (.int 1) ∧ Fr n0 L
theorem ef0 (m : MethodId) (i0 : Int32) (i1 : Int32) (i2 : Int32) (i3 : Int32) : entryFrame m #[(.int i0), (.int i1), (.int i2), (.int i3)] maxLocals = mkF m 0 #[.val (.int i0), .val (.int i1), .val (.int i2), .val (.int i3), .unset, .unset, .unset, .unset, .unset, .unset, .unset, .unset] [] := by first | (simp [entryFrame, mkF, argsToLocals, Value.category, maxLocals]; done) | rfl
set_option maxRecDepth 65536 in
set_option maxHeartbeats 40000000 in
theorem rm0 (l : Launch) (Z : State) (a0 : Array Value) (hw : ∀ d ∈ tables_1, d.before a0 Z = true) (ws : List Jvm.Cond) (i0 : Int32) (i1 : Int32) (i2 : Int32) (i3 : Int32) (G1 : Int32) (cu : Addr) (h0 : Heap) (n0 : Nat) (Z0 : n0 ≤ h0.size) (O2 : Sta Z Z.heap "java/lang/String" "COMPACT_STRINGS" "Z" (.int G1)) (P5 : ¬ G1 = 0) (X00 : Old Z n0 h0) (Su : Sta Z Z.heap "sun/nio/cs/UTF_8" "INSTANCE" "Lsun/nio/cs/UTF_8;" (.ref cu)) (Su2 : Sta Z Z.heap "java/nio/charset/StandardCharsets" "UTF_8" "Ljava/nio/charset/Charset;" (.ref cu)) :
    MetFree l x (head1 (Jvm.Cond.code x code maxLocals ret :: ws) room_1) (fun aa UU => aa = #[(.int i0), (.int i1), (.int i2), (.int i3)] ∧ Z.Warmed39 UU.vm ∧ UU.heap = h0 ∧ CHv Z consts_1 UU.vm h0 ∧ ∀ x ∈ ([] : List Addr), Safe Z consts_1 UU.vm h0 x) (fun _ _ _ _ _ => True) (fun _ UU oo UT => ∃ vv LL, oo = .returned vv ∧ Q0 Z i0 i1 i2 i3 G1 cu h0 n0 vv UT.heap LL ∧ CHr Z consts_1 UU.vm UU.heap UT.vm UT.heap ∧ ReturnedEndW UU oo UT LL 40 4480) := by
  refine MetFree.of_bodySF (plainFor_of_name pn1) hisR ?_
  intro p e s m args below meth c s₁ Bd hml0 hP hK
  obtain ⟨rfl, hZ, hh, hC, hX⟩ := hP
  have hx := Bd.exec
  have hby := Bd.bytes
  have hml : c.maxLocals = 12 := hml0
  have hown : s.vm.findClass "com/example/waybill/waybill/board/HtmlClosePinLaw" = some m.cls := findClass_of_methodNamed Bd.named
  have hnm := (name_of_methodNamed Bd.named Bd.method).1
  have X0 : Stand p l e room_1 s m #[(.int i0), (.int i1), (.int i2), (.int i3)] below meth c s₁ [] 0 0 := Stand.of_body Bd
  have e0 : s₁.heap = h0 := by rw [← hh, Bd.state]; rfl
  have N0 := Fr.nil n0
  have c0 : Steps p.tables e below (s₁.setTop (entryFrame m #[(.int i0), (.int i1), (.int i2), (.int i3)] maxLocals)) (s₁.setTop (mkF m 0 #[.val (.int i0), .val (.int i1), .val (.int i2), .val (.int i3), .unset, .unset, .unset, .unset, .unset, .unset, .unset, .unset] [])) := castTop (ef0 m i0 i1 i2 i3) (Steps.refl _)
  show ∃ s₂ oo, Steps p.tables e below (s₁.setTop (entryFrame m #[(.int i0), (.int i1), (.int i2), (.int i3)] maxLocals)) s₂ ∧ _ ∧ _ ∧ _
  generalize s₁.setTop (entryFrame m #[(.int i0), (.int i1), (.int i2), (.int i3)] maxLocals) = S0 at c0 ⊢
  obtain ⟨V0, hV0⟩ : ∃ V, V = s.vm := ⟨_, rfl⟩
  have Xs : Stand p l e room_1 (s.setVm V0) m #[(.int i0), (.int i1), (.int i2), (.int i3)] below meth c s₁ [] 0 0 := by subst hV0; exact X0
  have hS : s.Since V0 h0.size := by subst hV0; exact (State.WarmedH.refl s).since _
  replace hZ : Z.Warmed39 (s.setVm V0).vm := by subst hV0; exact hZ
  replace hown : (s.setVm V0).vm.findClass "com/example/waybill/waybill/board/HtmlClosePinLaw" = some m.cls := by subst hV0; exact hown
  have hk : h0.size ≤ h0.size := Nat.le_refl _
  have Zh := Z0
  have hR : CHr Z consts_1 V0 h0 V0 h0 := by subst hV0; exact CHr.refl hC
  have hEL := own_EW hw
  have hKp := Keep.refl h0 []
  have Nf := N0
  have c1 : Steps p.tables e below S0 (s₁.setTop (mkF m 2 #[.val (.int i0), .val (.int i1), .val (.int i2), .val (.int i3), .unset, .unset, .unset, .unset, .unset, .unset, .unset, .unset] [(.int i1), (.int i0)])) := by
    refine c0.trans ?_
    show Steps p.tables e below (s₁.setTop (mkF m 0 #[.val (.int i0), .val (.int i1), .val (.int i2), .val (.int i3), .unset, .unset, .unset, .unset, .unset, .unset, .unset, .unset] [])) _
    refine XS.iloadN Xs.here hx rfl (hb hby at_0) rfl ?_
    show Steps p.tables e below (s₁.setTop (mkF m 1 #[.val (.int i0), .val (.int i1), .val (.int i2), .val (.int i3), .unset, .unset, .unset, .unset, .unset, .unset, .unset, .unset] [(.int i0)])) _
    refine XS.iloadN Xs.here hx rfl (hb hby at_1) rfl ?_
    exact Steps.refl _
  obtain ⟨_, _, ⟨T2, L2, k2, n2⟩, -, X2, ⟨Lc2, hQ2, l2, y2, z2⟩, st2⟩ := Jvm.LawKit.callS Xs hx (y := (⟨"com/example/waybill/waybill/board/HtmlClosePinLaw", "name", "(II)[C"⟩ : MethodName)) hown (mvT hZ (hw _ (List.mem_of_getElem? (i := 0) rfl))) (mvT hZ (hw _ (List.mem_of_getElem? (i := 1) rfl))) (mvT hZ (hw _ (List.mem_of_getElem? (i := 2) rfl))) (mvT hZ (hw _ (List.mem_of_getElem? (i := 3) rfl))) (by decide) (backOf (W := 0) (rmNm l Z a0 hw [] i0 i1 h0 n0 Zh) hZ (hw _ (List.mem_of_getElem? (i := 3) rfl)) (hw _ (List.mem_of_getElem? (i := 2) rfl)) (by decide) (by decide)) (g := (mkF m 2 #[.val (.int i0), .val (.int i1), .val (.int i2), .val (.int i3), .unset, .unset, .unset, .unset, .unset, .unset, .unset, .unset] [(.int i1), (.int i0)])) rfl (by rw [hml]; rfl) (argsL := [(.int i0), (.int i1)]) (rest := []) (lenOf pd22 rfl) rfl (by show 2 * 0 + _ ≤ _; exact Nat.le_of_eq rfl) (hb hby at_2) (fun _ _ => ⟨rfl, e0, (by decide : 0 + 1 ≤ _), (by decide : 0 + 3 ≤ _)⟩)
  dsimp only [Pt.U, Pt.locs, Pt.cells, Pt.slots] at X2 l2 y2 z2 st2 hQ2
  subst l2 y2 z2
  obtain ⟨⟨au, ku, csu, rfl, zau, llu, hpu, Vu⟩, Nd, Kd⟩ := hQ2
  have c2 : Steps p.tables e below S0 (T2.setTop (mkF m 5 #[.val (.int i0), .val (.int i1), .val (.int i2), .val (.int i3), .unset, .unset, .unset, .unset, .unset, .unset, .unset, .unset] [(.ref au)])) := by
    refine c1.trans ?_
    show Steps p.tables e below (s₁.setTop (mkF m 2 #[.val (.int i0), .val (.int i1), .val (.int i2), .val (.int i3), .unset, .unset, .unset, .unset, .unset, .unset, .unset, .unset] [(.int i1), (.int i0)])) _
    refine st2 _ ?_
    exact Steps.refl _
  have hRs2 := CHr.keep Kd (fun x hx => by cases hx) hR.1
  have hR := hR.trans hRs2
  have Zh := Nat.le_trans Zh Kd.1
  have hk := Nat.le_trans hk Kd.1
  have Nf := Fr.app Nf Nd
  have hKp := hKp.trans Kd (fun x hx => by cases hx)
  have c3 : Steps p.tables e below S0 (T2.setTop (mkF m 9 #[.val (.int i0), .val (.int i1), .val (.int i2), .val (.int i3), .val (.ref au), .unset, .unset, .unset, .unset, .unset, .unset, .unset] [(.int i3), (.int i2)])) := by
    refine c2.trans ?_
    show Steps p.tables e below (T2.setTop (mkF m 5 #[.val (.int i0), .val (.int i1), .val (.int i2), .val (.int i3), .unset, .unset, .unset, .unset, .unset, .unset, .unset, .unset] [(.ref au)])) _
    refine XS.astore X2.here hx rfl (hb hby at_5) rfl rfl (l' := #[.val (.int i0), .val (.int i1), .val (.int i2), .val (.int i3), .val (.ref au), .unset, .unset, .unset, .unset, .unset, .unset, .unset]) rfl ?_
    show Steps p.tables e below (T2.setTop (mkF m 7 #[.val (.int i0), .val (.int i1), .val (.int i2), .val (.int i3), .val (.ref au), .unset, .unset, .unset, .unset, .unset, .unset, .unset] [])) _
    refine XS.iloadN X2.here hx rfl (hb hby at_7) rfl ?_
    show Steps p.tables e below (T2.setTop (mkF m 8 #[.val (.int i0), .val (.int i1), .val (.int i2), .val (.int i3), .val (.ref au), .unset, .unset, .unset, .unset, .unset, .unset, .unset] [(.int i2)])) _
    refine XS.iloadN X2.here hx rfl (hb hby at_8) rfl ?_
    exact Steps.refl _
  obtain ⟨_, _, ⟨T4, L4, k4, n4⟩, -, X4, ⟨Lc4, hQ4, l4, y4, z4⟩, st4⟩ := Jvm.LawKit.callS X2 hx (y := (⟨"com/example/waybill/waybill/board/HtmlClosePinLaw", "name", "(II)[C"⟩ : MethodName)) hown (mvT hZ (hw _ (List.mem_of_getElem? (i := 0) rfl))) (mvT hZ (hw _ (List.mem_of_getElem? (i := 1) rfl))) (mvT hZ (hw _ (List.mem_of_getElem? (i := 2) rfl))) (mvT hZ (hw _ (List.mem_of_getElem? (i := 3) rfl))) (by decide) (backOf (W := 0) (rmNm l Z a0 hw [] i2 i3 T2.heap n0 Zh) hZ (hw _ (List.mem_of_getElem? (i := 3) rfl)) (hw _ (List.mem_of_getElem? (i := 2) rfl)) (by decide) (by decide)) (g := (mkF m 9 #[.val (.int i0), .val (.int i1), .val (.int i2), .val (.int i3), .val (.ref au), .unset, .unset, .unset, .unset, .unset, .unset, .unset] [(.int i3), (.int i2)])) rfl (by rw [hml]; rfl) (argsL := [(.int i2), (.int i3)]) (rest := []) (lenOf pd22 rfl) rfl (by show 2 * 0 + _ ≤ _; exact Nat.le_of_eq rfl) (hb hby at_9) (fun _ _ => ⟨rfl, rfl, (by decide : 1 + 1 ≤ _), (by decide : 3 + 3 ≤ _)⟩)
  dsimp only [Pt.U, Pt.locs, Pt.cells, Pt.slots] at X4 l4 y4 z4 st4 hQ4
  subst l4 y4 z4
  obtain ⟨⟨av, kv, csv, rfl, zav, llv, hpv, Vv⟩, Nd, Kd⟩ := hQ4
  have c4 : Steps p.tables e below S0 (T4.setTop (mkF m 12 #[.val (.int i0), .val (.int i1), .val (.int i2), .val (.int i3), .val (.ref au), .unset, .unset, .unset, .unset, .unset, .unset, .unset] [(.ref av)])) := by
    refine c3.trans ?_
    show Steps p.tables e below (T2.setTop (mkF m 9 #[.val (.int i0), .val (.int i1), .val (.int i2), .val (.int i3), .val (.ref au), .unset, .unset, .unset, .unset, .unset, .unset, .unset] [(.int i3), (.int i2)])) _
    refine st4 _ ?_
    exact Steps.refl _
  have hRs4 := CHr.keep Kd (fun x hx => by cases hx) hR.1
  have hR := hR.trans hRs4
  have Zh := Nat.le_trans Zh Kd.1
  have hk := Nat.le_trans hk Kd.1
  have Nf := Fr.app Nf Nd
  have hKp := hKp.trans Kd (fun x hx => by cases hx)
  have Vu := Vu.keep Kd (fun q => by cases q)
  have c5 : Steps p.tables e below S0 (T4.setTop (mkF m 14 #[.val (.int i0), .val (.int i1), .val (.int i2), .val (.int i3), .val (.ref au), .val (.ref av), .unset, .unset, .unset, .unset, .unset, .unset] [])) := by
    refine c4.trans ?_
    show Steps p.tables e below (T4.setTop (mkF m 12 #[.val (.int i0), .val (.int i1), .val (.int i2), .val (.int i3), .val (.ref au), .unset, .unset, .unset, .unset, .unset, .unset, .unset] [(.ref av)])) _
    refine XS.astore X4.here hx rfl (hb hby at_12) rfl rfl (l' := #[.val (.int i0), .val (.int i1), .val (.int i2), .val (.int i3), .val (.ref au), .val (.ref av), .unset, .unset, .unset, .unset, .unset, .unset]) rfl ?_
    exact Steps.refl _
  obtain ⟨T6, h6, X6, e6, E6, A6, D6, -, st6⟩ := newO X4 hx hZ hown (hw _ (List.mem_of_getElem? (i := 5) rfl)) (hw _ (List.mem_of_getElem? (i := 6) rfl)) (hw _ (List.mem_of_getElem? (i := 7) rfl)) rfl (g := (mkF m 14 #[.val (.int i0), .val (.int i1), .val (.int i2), .val (.int i3), .val (.ref au), .val (.ref av), .unset, .unset, .unset, .unset, .unset, .unset] [])) rfl (hb hby at_14) (by decide) (by decide)
  obtain ⟨b6, g6⟩ : ∃ z, z = T4.heap.size := ⟨_, rfl⟩
  rw [← g6] at A6 D6 st6
  have c6 : Steps p.tables e below S0 (T6.setTop (mkF m 17 #[.val (.int i0), .val (.int i1), .val (.int i2), .val (.int i3), .val (.ref au), .val (.ref av), .unset, .unset, .unset, .unset, .unset, .unset] [(.ref b6)])) := by
    refine c5.trans ?_
    show Steps p.tables e below (T4.setTop (mkF m 14 #[.val (.int i0), .val (.int i1), .val (.int i2), .val (.int i3), .val (.ref au), .val (.ref av), .unset, .unset, .unset, .unset, .unset, .unset] [])) _
    refine st6 _ ?_
    exact Steps.refl _
  have Sf_b6 := Safe.ext E6 hR.1 (Safe.new (Nat.le_of_eq g6.symm))
  have gb6 : n0 ≤ b6 := Nat.le_trans Zh (Nat.le_of_eq g6.symm)
  have hRs6 := CHr.ext E6 hR.1
  have hR := hR.trans hRs6
  have Zh := Nat.le_trans Zh E6.1
  have hk := Nat.le_trans hk E6.1
  have Fv : Fld Z h6 b6 "java/lang/String" "value" "[B" .null := D6 (Or.inr (hw _ (List.mem_of_getElem? (i := 20) rfl))) (ty := (.array .byte)) (by decide)
  have Fc : Fld Z h6 b6 "java/lang/String" "coder" "B" (.int 0) := D6 (Or.inr (hw _ (List.mem_of_getElem? (i := 21) rfl))) (ty := .byte) (by decide)
  have zs : h0.size ≤ b6 := Nat.le_trans hKp.1 (Nat.le_of_eq g6.symm)
  have hKp := hKp.ext E6
  have Vu := Vu.ext E6
  have Vv := Vv.ext E6
  have c7 : Steps p.tables e below S0 (T6.setTop (mkF m 20 #[.val (.int i0), .val (.int i1), .val (.int i2), .val (.int i3), .val (.ref au), .val (.ref av), .unset, .unset, .unset, .unset, .unset, .unset] [(.ref au), (.ref b6), (.ref b6)])) := by
    refine c6.trans ?_
    show Steps p.tables e below (T6.setTop (mkF m 17 #[.val (.int i0), .val (.int i1), .val (.int i2), .val (.int i3), .val (.ref au), .val (.ref av), .unset, .unset, .unset, .unset, .unset, .unset] [(.ref b6)])) _
    refine XS.dup X6.here hx rfl (hb hby at_17) rfl rfl ?_
    show Steps p.tables e below (T6.setTop (mkF m 18 #[.val (.int i0), .val (.int i1), .val (.int i2), .val (.int i3), .val (.ref au), .val (.ref av), .unset, .unset, .unset, .unset, .unset, .unset] [(.ref b6), (.ref b6)])) _
    refine XS.aload X6.here hx rfl (hb hby at_18) rfl rfl ?_
    exact Steps.refl _
  obtain ⟨VV8, T8, LL8, hh8, kk8, tu_, X8, e8, Nf, c8, hS, hk, hZ, hown, hR, Zh, Su_, Kn⟩ : ∃ (V : Vm) (T : State) (L : List Loc) (h : Heap) (kk : Nat) (tt : Addr), Stand p l e room_1 (s.setVm V) m #[(.int i0), (.int i1), (.int i2), (.int i3)] below meth c T L 7 18 ∧ T.heap = h ∧ Fr n0 L ∧ Steps p.tables e below S0 (T.setTop (mkF m 23 #[.val (.int i0), .val (.int i1), .val (.int i2), .val (.int i3), .val (.ref au), .val (.ref av), .unset, .unset, .unset, .unset, .unset, .unset] [(.ref b6)])) ∧ s.Since V kk ∧ kk ≤ h.size ∧ Z.Warmed39 (s.setVm V).vm ∧ (s.setVm V).vm.findClass "com/example/waybill/waybill/board/HtmlClosePinLaw" = some m.cls ∧ CHr Z consts_1 V0 h0 V h ∧ n0 ≤ h.size ∧ own_Str Z h b6 tt csu ∧ Keep h6 h [b6] := by
    by_cases hg : csu.length = 0
    · have hcs : csu = [] := List.length_eq_zero_iff.mp hg
      subst hcs
      obtain ⟨cl, Ar, -, Sz, -⟩ := Vu
      obtain ⟨_, _, ⟨T9, L9, k9, n9⟩, -, X9, hS9, hge9, ⟨Lc9, hQ9, l9, y9, z9, hCr9⟩, st9⟩ := X6.specialBackS hx (y := (⟨"java/lang/String", "<init>", "([C)V"⟩ : MethodName)) rfl hown (mvT hZ (hw _ (List.mem_of_getElem? (i := 8) rfl))) (mvT hZ (hw _ (List.mem_of_getElem? (i := 9) rfl))) (mvT hZ (hw _ (List.mem_of_getElem? (i := 10) rfl))) (by decide) (backOfSX (W := 1) (rm3 l Z a0 hw [] b6 au cl h6 n0 Zh A6 Fv Fc gb6 Ar Sz) hZ (hw _ (List.mem_of_getElem? (i := 10) rfl)) (hw _ (List.mem_of_getElem? (i := 7) rfl)) (by decide) (by decide) hEL hR.1 (fun x hx => by cases List.mem_singleton.mp hx; exact ⟨A6.lt, Sf_b6⟩)) (g := (mkF m 20 #[.val (.int i0), .val (.int i1), .val (.int i2), .val (.int i3), .val (.ref au), .val (.ref av), .unset, .unset, .unset, .unset, .unset, .unset] [(.ref au), (.ref b6), (.ref b6)])) rfl (by rw [hml]; rfl) (Steps.refl _) (a := b6) (argsL := [(.ref au)]) (rest := [(.ref b6)]) (lenOf pd23 rfl) rfl (by show 2 * 0 + _ ≤ _; exact Nat.le_of_eq rfl) (hb hby at_20) (fun _ _ => ⟨rfl, e6, (by decide : 3 + 4 ≤ _), (by decide : 10 + 8 ≤ _)⟩)
      dsimp only [Pt.U, Pt.locs, Pt.cells, Pt.slots] at X9 l9 y9 z9 st9 hQ9 hS9 hge9 hCr9
      subst l9 y9 z9
      obtain ⟨X9, hS, hZ, hown⟩ := rebS hS (by rw [e6]; exact hk) X9 hS9 hge9 hZ hown
      have hk : T9.heap.size ≤ T9.heap.size := Nat.le_refl _
      have hR := hR.trans hCr9
      obtain ⟨rfl, Ne, Ke, te, De⟩ := hQ9
      have c9 : Steps p.tables e below S0 (T9.setTop (mkF m 23 #[.val (.int i0), .val (.int i1), .val (.int i2), .val (.int i3), .val (.ref au), .val (.ref av), .unset, .unset, .unset, .unset, .unset, .unset] [(.ref b6)])) := by
        refine c7.trans ?_
        show Steps p.tables e below (T6.setTop (mkF m 20 #[.val (.int i0), .val (.int i1), .val (.int i2), .val (.int i3), .val (.ref au), .val (.ref av), .unset, .unset, .unset, .unset, .unset, .unset] [(.ref au), (.ref b6), (.ref b6)])) _
        refine st9.trans ?_
        exact Steps.refl _
      exact ⟨_, _, _, _, _, te, X9, rfl, Fr.app Nf Ne, c9, hS, hk, hZ, hown, hR, Nat.le_trans Zh Ke.1, De, Ke⟩
    · have hws : ∀ d ∈ StrChars.Road.words, d.before a0 Z = true := fun d hd => hw d ((by decide +kernel : ∀ d ∈ StrChars.Road.words, d ∈ tables_1) d hd)
      have hp8 : ∀ c ∈ csu, ¬ c < 0 ∧ ¬ (255 : Int32) < c := own_7to8 hpu
      obtain ⟨_, _, ⟨T10, L10, k10, n10⟩, -, X10, ⟨Lc10, hQ10, l10, y10, z10⟩, st10⟩ := X6.specialBack hx (y := (⟨"java/lang/String", "<init>", "([C)V"⟩ : MethodName)) rfl hown (mvT hZ (hw _ (List.mem_of_getElem? (i := 8) rfl))) (mvT hZ (hw _ (List.mem_of_getElem? (i := 9) rfl))) (mvT hZ (hw _ (List.mem_of_getElem? (i := 10) rfl))) (by decide) (StrChars.Road.backV (W := 1) hZ hws (kI := 4) (hw _ (List.mem_of_getElem? (i := 6) rfl)) (cs := csu) (bs := csu.map (fun c => c.toInt8.toInt32)) (n := csu.length) gb6 Zh A6 Fv Fc Vu (O2.ext (X00.keep hKp (fun x hx => by cases hx)).2) P5 rfl rfl (by omega) (by omega) hp8 rfl (by decide) (by decide)) (g := (mkF m 20 #[.val (.int i0), .val (.int i1), .val (.int i2), .val (.int i3), .val (.ref au), .val (.ref av), .unset, .unset, .unset, .unset, .unset, .unset] [(.ref au), (.ref b6), (.ref b6)])) rfl (by rw [hml]; rfl) (Steps.refl _) (a := b6) (argsL := [(.ref au)]) (rest := [(.ref b6)]) (lenOf pd23 rfl) rfl (by show 2 * 0 + _ ≤ _; exact Nat.le_of_eq rfl) (hb hby at_20) (fun _ _ => ⟨rfl, e6, (by decide : 3 + 1 ≤ _), (Nat.le_trans (Nat.add_le_add_left llu _) (Nat.le_of_ble_eq_true rfl))⟩)
      dsimp only [Pt.U, Pt.locs, Pt.cells, Pt.slots] at X10 l10 y10 z10 st10 hQ10
      subst l10 y10 z10
      obtain ⟨rfl, N5, K5, D5, C5, t5, k5, -, -, -, F5, V5⟩ := hQ10
      have c10 : Steps p.tables e below S0 (T10.setTop (mkF m 23 #[.val (.int i0), .val (.int i1), .val (.int i2), .val (.int i3), .val (.ref au), .val (.ref av), .unset, .unset, .unset, .unset, .unset, .unset] [(.ref b6)])) := by
        refine c7.trans ?_
        show Steps p.tables e below (T6.setTop (mkF m 20 #[.val (.int i0), .val (.int i1), .val (.int i2), .val (.int i3), .val (.ref au), .val (.ref av), .unset, .unset, .unset, .unset, .unset, .unset] [(.ref au), (.ref b6), (.ref b6)])) _
        refine st10.trans ?_
        exact Steps.refl _
      have hRs10 := CHr.keep K5 (fun x hx => by cases List.mem_singleton.mp hx; exact Sf_b6) hR.1
      have hR := hR.trans hRs10
      have Zh := Nat.le_trans Zh K5.1
      have hk := Nat.le_trans hk K5.1
      exact ⟨_, _, _, _, _, t5, X10.more (by decide) (Nat.le_trans (Nat.add_le_add_left llu _) (by decide)), rfl, Fr.app Nf N5, c10, hS, hk, hZ, hown, hR, Zh, ⟨D5, C5, F5, ⟨_, V5⟩, hp8, by omega⟩, K5⟩
  have hKp := hKp.trans Kn (fun x hx => by cases List.mem_singleton.mp hx; exact Or.inr zs)
  have nsu : b6 ≠ au := A6.neArv Vu (hw _ (List.mem_of_getElem? (i := 6) rfl))
  have nsv : b6 ≠ av := A6.neArv Vv (hw _ (List.mem_of_getElem? (i := 6) rfl))
  have Vu := Vu.keep Kn (fun q => nsu (List.mem_singleton.mp q).symm)
  have Vv := Vv.keep Kn (fun q => nsv (List.mem_singleton.mp q).symm)
  have Sulive := Su_.1.lt
  have c12 : Steps p.tables e below S0 (T8.setTop (mkF m 25 #[.val (.int i0), .val (.int i1), .val (.int i2), .val (.int i3), .val (.ref au), .val (.ref av), .val (.ref b6), .unset, .unset, .unset, .unset, .unset] [])) := by
    refine c8.trans ?_
    show Steps p.tables e below (T8.setTop (mkF m 23 #[.val (.int i0), .val (.int i1), .val (.int i2), .val (.int i3), .val (.ref au), .val (.ref av), .unset, .unset, .unset, .unset, .unset, .unset] [(.ref b6)])) _
    refine XS.astore X8.here hx rfl (hb hby at_23) rfl rfl (l' := #[.val (.int i0), .val (.int i1), .val (.int i2), .val (.int i3), .val (.ref au), .val (.ref av), .val (.ref b6), .unset, .unset, .unset, .unset, .unset]) rfl ?_
    exact Steps.refl _
  obtain ⟨T13, h13, X13, e13, E13, A13, D13, -, st13⟩ := newO X8 hx hZ hown (hw _ (List.mem_of_getElem? (i := 5) rfl)) (hw _ (List.mem_of_getElem? (i := 6) rfl)) (hw _ (List.mem_of_getElem? (i := 7) rfl)) e8 (g := (mkF m 25 #[.val (.int i0), .val (.int i1), .val (.int i2), .val (.int i3), .val (.ref au), .val (.ref av), .val (.ref b6), .unset, .unset, .unset, .unset, .unset] [])) rfl (hb hby at_25) (by decide) (by decide)
  obtain ⟨b13, g13⟩ : ∃ z, z = hh8.size := ⟨_, rfl⟩
  rw [← g13] at A13 D13 st13
  have c13 : Steps p.tables e below S0 (T13.setTop (mkF m 28 #[.val (.int i0), .val (.int i1), .val (.int i2), .val (.int i3), .val (.ref au), .val (.ref av), .val (.ref b6), .unset, .unset, .unset, .unset, .unset] [(.ref b13)])) := by
    refine c12.trans ?_
    show Steps p.tables e below (T8.setTop (mkF m 25 #[.val (.int i0), .val (.int i1), .val (.int i2), .val (.int i3), .val (.ref au), .val (.ref av), .val (.ref b6), .unset, .unset, .unset, .unset, .unset] [])) _
    refine st13 _ ?_
    exact Steps.refl _
  have Sf_b13 := Safe.ext E13 hR.1 (Safe.new (Nat.le_of_eq g13.symm))
  have gb13 : n0 ≤ b13 := Nat.le_trans Zh (Nat.le_of_eq g13.symm)
  have hRs13 := CHr.ext E13 hR.1
  have hR := hR.trans hRs13
  have Zh := Nat.le_trans Zh E13.1
  have hk := Nat.le_trans hk E13.1
  have Fv : Fld Z h13 b13 "java/lang/String" "value" "[B" .null := D13 (Or.inr (hw _ (List.mem_of_getElem? (i := 20) rfl))) (ty := (.array .byte)) (by decide)
  have Fc : Fld Z h13 b13 "java/lang/String" "coder" "B" (.int 0) := D13 (Or.inr (hw _ (List.mem_of_getElem? (i := 21) rfl))) (ty := .byte) (by decide)
  have zs : h0.size ≤ b13 := Nat.le_trans hKp.1 (Nat.le_of_eq g13.symm)
  have hKp := hKp.ext E13
  have Vu := Vu.ext E13
  have Vv := Vv.ext E13
  have Su_ := Su_.ext E13
  have c14 : Steps p.tables e below S0 (T13.setTop (mkF m 31 #[.val (.int i0), .val (.int i1), .val (.int i2), .val (.int i3), .val (.ref au), .val (.ref av), .val (.ref b6), .unset, .unset, .unset, .unset, .unset] [(.ref av), (.ref b13), (.ref b13)])) := by
    refine c13.trans ?_
    show Steps p.tables e below (T13.setTop (mkF m 28 #[.val (.int i0), .val (.int i1), .val (.int i2), .val (.int i3), .val (.ref au), .val (.ref av), .val (.ref b6), .unset, .unset, .unset, .unset, .unset] [(.ref b13)])) _
    refine XS.dup X13.here hx rfl (hb hby at_28) rfl rfl ?_
    show Steps p.tables e below (T13.setTop (mkF m 29 #[.val (.int i0), .val (.int i1), .val (.int i2), .val (.int i3), .val (.ref au), .val (.ref av), .val (.ref b6), .unset, .unset, .unset, .unset, .unset] [(.ref b13), (.ref b13)])) _
    refine XS.aload X13.here hx rfl (hb hby at_29) rfl rfl ?_
    exact Steps.refl _
  obtain ⟨VV15, T15, LL15, hh15, kk15, tv_, X15, e15, Nf, c15, hS, hk, hZ, hown, hR, Zh, Sv_, Kn⟩ : ∃ (V : Vm) (T : State) (L : List Loc) (h : Heap) (kk : Nat) (tt : Addr), Stand p l e room_1 (s.setVm V) m #[(.int i0), (.int i1), (.int i2), (.int i3)] below meth c T L 12 30 ∧ T.heap = h ∧ Fr n0 L ∧ Steps p.tables e below S0 (T.setTop (mkF m 34 #[.val (.int i0), .val (.int i1), .val (.int i2), .val (.int i3), .val (.ref au), .val (.ref av), .val (.ref b6), .unset, .unset, .unset, .unset, .unset] [(.ref b13)])) ∧ s.Since V kk ∧ kk ≤ h.size ∧ Z.Warmed39 (s.setVm V).vm ∧ (s.setVm V).vm.findClass "com/example/waybill/waybill/board/HtmlClosePinLaw" = some m.cls ∧ CHr Z consts_1 V0 h0 V h ∧ n0 ≤ h.size ∧ own_Str Z h b13 tt csv ∧ Keep h13 h [b13] := by
    by_cases hg : csv.length = 0
    · have hcs : csv = [] := List.length_eq_zero_iff.mp hg
      subst hcs
      obtain ⟨cl, Ar, -, Sz, -⟩ := Vv
      obtain ⟨_, _, ⟨T16, L16, k16, n16⟩, -, X16, hS16, hge16, ⟨Lc16, hQ16, l16, y16, z16, hCr16⟩, st16⟩ := X13.specialBackS hx (y := (⟨"java/lang/String", "<init>", "([C)V"⟩ : MethodName)) rfl hown (mvT hZ (hw _ (List.mem_of_getElem? (i := 8) rfl))) (mvT hZ (hw _ (List.mem_of_getElem? (i := 9) rfl))) (mvT hZ (hw _ (List.mem_of_getElem? (i := 10) rfl))) (by decide) (backOfSX (W := 1) (rm3 l Z a0 hw [] b13 av cl h13 n0 Zh A13 Fv Fc gb13 Ar Sz) hZ (hw _ (List.mem_of_getElem? (i := 10) rfl)) (hw _ (List.mem_of_getElem? (i := 7) rfl)) (by decide) (by decide) hEL hR.1 (fun x hx => by cases List.mem_singleton.mp hx; exact ⟨A13.lt, Sf_b13⟩)) (g := (mkF m 31 #[.val (.int i0), .val (.int i1), .val (.int i2), .val (.int i3), .val (.ref au), .val (.ref av), .val (.ref b6), .unset, .unset, .unset, .unset, .unset] [(.ref av), (.ref b13), (.ref b13)])) rfl (by rw [hml]; rfl) (Steps.refl _) (a := b13) (argsL := [(.ref av)]) (rest := [(.ref b13)]) (lenOf pd23 rfl) rfl (by show 2 * 0 + _ ≤ _; exact Nat.le_of_eq rfl) (hb hby at_31) (fun _ _ => ⟨rfl, e13, (by decide : 8 + 4 ≤ _), (by decide : 22 + 8 ≤ _)⟩)
      dsimp only [Pt.U, Pt.locs, Pt.cells, Pt.slots] at X16 l16 y16 z16 st16 hQ16 hS16 hge16 hCr16
      subst l16 y16 z16
      obtain ⟨X16, hS, hZ, hown⟩ := rebS hS (by rw [e13]; exact hk) X16 hS16 hge16 hZ hown
      have hk : T16.heap.size ≤ T16.heap.size := Nat.le_refl _
      have hR := hR.trans hCr16
      obtain ⟨rfl, Ne, Ke, te, De⟩ := hQ16
      have c16 : Steps p.tables e below S0 (T16.setTop (mkF m 34 #[.val (.int i0), .val (.int i1), .val (.int i2), .val (.int i3), .val (.ref au), .val (.ref av), .val (.ref b6), .unset, .unset, .unset, .unset, .unset] [(.ref b13)])) := by
        refine c14.trans ?_
        show Steps p.tables e below (T13.setTop (mkF m 31 #[.val (.int i0), .val (.int i1), .val (.int i2), .val (.int i3), .val (.ref au), .val (.ref av), .val (.ref b6), .unset, .unset, .unset, .unset, .unset] [(.ref av), (.ref b13), (.ref b13)])) _
        refine st16.trans ?_
        exact Steps.refl _
      exact ⟨_, _, _, _, _, te, X16, rfl, Fr.app Nf Ne, c16, hS, hk, hZ, hown, hR, Nat.le_trans Zh Ke.1, De, Ke⟩
    · have hws : ∀ d ∈ StrChars.Road.words, d.before a0 Z = true := fun d hd => hw d ((by decide +kernel : ∀ d ∈ StrChars.Road.words, d ∈ tables_1) d hd)
      have hp8 : ∀ c ∈ csv, ¬ c < 0 ∧ ¬ (255 : Int32) < c := own_7to8 hpv
      obtain ⟨_, _, ⟨T17, L17, k17, n17⟩, -, X17, ⟨Lc17, hQ17, l17, y17, z17⟩, st17⟩ := X13.specialBack hx (y := (⟨"java/lang/String", "<init>", "([C)V"⟩ : MethodName)) rfl hown (mvT hZ (hw _ (List.mem_of_getElem? (i := 8) rfl))) (mvT hZ (hw _ (List.mem_of_getElem? (i := 9) rfl))) (mvT hZ (hw _ (List.mem_of_getElem? (i := 10) rfl))) (by decide) (StrChars.Road.backV (W := 1) hZ hws (kI := 4) (hw _ (List.mem_of_getElem? (i := 6) rfl)) (cs := csv) (bs := csv.map (fun c => c.toInt8.toInt32)) (n := csv.length) gb13 Zh A13 Fv Fc Vv (O2.ext (X00.keep hKp (fun x hx => by cases hx)).2) P5 rfl rfl (by omega) (by omega) hp8 rfl (by decide) (by decide)) (g := (mkF m 31 #[.val (.int i0), .val (.int i1), .val (.int i2), .val (.int i3), .val (.ref au), .val (.ref av), .val (.ref b6), .unset, .unset, .unset, .unset, .unset] [(.ref av), (.ref b13), (.ref b13)])) rfl (by rw [hml]; rfl) (Steps.refl _) (a := b13) (argsL := [(.ref av)]) (rest := [(.ref b13)]) (lenOf pd23 rfl) rfl (by show 2 * 0 + _ ≤ _; exact Nat.le_of_eq rfl) (hb hby at_31) (fun _ _ => ⟨rfl, e13, (by decide : 8 + 1 ≤ _), (Nat.le_trans (Nat.add_le_add_left llv _) (Nat.le_of_ble_eq_true rfl))⟩)
      dsimp only [Pt.U, Pt.locs, Pt.cells, Pt.slots] at X17 l17 y17 z17 st17 hQ17
      subst l17 y17 z17
      obtain ⟨rfl, N5, K5, D5, C5, t5, k5, -, -, -, F5, V5⟩ := hQ17
      have c17 : Steps p.tables e below S0 (T17.setTop (mkF m 34 #[.val (.int i0), .val (.int i1), .val (.int i2), .val (.int i3), .val (.ref au), .val (.ref av), .val (.ref b6), .unset, .unset, .unset, .unset, .unset] [(.ref b13)])) := by
        refine c14.trans ?_
        show Steps p.tables e below (T13.setTop (mkF m 31 #[.val (.int i0), .val (.int i1), .val (.int i2), .val (.int i3), .val (.ref au), .val (.ref av), .val (.ref b6), .unset, .unset, .unset, .unset, .unset] [(.ref av), (.ref b13), (.ref b13)])) _
        refine st17.trans ?_
        exact Steps.refl _
      have hRs17 := CHr.keep K5 (fun x hx => by cases List.mem_singleton.mp hx; exact Sf_b13) hR.1
      have hR := hR.trans hRs17
      have Zh := Nat.le_trans Zh K5.1
      have hk := Nat.le_trans hk K5.1
      exact ⟨_, _, _, _, _, t5, X17.more (by decide) (Nat.le_trans (Nat.add_le_add_left llv _) (by decide)), rfl, Fr.app Nf N5, c17, hS, hk, hZ, hown, hR, Zh, ⟨D5, C5, F5, ⟨_, V5⟩, hp8, by omega⟩, K5⟩
  have hKp := hKp.trans Kn (fun x hx => by cases List.mem_singleton.mp hx; exact Or.inr zs)
  have nsu : b13 ≠ au := A13.neArv Vu (hw _ (List.mem_of_getElem? (i := 6) rfl))
  have nsv : b13 ≠ av := A13.neArv Vv (hw _ (List.mem_of_getElem? (i := 6) rfl))
  have Vu := Vu.keep Kn (fun q => nsu (List.mem_singleton.mp q).symm)
  have Vv := Vv.keep Kn (fun q => nsv (List.mem_singleton.mp q).symm)
  have nss : b13 ≠ b6 := fun q => Nat.lt_irrefl _ (by have := Sulive; rw [← q, g13] at this; exact this)
  have nst : b13 ≠ tu_ := A13.neArv Su_.2.2.2.1.choose_spec (hw _ (List.mem_of_getElem? (i := 6) rfl))
  have Su_ := Su_.keep Kn (fun q => nss (List.mem_singleton.mp q).symm) (fun q => nst (List.mem_singleton.mp q).symm)
  have c19 : Steps p.tables e below S0 (T15.setTop (mkF m 36 #[.val (.int i0), .val (.int i1), .val (.int i2), .val (.int i3), .val (.ref au), .val (.ref av), .val (.ref b6), .val (.ref b13), .unset, .unset, .unset, .unset] [])) := by
    refine c15.trans ?_
    show Steps p.tables e below (T15.setTop (mkF m 34 #[.val (.int i0), .val (.int i1), .val (.int i2), .val (.int i3), .val (.ref au), .val (.ref av), .val (.ref b6), .unset, .unset, .unset, .unset, .unset] [(.ref b13)])) _
    refine XS.astore X15.here hx rfl (hb hby at_34) rfl rfl (l' := #[.val (.int i0), .val (.int i1), .val (.int i2), .val (.int i3), .val (.ref au), .val (.ref av), .val (.ref b6), .val (.ref b13), .unset, .unset, .unset, .unset]) rfl ?_
    exact Steps.refl _
  obtain ⟨T20, h20, X20, e20, E20, A20, D20, -, st20⟩ := newO X15 hx hZ hown (hw _ (List.mem_of_getElem? (i := 37) rfl)) (hw _ (List.mem_of_getElem? (i := 38) rfl)) (hw _ (List.mem_of_getElem? (i := 39) rfl)) e15 (g := (mkF m 36 #[.val (.int i0), .val (.int i1), .val (.int i2), .val (.int i3), .val (.ref au), .val (.ref av), .val (.ref b6), .val (.ref b13), .unset, .unset, .unset, .unset] [])) rfl (hb hby at_36) (by decide) (by decide)
  obtain ⟨b20, g20⟩ : ∃ z, z = hh15.size := ⟨_, rfl⟩
  rw [← g20] at A20 D20 st20
  have c20 : Steps p.tables e below S0 (T20.setTop (mkF m 39 #[.val (.int i0), .val (.int i1), .val (.int i2), .val (.int i3), .val (.ref au), .val (.ref av), .val (.ref b6), .val (.ref b13), .unset, .unset, .unset, .unset] [(.ref b20)])) := by
    refine c19.trans ?_
    show Steps p.tables e below (T15.setTop (mkF m 36 #[.val (.int i0), .val (.int i1), .val (.int i2), .val (.int i3), .val (.ref au), .val (.ref av), .val (.ref b6), .val (.ref b13), .unset, .unset, .unset, .unset] [])) _
    refine st20 _ ?_
    exact Steps.refl _
  have Sf_b20 := Safe.ext E20 hR.1 (Safe.new (Nat.le_of_eq g20.symm))
  have gb20 : n0 ≤ b20 := Nat.le_trans Zh (Nat.le_of_eq g20.symm)
  have hRs20 := CHr.ext E20 hR.1
  have hR := hR.trans hRs20
  have Zh := Nat.le_trans Zh E20.1
  have hk := Nat.le_trans hk E20.1
  have zo : h0.size ≤ b20 := Nat.le_trans hKp.1 (Nat.le_of_eq g20.symm)
  have hKp := hKp.ext E20
  have Vu := Vu.ext E20
  have Vv := Vv.ext E20
  have Su_ := Su_.ext E20
  have Sv_ := Sv_.ext E20
  have Go : Fld Z h20 b20 "com/example/waybill/waybill/board/Html" "out" "Ljava/lang/StringBuilder;" .null := D20 (Or.inr (hw _ (List.mem_of_getElem? (i := 116) rfl))) (ty := (.object "java/lang/StringBuilder")) (by decide)
  have lsv := Sv_.1.lt
  have lsu := Su_.1.lt
  have lav := Vv.lt
  have lau := Vu.lt
  have ltu := Su_.2.2.2.1.choose_spec.lt
  have ltv := Sv_.2.2.2.1.choose_spec.lt
  have c21 : Steps p.tables e below S0 (T20.setTop (mkF m 40 #[.val (.int i0), .val (.int i1), .val (.int i2), .val (.int i3), .val (.ref au), .val (.ref av), .val (.ref b6), .val (.ref b13), .unset, .unset, .unset, .unset] [(.ref b20), (.ref b20)])) := by
    refine c20.trans ?_
    show Steps p.tables e below (T20.setTop (mkF m 39 #[.val (.int i0), .val (.int i1), .val (.int i2), .val (.int i3), .val (.ref au), .val (.ref av), .val (.ref b6), .val (.ref b13), .unset, .unset, .unset, .unset] [(.ref b20)])) _
    refine XS.dup X20.here hx rfl (hb hby at_39) rfl rfl ?_
    exact Steps.refl _
  obtain ⟨_, _, ⟨T22, L22, k22, n22⟩, -, X22, hS22, hge22, ⟨Lc22, hQ22, l22, y22, z22, hCr22⟩, st22⟩ := X20.specialBackS hx (y := (⟨"com/example/waybill/waybill/board/Html", "<init>", "()V"⟩ : MethodName)) rfl hown (mvT hZ (hw _ (List.mem_of_getElem? (i := 40) rfl))) (mvT hZ (hw _ (List.mem_of_getElem? (i := 41) rfl))) (mvT hZ (hw _ (List.mem_of_getElem? (i := 42) rfl))) (by decide) (backOfSX (W := 1) (rmHi l Z a0 hw [] b20 G1 h20 n0 Zh O2 P5 (X00.keep hKp (fun x hx => by cases hx)) A20 Go gb20) hZ (hw _ (List.mem_of_getElem? (i := 42) rfl)) (hw _ (List.mem_of_getElem? (i := 39) rfl)) (by decide) (by decide) hEL hR.1 (fun x hx => by cases hx)) (g := (mkF m 40 #[.val (.int i0), .val (.int i1), .val (.int i2), .val (.int i3), .val (.ref au), .val (.ref av), .val (.ref b6), .val (.ref b13), .unset, .unset, .unset, .unset] [(.ref b20), (.ref b20)])) rfl (by rw [hml]; rfl) (Steps.refl _) (a := b20) (argsL := []) (rest := [(.ref b20)]) (lenOf pd24 rfl) rfl (by show 2 * 0 + _ ≤ _; exact Nat.le_of_eq rfl) (hb hby at_40) (fun _ _ => ⟨rfl, e20, (by decide : 13 + 4 ≤ _), (by decide : 31 + 138 ≤ _)⟩)
  dsimp only [Pt.U, Pt.locs, Pt.cells, Pt.slots] at X22 l22 y22 z22 st22 hQ22 hS22 hge22 hCr22
  subst l22 y22 z22
  obtain ⟨X22, hS, hZ, hown⟩ := rebS hS (by rw [e20]; exact hk) X22 hS22 hge22 hZ hown
  have hk : T22.heap.size ≤ T22.heap.size := Nat.le_refl _
  have hR := hR.trans hCr22
  obtain ⟨rfl, Nd, Kd, b, t, zb, zt, Fo, B⟩ := hQ22
  have c22 : Steps p.tables e below S0 (T22.setTop (mkF m 43 #[.val (.int i0), .val (.int i1), .val (.int i2), .val (.int i3), .val (.ref au), .val (.ref av), .val (.ref b6), .val (.ref b13), .unset, .unset, .unset, .unset] [(.ref b20)])) := by
    refine c21.trans ?_
    show Steps p.tables e below (T20.setTop (mkF m 40 #[.val (.int i0), .val (.int i1), .val (.int i2), .val (.int i3), .val (.ref au), .val (.ref av), .val (.ref b6), .val (.ref b13), .unset, .unset, .unset, .unset] [(.ref b20), (.ref b20)])) _
    refine st22.trans ?_
    exact Steps.refl _
  have noX : ∀ {x : Addr} {kx : ClassId} {tx : FieldType} {zx : Int32} {vx : List Value} {dx : Value}, Arv Z h20 x kx tx zx vx dx → x ∉ [b20] := fun V q => A20.neArv V (hw _ (List.mem_of_getElem? (i := 38) rfl)) (List.mem_singleton.mp q).symm
  have Zh := Nat.le_trans Zh Kd.1
  have Nf := Fr.app Nf Nd
  have hk9 := hk
  have Vu := Vu.keep Kd (noX Vu)
  have Vv := Vv.keep Kd (noX Vv)
  have Su_ := Su_.keep1 Kd A20 (by decide) (hw _ (List.mem_of_getElem? (i := 38) rfl))
  have Sv_ := Sv_.keep1 Kd A20 (by decide) (hw _ (List.mem_of_getElem? (i := 38) rfl))
  have gb : n0 ≤ b := Nat.le_trans Z0 (Nat.le_trans hKp.1 zb)
  have gt : n0 ≤ t := Nat.le_trans Z0 (Nat.le_trans hKp.1 zt)
  have hb0 : h0.size ≤ b := Nat.le_trans hKp.1 zb
  have ht0 : h0.size ≤ t := Nat.le_trans hKp.1 zt
  have ntu : tu_ ≠ t := Nat.ne_of_lt (Nat.lt_of_lt_of_le ltu zt)
  have ntv : tv_ ≠ t := Nat.ne_of_lt (Nat.lt_of_lt_of_le ltv zt)
  have Eo := A20.keep Kd
  have not_ : b20 ∉ [b, t] := fun q => by simp only [List.mem_cons, List.not_mem_nil, or_false] at q; exact q.elim (fun q => Nat.lt_irrefl _ (Nat.lt_of_lt_of_le A20.lt (q ▸ zb))) (fun q => Nat.lt_irrefl _ (Nat.lt_of_lt_of_le A20.lt (q ▸ zt)))
  have hKp := hKp.trans Kd (fun x hx => by cases List.mem_singleton.mp hx; exact Or.inr zo)
  have nau : au ∉ [b, t] := own_nmem lau zb zt
  have nav : av ∉ [b, t] := own_nmem lav zb zt
  have nsu2 : b6 ∉ [b, t] := own_nmem lsu zb zt
  have nsv2 : b13 ∉ [b, t] := own_nmem lsv zb zt
  have ntu2 : tu_ ∉ [b, t] := own_nmem ltu zb zt
  have ntv2 : tv_ ∉ [b, t] := own_nmem ltv zb zt
  have c23 : Steps p.tables e below S0 (T22.setTop (mkF m 49 #[.val (.int i0), .val (.int i1), .val (.int i2), .val (.int i3), .val (.ref au), .val (.ref av), .val (.ref b6), .val (.ref b13), .val (.ref b20), .unset, .unset, .unset] [(.ref b6), (.ref b20)])) := by
    refine c22.trans ?_
    show Steps p.tables e below (T22.setTop (mkF m 43 #[.val (.int i0), .val (.int i1), .val (.int i2), .val (.int i3), .val (.ref au), .val (.ref av), .val (.ref b6), .val (.ref b13), .unset, .unset, .unset, .unset] [(.ref b20)])) _
    refine XS.astore X22.here hx rfl (hb hby at_43) rfl rfl (l' := #[.val (.int i0), .val (.int i1), .val (.int i2), .val (.int i3), .val (.ref au), .val (.ref av), .val (.ref b6), .val (.ref b13), .val (.ref b20), .unset, .unset, .unset]) rfl ?_
    show Steps p.tables e below (T22.setTop (mkF m 45 #[.val (.int i0), .val (.int i1), .val (.int i2), .val (.int i3), .val (.ref au), .val (.ref av), .val (.ref b6), .val (.ref b13), .val (.ref b20), .unset, .unset, .unset] [])) _
    refine XS.aload X22.here hx rfl (hb hby at_45) rfl rfl ?_
    show Steps p.tables e below (T22.setTop (mkF m 47 #[.val (.int i0), .val (.int i1), .val (.int i2), .val (.int i3), .val (.ref au), .val (.ref av), .val (.ref b6), .val (.ref b13), .val (.ref b20), .unset, .unset, .unset] [(.ref b20)])) _
    refine XS.aload X22.here hx rfl (hb hby at_47) rfl rfl ?_
    exact Steps.refl _
  obtain ⟨cq24, kq24, q24a, q24b, q24c⟩ := isOf hZ rfl Eo
  obtain ⟨_, _, ⟨T24, L24, k24, n24⟩, -, X24, hS24, hge24, ⟨Lc24, hQ24, l24, y24, z24, hCr24⟩, st24⟩ := X22.virtualBackS hx (y := (⟨"com/example/waybill/waybill/board/Html", "close", "(Ljava/lang/String;)Lcom/example/waybill/waybill/board/Html;"⟩ : MethodName)) (z := (⟨"com/example/waybill/waybill/board/Html", "close", "(Ljava/lang/String;)Lcom/example/waybill/waybill/board/Html;"⟩ : MethodName)) hown (mvT hZ (hw _ (List.mem_of_getElem? (i := 117) rfl))) (mvT hZ (hw _ (List.mem_of_getElem? (i := 118) rfl))) (notFace_of_selects (args := #[]) (mvT hZ (hw _ (List.mem_of_getElem? (i := 120) rfl)))) (mvT hZ (hw _ (List.mem_of_getElem? (i := 120) rfl))) (mvT hZ (hw _ (List.mem_of_getElem? (i := 119) rfl))) (by decide) (backOfSX (W := 0) (rmHc l Z a0 hw [] b20 b t ([60, 33, 68, 79, 67, 84, 89, 80, 69, 32, 104, 116, 109, 108, 62, 10] : List Int32) b6 tu_ csu G1 T22.heap n0 Zh O2 P5 (X00.keep hKp (fun x hx => by cases hx)) Fo B Su_ (by simp only [List.length_append, List.length_cons, List.length_nil]; omega) gb gt ntu) hZ (hw _ (List.mem_of_getElem? (i := 121) rfl)) (hw _ (List.mem_of_getElem? (i := 39) rfl)) (by decide) (by decide) hEL hR.1 (fun x hx => by cases hx)) q24a q24c (g := (mkF m 49 #[.val (.int i0), .val (.int i1), .val (.int i2), .val (.int i3), .val (.ref au), .val (.ref av), .val (.ref b6), .val (.ref b13), .val (.ref b20), .unset, .unset, .unset] [(.ref b6), (.ref b20)])) rfl (by rw [hml]; rfl) (Steps.refl _) (argsL := [(.ref b6)]) (rest := []) (lenOf pd25 rfl) rfl (by show 2 * 0 + _ ≤ _; exact Nat.le_of_eq rfl) (hb hby at_49) (fun _ _ => ⟨rfl, rfl, (by decide : 17 + 4 ≤ _), (by decide : 169 + 24 ≤ _)⟩)
  dsimp only [Pt.U, Pt.locs, Pt.cells, Pt.slots] at X24 l24 y24 z24 st24 hQ24 hS24 hge24 hCr24
  subst l24 y24 z24
  obtain ⟨X24, hS, hZ, hown⟩ := rebS hS hk X24 hS24 hge24 hZ hown
  have hk : T24.heap.size ≤ T24.heap.size := Nat.le_refl _
  have hR := hR.trans hCr24
  obtain ⟨rfl, Nd, B, Kd⟩ := hQ24
  have c24 : Steps p.tables e below S0 (T24.setTop (mkF m 52 #[.val (.int i0), .val (.int i1), .val (.int i2), .val (.int i3), .val (.ref au), .val (.ref av), .val (.ref b6), .val (.ref b13), .val (.ref b20), .unset, .unset, .unset] [(.ref b20)])) := by
    refine c23.trans ?_
    show Steps p.tables e below (T22.setTop (mkF m 49 #[.val (.int i0), .val (.int i1), .val (.int i2), .val (.int i3), .val (.ref au), .val (.ref av), .val (.ref b6), .val (.ref b13), .val (.ref b20), .unset, .unset, .unset] [(.ref b6), (.ref b20)])) _
    refine st24.trans ?_
    exact Steps.refl _
  have Zh := Nat.le_trans Zh Kd.1
  have Nf := Fr.app Nf Nd
  have hKp := hKp.trans Kd (fun x hx => by simp only [List.mem_cons, List.not_mem_nil, or_false] at hx; rcases hx with rfl | rfl <;> first | exact Or.inr hb0 | exact Or.inr ht0)
  have Vu := Vu.keep Kd nau
  have Vv := Vv.keep Kd nav
  have Su_ := Su_.keep Kd nsu2 ntu2
  have Sv_ := Sv_.keep Kd nsv2 ntv2
  have Eo := Eo.keep Kd
  have Fo := Fo.keep Kd not_
  have c25 : Steps p.tables e below S0 (T24.setTop (mkF m 58 #[.val (.int i0), .val (.int i1), .val (.int i2), .val (.int i3), .val (.ref au), .val (.ref av), .val (.ref b6), .val (.ref b13), .val (.ref b20), .val (.ref b20), .unset, .unset] [(.ref b13), (.ref b20)])) := by
    refine c24.trans ?_
    show Steps p.tables e below (T24.setTop (mkF m 52 #[.val (.int i0), .val (.int i1), .val (.int i2), .val (.int i3), .val (.ref au), .val (.ref av), .val (.ref b6), .val (.ref b13), .val (.ref b20), .unset, .unset, .unset] [(.ref b20)])) _
    refine XS.astore X24.here hx rfl (hb hby at_52) rfl rfl (l' := #[.val (.int i0), .val (.int i1), .val (.int i2), .val (.int i3), .val (.ref au), .val (.ref av), .val (.ref b6), .val (.ref b13), .val (.ref b20), .val (.ref b20), .unset, .unset]) rfl ?_
    show Steps p.tables e below (T24.setTop (mkF m 54 #[.val (.int i0), .val (.int i1), .val (.int i2), .val (.int i3), .val (.ref au), .val (.ref av), .val (.ref b6), .val (.ref b13), .val (.ref b20), .val (.ref b20), .unset, .unset] [])) _
    refine XS.aload X24.here hx rfl (hb hby at_54) rfl rfl ?_
    show Steps p.tables e below (T24.setTop (mkF m 56 #[.val (.int i0), .val (.int i1), .val (.int i2), .val (.int i3), .val (.ref au), .val (.ref av), .val (.ref b6), .val (.ref b13), .val (.ref b20), .val (.ref b20), .unset, .unset] [(.ref b20)])) _
    refine XS.aload X24.here hx rfl (hb hby at_56) rfl rfl ?_
    exact Steps.refl _
  obtain ⟨cq26, kq26, q26a, q26b, q26c⟩ := isOf hZ rfl Eo
  obtain ⟨_, _, ⟨T26, L26, k26, n26⟩, -, X26, hS26, hge26, ⟨Lc26, hQ26, l26, y26, z26, hCr26⟩, st26⟩ := X24.virtualBackS hx (y := (⟨"com/example/waybill/waybill/board/Html", "close", "(Ljava/lang/String;)Lcom/example/waybill/waybill/board/Html;"⟩ : MethodName)) (z := (⟨"com/example/waybill/waybill/board/Html", "close", "(Ljava/lang/String;)Lcom/example/waybill/waybill/board/Html;"⟩ : MethodName)) hown (mvT hZ (hw _ (List.mem_of_getElem? (i := 117) rfl))) (mvT hZ (hw _ (List.mem_of_getElem? (i := 118) rfl))) (notFace_of_selects (args := #[]) (mvT hZ (hw _ (List.mem_of_getElem? (i := 120) rfl)))) (mvT hZ (hw _ (List.mem_of_getElem? (i := 120) rfl))) (mvT hZ (hw _ (List.mem_of_getElem? (i := 119) rfl))) (by decide) (backOfSX (W := 0) (rmHc l Z a0 hw [] b20 b t (((([60, 33, 68, 79, 67, 84, 89, 80, 69, 32, 104, 116, 109, 108, 62, 10] : List Int32) ++ ([60, 47] : List Int32)) ++ csu) ++ ([62, 10] : List Int32)) b13 tv_ csv G1 T24.heap n0 Zh O2 P5 (X00.keep hKp (fun x hx => by cases hx)) Fo B Sv_ (by simp only [List.length_append, List.length_cons, List.length_nil]; omega) gb gt ntv) hZ (hw _ (List.mem_of_getElem? (i := 121) rfl)) (hw _ (List.mem_of_getElem? (i := 39) rfl)) (by decide) (by decide) hEL hR.1 (fun x hx => by cases hx)) q26a q26c (g := (mkF m 58 #[.val (.int i0), .val (.int i1), .val (.int i2), .val (.int i3), .val (.ref au), .val (.ref av), .val (.ref b6), .val (.ref b13), .val (.ref b20), .val (.ref b20), .unset, .unset] [(.ref b13), (.ref b20)])) rfl (by rw [hml]; rfl) (Steps.refl _) (argsL := [(.ref b13)]) (rest := []) (lenOf pd25 rfl) rfl (by show 2 * 0 + _ ≤ _; exact Nat.le_of_eq rfl) (hb hby at_58) (fun _ _ => ⟨rfl, rfl, (by decide : 21 + 4 ≤ _), (by decide : 193 + 24 ≤ _)⟩)
  dsimp only [Pt.U, Pt.locs, Pt.cells, Pt.slots] at X26 l26 y26 z26 st26 hQ26 hS26 hge26 hCr26
  subst l26 y26 z26
  obtain ⟨X26, hS, hZ, hown⟩ := rebS hS hk X26 hS26 hge26 hZ hown
  have hk : T26.heap.size ≤ T26.heap.size := Nat.le_refl _
  have hR := hR.trans hCr26
  obtain ⟨rfl, Nd, B, Kd⟩ := hQ26
  have c26 : Steps p.tables e below S0 (T26.setTop (mkF m 61 #[.val (.int i0), .val (.int i1), .val (.int i2), .val (.int i3), .val (.ref au), .val (.ref av), .val (.ref b6), .val (.ref b13), .val (.ref b20), .val (.ref b20), .unset, .unset] [(.ref b20)])) := by
    refine c25.trans ?_
    show Steps p.tables e below (T24.setTop (mkF m 58 #[.val (.int i0), .val (.int i1), .val (.int i2), .val (.int i3), .val (.ref au), .val (.ref av), .val (.ref b6), .val (.ref b13), .val (.ref b20), .val (.ref b20), .unset, .unset] [(.ref b13), (.ref b20)])) _
    refine st26.trans ?_
    exact Steps.refl _
  have Zh := Nat.le_trans Zh Kd.1
  have Nf := Fr.app Nf Nd
  have hKp := hKp.trans Kd (fun x hx => by simp only [List.mem_cons, List.not_mem_nil, or_false] at hx; rcases hx with rfl | rfl <;> first | exact Or.inr hb0 | exact Or.inr ht0)
  have Vu := Vu.keep Kd nau
  have Vv := Vv.keep Kd nav
  have Su_ := Su_.keep Kd nsu2 ntu2
  have Sv_ := Sv_.keep Kd nsv2 ntv2
  have Eo := Eo.keep Kd
  have Fo := Fo.keep Kd not_
  obtain ⟨hlen, hp7, f0, f15, f16, f17, fs, fe, ff, g0_, g1_, gs_, ge_, gf_⟩ := own_res csu csv llu llv hpu hpv
  generalize ((((((([60, 33, 68, 79, 67, 84, 89, 80, 69, 32, 104, 116, 109, 108, 62, 10] : List Int32) ++ ([60, 47] : List Int32)) ++ csu) ++ ([62, 10] : List Int32)) ++ ([60, 47] : List Int32)) ++ csv) ++ ([62, 10] : List Int32)) = res at B hlen hp7 f0 f15 f16 f17 fs fe ff g0_ g1_ gs_ ge_ gf_
  have c27 : Steps p.tables e below S0 (T26.setTop (mkF m 65 #[.val (.int i0), .val (.int i1), .val (.int i2), .val (.int i3), .val (.ref au), .val (.ref av), .val (.ref b6), .val (.ref b13), .val (.ref b20), .val (.ref b20), .val (.ref b20), .unset] [(.ref b20)])) := by
    refine c26.trans ?_
    show Steps p.tables e below (T26.setTop (mkF m 61 #[.val (.int i0), .val (.int i1), .val (.int i2), .val (.int i3), .val (.ref au), .val (.ref av), .val (.ref b6), .val (.ref b13), .val (.ref b20), .val (.ref b20), .unset, .unset] [(.ref b20)])) _
    refine XS.astore X26.here hx rfl (hb hby at_61) rfl rfl (l' := #[.val (.int i0), .val (.int i1), .val (.int i2), .val (.int i3), .val (.ref au), .val (.ref av), .val (.ref b6), .val (.ref b13), .val (.ref b20), .val (.ref b20), .val (.ref b20), .unset]) rfl ?_
    show Steps p.tables e below (T26.setTop (mkF m 63 #[.val (.int i0), .val (.int i1), .val (.int i2), .val (.int i3), .val (.ref au), .val (.ref av), .val (.ref b6), .val (.ref b13), .val (.ref b20), .val (.ref b20), .val (.ref b20), .unset] [])) _
    refine XS.aload X26.here hx rfl (hb hby at_63) rfl rfl ?_
    exact Steps.refl _
  obtain ⟨cq28, kq28, q28a, q28b, q28c⟩ := isOf hZ rfl Eo
  obtain ⟨_, _, ⟨T28, L28, k28, n28⟩, -, X28, ⟨Lc28, hQ28, l28, y28, z28⟩, st28⟩ := X26.virtualBack hx (y := (⟨"com/example/waybill/waybill/board/Html", "bytes", "()[B"⟩ : MethodName)) (z := (⟨"com/example/waybill/waybill/board/Html", "bytes", "()[B"⟩ : MethodName)) hown (mvT hZ (hw _ (List.mem_of_getElem? (i := 125) rfl))) (mvT hZ (hw _ (List.mem_of_getElem? (i := 126) rfl))) (notFace_of_selects (args := #[]) (mvT hZ (hw _ (List.mem_of_getElem? (i := 128) rfl)))) (mvT hZ (hw _ (List.mem_of_getElem? (i := 128) rfl))) (mvT hZ (hw _ (List.mem_of_getElem? (i := 127) rfl))) (by decide) (backOf (W := 0) (rmBy l Z a0 hw [] b20 b t 32 res cu G1 T26.heap n0 Zh O2 P5 (X00.keep hKp (fun x hx => by cases hx)) Su Su2 Fo B hp7 (by omega) (by omega)) hZ (hw _ (List.mem_of_getElem? (i := 129) rfl)) (hw _ (List.mem_of_getElem? (i := 39) rfl)) (by decide) (by decide)) q28a q28c (g := (mkF m 65 #[.val (.int i0), .val (.int i1), .val (.int i2), .val (.int i3), .val (.ref au), .val (.ref av), .val (.ref b6), .val (.ref b13), .val (.ref b20), .val (.ref b20), .val (.ref b20), .unset] [(.ref b20)])) rfl (by rw [hml]; rfl) (Steps.refl _) (argsL := []) (rest := []) (lenOf pd10 rfl) rfl (by show 2 * 0 + _ ≤ _; exact Nat.le_of_eq rfl) (hb hby at_65) (fun _ _ => ⟨rfl, rfl, (by decide : 25 + 3 ≤ _), (by decide : 217 + 204 ≤ _)⟩)
  dsimp only [Pt.U, Pt.locs, Pt.cells, Pt.slots] at X28 l28 y28 z28 st28 hQ28
  subst l28 y28 z28
  obtain ⟨⟨rb, kr, rfl, zr, Vr⟩, Nd, Kd⟩ := hQ28
  have c28 : Steps p.tables e below S0 (T28.setTop (mkF m 68 #[.val (.int i0), .val (.int i1), .val (.int i2), .val (.int i3), .val (.ref au), .val (.ref av), .val (.ref b6), .val (.ref b13), .val (.ref b20), .val (.ref b20), .val (.ref b20), .unset] [(.ref rb)])) := by
    refine c27.trans ?_
    show Steps p.tables e below (T26.setTop (mkF m 65 #[.val (.int i0), .val (.int i1), .val (.int i2), .val (.int i3), .val (.ref au), .val (.ref av), .val (.ref b6), .val (.ref b13), .val (.ref b20), .val (.ref b20), .val (.ref b20), .unset] [(.ref b20)])) _
    refine st28.trans ?_
    exact Steps.refl _
  have hRs28 := CHr.keep Kd (fun x hx => by cases hx) hR.1
  have hR := hR.trans hRs28
  have Zh := Nat.le_trans Zh Kd.1
  have hk := Nat.le_trans hk Kd.1
  have Nf := Fr.app Nf Nd
  have hKp := hKp.trans Kd (fun x hx => by cases hx)
  have Vu := Vu.keep Kd (fun q => by cases q)
  have Vv := Vv.keep Kd (fun q => by cases q)
  obtain ⟨cr, Rr, -, Rs, Rm, -, -⟩ := id Vr
  obtain ⟨cu_, Ru, -, Us, Um, -, -⟩ := id Vu
  obtain ⟨cv_, Rv, -, Vs, Vm_, -, -⟩ := id Vv
  have c29 : Steps p.tables e below S0 (T28.setTop (mkF m 77 #[.val (.int i0), .val (.int i1), .val (.int i2), .val (.int i3), .val (.ref au), .val (.ref av), .val (.ref b6), .val (.ref b13), .val (.ref b20), .val (.ref b20), .val (.ref b20), .val (.ref rb)] [])) := by
    refine c28.trans ?_
    show Steps p.tables e below (T28.setTop (mkF m 68 #[.val (.int i0), .val (.int i1), .val (.int i2), .val (.int i3), .val (.ref au), .val (.ref av), .val (.ref b6), .val (.ref b13), .val (.ref b20), .val (.ref b20), .val (.ref b20), .unset] [(.ref rb)])) _
    refine XS.astore X28.here hx rfl (hb hby at_68) rfl rfl (l' := #[.val (.int i0), .val (.int i1), .val (.int i2), .val (.int i3), .val (.ref au), .val (.ref av), .val (.ref b6), .val (.ref b13), .val (.ref b20), .val (.ref b20), .val (.ref b20), .val (.ref rb)]) rfl ?_
    show Steps p.tables e below (T28.setTop (mkF m 70 #[.val (.int i0), .val (.int i1), .val (.int i2), .val (.int i3), .val (.ref au), .val (.ref av), .val (.ref b6), .val (.ref b13), .val (.ref b20), .val (.ref b20), .val (.ref b20), .val (.ref rb)] [])) _
    refine XS.aload X28.here hx rfl (hb hby at_70) rfl rfl ?_
    show Steps p.tables e below (T28.setTop (mkF m 72 #[.val (.int i0), .val (.int i1), .val (.int i2), .val (.int i3), .val (.ref au), .val (.ref av), .val (.ref b6), .val (.ref b13), .val (.ref b20), .val (.ref b20), .val (.ref b20), .val (.ref rb)] [(.ref b20)])) _
    refine XS.aload X28.here hx rfl (hb hby at_72) rfl rfl ?_
    show Steps p.tables e below (T28.setTop (mkF m 74 #[.val (.int i0), .val (.int i1), .val (.int i2), .val (.int i3), .val (.ref au), .val (.ref av), .val (.ref b6), .val (.ref b13), .val (.ref b20), .val (.ref b20), .val (.ref b20), .val (.ref rb)] [(.ref b20), (.ref b20)])) _
    refine Jvm.RoadKit.acmp (g := (mkF m 74 #[.val (.int i0), .val (.int i1), .val (.int i2), .val (.int i3), .val (.ref au), .val (.ref av), .val (.ref b6), .val (.ref b13), .val (.ref b20), .val (.ref b20), .val (.ref b20), .val (.ref rb)] [(.ref b20), (.ref b20)])) X28 hx rfl rfl rfl (pc0 := 74) (pc' := 77) (same := true) rfl (hb hby at_74) rfl (by simp) (by decide) (by decide) ?_
    exact Steps.refl _
  have c30 : Steps p.tables e below S0 (T28.setTop (mkF m 86 #[.val (.int i0), .val (.int i1), .val (.int i2), .val (.int i3), .val (.ref au), .val (.ref av), .val (.ref b6), .val (.ref b13), .val (.ref b20), .val (.ref b20), .val (.ref b20), .val (.ref rb)] [])) := by
    refine c29.trans ?_
    show Steps p.tables e below (T28.setTop (mkF m 77 #[.val (.int i0), .val (.int i1), .val (.int i2), .val (.int i3), .val (.ref au), .val (.ref av), .val (.ref b6), .val (.ref b13), .val (.ref b20), .val (.ref b20), .val (.ref b20), .val (.ref rb)] [])) _
    refine XS.aload X28.here hx rfl (hb hby at_77) rfl rfl ?_
    show Steps p.tables e below (T28.setTop (mkF m 79 #[.val (.int i0), .val (.int i1), .val (.int i2), .val (.int i3), .val (.ref au), .val (.ref av), .val (.ref b6), .val (.ref b13), .val (.ref b20), .val (.ref b20), .val (.ref b20), .val (.ref rb)] [(.ref b20)])) _
    refine XS.aload X28.here hx rfl (hb hby at_79) rfl rfl ?_
    show Steps p.tables e below (T28.setTop (mkF m 81 #[.val (.int i0), .val (.int i1), .val (.int i2), .val (.int i3), .val (.ref au), .val (.ref av), .val (.ref b6), .val (.ref b13), .val (.ref b20), .val (.ref b20), .val (.ref b20), .val (.ref rb)] [(.ref b20), (.ref b20)])) _
    refine Jvm.RoadKit.acmp (g := (mkF m 81 #[.val (.int i0), .val (.int i1), .val (.int i2), .val (.int i3), .val (.ref au), .val (.ref av), .val (.ref b6), .val (.ref b13), .val (.ref b20), .val (.ref b20), .val (.ref b20), .val (.ref rb)] [(.ref b20), (.ref b20)])) X28 hx rfl rfl rfl (pc0 := 81) (pc' := 86) (same := true) rfl (hb hby at_81) rfl (by simp) (by decide) (by decide) ?_
    exact Steps.refl _
  have c31 : Steps p.tables e below S0 (T28.setTop (mkF m 88 #[.val (.int i0), .val (.int i1), .val (.int i2), .val (.int i3), .val (.ref au), .val (.ref av), .val (.ref b6), .val (.ref b13), .val (.ref b20), .val (.ref b20), .val (.ref b20), .val (.ref rb)] [(.ref rb)])) := by
    refine c30.trans ?_
    show Steps p.tables e below (T28.setTop (mkF m 86 #[.val (.int i0), .val (.int i1), .val (.int i2), .val (.int i3), .val (.ref au), .val (.ref av), .val (.ref b6), .val (.ref b13), .val (.ref b20), .val (.ref b20), .val (.ref b20), .val (.ref rb)] [])) _
    refine XS.aload X28.here hx rfl (hb hby at_86) rfl rfl ?_
    exact Steps.refl _
  have c32 : Steps p.tables e below S0 (T28.setTop (mkF m 89 #[.val (.int i0), .val (.int i1), .val (.int i2), .val (.int i3), .val (.ref au), .val (.ref av), .val (.ref b6), .val (.ref b13), .val (.ref b20), .val (.ref b20), .val (.ref b20), .val (.ref rb)] [(.int (Int32.ofNat res.length))])) := by
    refine c31.trans ?_
    show Steps p.tables e below (T28.setTop (mkF m 88 #[.val (.int i0), .val (.int i1), .val (.int i2), .val (.int i3), .val (.ref au), .val (.ref av), .val (.ref b6), .val (.ref b13), .val (.ref b20), .val (.ref b20), .val (.ref b20), .val (.ref rb)] [(.ref rb)])) _
    refine X28.arraylength hx Rr.1 (State.isArrayOf_alike hZ.alike Rr.2.1) (g := (mkF m 88 #[.val (.int i0), .val (.int i1), .val (.int i2), .val (.int i3), .val (.ref au), .val (.ref av), .val (.ref b6), .val (.ref b13), .val (.ref b20), .val (.ref b20), .val (.ref b20), .val (.ref rb)] [(.ref rb)])) rfl rfl (hb hby at_88) _ ?_
    rw [len_of Rs Rm]
    exact Steps.refl _
  have c33 : Steps p.tables e below S0 (T28.setTop (mkF m 93 #[.val (.int i0), .val (.int i1), .val (.int i2), .val (.int i3), .val (.ref au), .val (.ref av), .val (.ref b6), .val (.ref b13), .val (.ref b20), .val (.ref b20), .val (.ref b20), .val (.ref rb)] [(.ref au), (.int (16 : Int32)), (.int (Int32.ofNat res.length))])) := by
    refine c32.trans ?_
    show Steps p.tables e below (T28.setTop (mkF m 89 #[.val (.int i0), .val (.int i1), .val (.int i2), .val (.int i3), .val (.ref au), .val (.ref av), .val (.ref b6), .val (.ref b13), .val (.ref b20), .val (.ref b20), .val (.ref b20), .val (.ref rb)] [(.int (Int32.ofNat res.length))])) _
    refine XS.bipush X28.here hx rfl (hb hby at_89) ?_
    show Steps p.tables e below (T28.setTop (mkF m 91 #[.val (.int i0), .val (.int i1), .val (.int i2), .val (.int i3), .val (.ref au), .val (.ref av), .val (.ref b6), .val (.ref b13), .val (.ref b20), .val (.ref b20), .val (.ref b20), .val (.ref rb)] [(.int (16 : Int32)), (.int (Int32.ofNat res.length))])) _
    refine XS.aload X28.here hx rfl (hb hby at_91) rfl rfl ?_
    exact Steps.refl _
  have c34 : Steps p.tables e below S0 (T28.setTop (mkF m 94 #[.val (.int i0), .val (.int i1), .val (.int i2), .val (.int i3), .val (.ref au), .val (.ref av), .val (.ref b6), .val (.ref b13), .val (.ref b20), .val (.ref b20), .val (.ref b20), .val (.ref rb)] [(.int (Int32.ofNat csu.length)), (.int (16 : Int32)), (.int (Int32.ofNat res.length))])) := by
    refine c33.trans ?_
    show Steps p.tables e below (T28.setTop (mkF m 93 #[.val (.int i0), .val (.int i1), .val (.int i2), .val (.int i3), .val (.ref au), .val (.ref av), .val (.ref b6), .val (.ref b13), .val (.ref b20), .val (.ref b20), .val (.ref b20), .val (.ref rb)] [(.ref au), (.int (16 : Int32)), (.int (Int32.ofNat res.length))])) _
    refine X28.arraylength hx Ru.1 (State.isArrayOf_alike hZ.alike Ru.2.1) (g := (mkF m 93 #[.val (.int i0), .val (.int i1), .val (.int i2), .val (.int i3), .val (.ref au), .val (.ref av), .val (.ref b6), .val (.ref b13), .val (.ref b20), .val (.ref b20), .val (.ref b20), .val (.ref rb)] [(.ref au), (.int (16 : Int32)), (.int (Int32.ofNat res.length))])) rfl rfl (hb hby at_93) _ ?_
    rw [len_of Us Um]
    exact Steps.refl _
  have c35 : Steps p.tables e below S0 (T28.setTop (mkF m 99 #[.val (.int i0), .val (.int i1), .val (.int i2), .val (.int i3), .val (.ref au), .val (.ref av), .val (.ref b6), .val (.ref b13), .val (.ref b20), .val (.ref b20), .val (.ref b20), .val (.ref rb)] [(.ref av), (.int (((16 : Int32) + (Int32.ofNat csu.length)) + (4 : Int32))), (.int (Int32.ofNat res.length))])) := by
    refine c34.trans ?_
    show Steps p.tables e below (T28.setTop (mkF m 94 #[.val (.int i0), .val (.int i1), .val (.int i2), .val (.int i3), .val (.ref au), .val (.ref av), .val (.ref b6), .val (.ref b13), .val (.ref b20), .val (.ref b20), .val (.ref b20), .val (.ref rb)] [(.int (Int32.ofNat csu.length)), (.int (16 : Int32)), (.int (Int32.ofNat res.length))])) _
    refine XS.iadd X28.here hx rfl (hb hby at_94) rfl ?_
    show Steps p.tables e below (T28.setTop (mkF m 95 #[.val (.int i0), .val (.int i1), .val (.int i2), .val (.int i3), .val (.ref au), .val (.ref av), .val (.ref b6), .val (.ref b13), .val (.ref b20), .val (.ref b20), .val (.ref b20), .val (.ref rb)] [(.int ((16 : Int32) + (Int32.ofNat csu.length))), (.int (Int32.ofNat res.length))])) _
    refine XS.iconst X28.here hx rfl (hb hby at_95) ?_
    show Steps p.tables e below (T28.setTop (mkF m 96 #[.val (.int i0), .val (.int i1), .val (.int i2), .val (.int i3), .val (.ref au), .val (.ref av), .val (.ref b6), .val (.ref b13), .val (.ref b20), .val (.ref b20), .val (.ref b20), .val (.ref rb)] [(.int (4 : Int32)), (.int ((16 : Int32) + (Int32.ofNat csu.length))), (.int (Int32.ofNat res.length))])) _
    refine XS.iadd X28.here hx rfl (hb hby at_96) rfl ?_
    show Steps p.tables e below (T28.setTop (mkF m 97 #[.val (.int i0), .val (.int i1), .val (.int i2), .val (.int i3), .val (.ref au), .val (.ref av), .val (.ref b6), .val (.ref b13), .val (.ref b20), .val (.ref b20), .val (.ref b20), .val (.ref rb)] [(.int (((16 : Int32) + (Int32.ofNat csu.length)) + (4 : Int32))), (.int (Int32.ofNat res.length))])) _
    refine XS.aload X28.here hx rfl (hb hby at_97) rfl rfl ?_
    exact Steps.refl _
  have c36 : Steps p.tables e below S0 (T28.setTop (mkF m 100 #[.val (.int i0), .val (.int i1), .val (.int i2), .val (.int i3), .val (.ref au), .val (.ref av), .val (.ref b6), .val (.ref b13), .val (.ref b20), .val (.ref b20), .val (.ref b20), .val (.ref rb)] [(.int (Int32.ofNat csv.length)), (.int (((16 : Int32) + (Int32.ofNat csu.length)) + (4 : Int32))), (.int (Int32.ofNat res.length))])) := by
    refine c35.trans ?_
    show Steps p.tables e below (T28.setTop (mkF m 99 #[.val (.int i0), .val (.int i1), .val (.int i2), .val (.int i3), .val (.ref au), .val (.ref av), .val (.ref b6), .val (.ref b13), .val (.ref b20), .val (.ref b20), .val (.ref b20), .val (.ref rb)] [(.ref av), (.int (((16 : Int32) + (Int32.ofNat csu.length)) + (4 : Int32))), (.int (Int32.ofNat res.length))])) _
    refine X28.arraylength hx Rv.1 (State.isArrayOf_alike hZ.alike Rv.2.1) (g := (mkF m 99 #[.val (.int i0), .val (.int i1), .val (.int i2), .val (.int i3), .val (.ref au), .val (.ref av), .val (.ref b6), .val (.ref b13), .val (.ref b20), .val (.ref b20), .val (.ref b20), .val (.ref rb)] [(.ref av), (.int (((16 : Int32) + (Int32.ofNat csu.length)) + (4 : Int32))), (.int (Int32.ofNat res.length))])) rfl rfl (hb hby at_99) _ ?_
    rw [len_of Vs Vm_]
    exact Steps.refl _
  have c37 : Steps p.tables e below S0 (T28.setTop (mkF m 108 #[.val (.int i0), .val (.int i1), .val (.int i2), .val (.int i3), .val (.ref au), .val (.ref av), .val (.ref b6), .val (.ref b13), .val (.ref b20), .val (.ref b20), .val (.ref b20), .val (.ref rb)] [])) := by
    refine c36.trans ?_
    show Steps p.tables e below (T28.setTop (mkF m 100 #[.val (.int i0), .val (.int i1), .val (.int i2), .val (.int i3), .val (.ref au), .val (.ref av), .val (.ref b6), .val (.ref b13), .val (.ref b20), .val (.ref b20), .val (.ref b20), .val (.ref rb)] [(.int (Int32.ofNat csv.length)), (.int (((16 : Int32) + (Int32.ofNat csu.length)) + (4 : Int32))), (.int (Int32.ofNat res.length))])) _
    refine XS.iadd X28.here hx rfl (hb hby at_100) rfl ?_
    show Steps p.tables e below (T28.setTop (mkF m 101 #[.val (.int i0), .val (.int i1), .val (.int i2), .val (.int i3), .val (.ref au), .val (.ref av), .val (.ref b6), .val (.ref b13), .val (.ref b20), .val (.ref b20), .val (.ref b20), .val (.ref rb)] [(.int ((((16 : Int32) + (Int32.ofNat csu.length)) + (4 : Int32)) + (Int32.ofNat csv.length))), (.int (Int32.ofNat res.length))])) _
    refine XS.iconst X28.here hx rfl (hb hby at_101) ?_
    show Steps p.tables e below (T28.setTop (mkF m 102 #[.val (.int i0), .val (.int i1), .val (.int i2), .val (.int i3), .val (.ref au), .val (.ref av), .val (.ref b6), .val (.ref b13), .val (.ref b20), .val (.ref b20), .val (.ref b20), .val (.ref rb)] [(.int (4 : Int32)), (.int ((((16 : Int32) + (Int32.ofNat csu.length)) + (4 : Int32)) + (Int32.ofNat csv.length))), (.int (Int32.ofNat res.length))])) _
    refine XS.iadd X28.here hx rfl (hb hby at_102) rfl ?_
    show Steps p.tables e below (T28.setTop (mkF m 103 #[.val (.int i0), .val (.int i1), .val (.int i2), .val (.int i3), .val (.ref au), .val (.ref av), .val (.ref b6), .val (.ref b13), .val (.ref b20), .val (.ref b20), .val (.ref b20), .val (.ref rb)] [(.int (((((16 : Int32) + (Int32.ofNat csu.length)) + (4 : Int32)) + (Int32.ofNat csv.length)) + (4 : Int32))), (.int (Int32.ofNat res.length))])) _
    refine XS.icmpYes X28.here hx rfl (pc0 := 103) (pc' := 108) rfl (hb hby at_103) rfl (teq (by rw [hlen]; exact own_sum csu.length csv.length llu llv)).1 (by decide) (by decide) ?_
    exact Steps.refl _
  have c38 : Steps p.tables e below S0 (T28.setTop (mkF m 111 #[.val (.int i0), .val (.int i1), .val (.int i2), .val (.int i3), .val (.ref au), .val (.ref av), .val (.ref b6), .val (.ref b13), .val (.ref b20), .val (.ref b20), .val (.ref b20), .val (.ref rb)] [(.int (0 : Int32)), (.ref rb)])) := by
    refine c37.trans ?_
    show Steps p.tables e below (T28.setTop (mkF m 108 #[.val (.int i0), .val (.int i1), .val (.int i2), .val (.int i3), .val (.ref au), .val (.ref av), .val (.ref b6), .val (.ref b13), .val (.ref b20), .val (.ref b20), .val (.ref b20), .val (.ref rb)] [])) _
    refine XS.aload X28.here hx rfl (hb hby at_108) rfl rfl ?_
    show Steps p.tables e below (T28.setTop (mkF m 110 #[.val (.int i0), .val (.int i1), .val (.int i2), .val (.int i3), .val (.ref au), .val (.ref av), .val (.ref b6), .val (.ref b13), .val (.ref b20), .val (.ref b20), .val (.ref b20), .val (.ref rb)] [(.ref rb)])) _
    refine XS.iconst X28.here hx rfl (hb hby at_110) ?_
    exact Steps.refl _
  obtain ⟨cl39, Ar39, in39, hv39⟩ := own_ld Vr (by omega) (i := 0) (by omega) (j := (0 : Int32)) rfl (v := (.int (res.getD 0 0))) (own_by7 hp7 _)
  have c39 : Steps p.tables e below S0 (T28.setTop (mkF m 112 #[.val (.int i0), .val (.int i1), .val (.int i2), .val (.int i3), .val (.ref au), .val (.ref av), .val (.ref b6), .val (.ref b13), .val (.ref b20), .val (.ref b20), .val (.ref b20), .val (.ref rb)] [(.int (res.getD 0 0))])) := by
    refine c38.trans ?_
    show Steps p.tables e below (T28.setTop (mkF m 111 #[.val (.int i0), .val (.int i1), .val (.int i2), .val (.int i3), .val (.ref au), .val (.ref av), .val (.ref b6), .val (.ref b13), .val (.ref b20), .val (.ref b20), .val (.ref b20), .val (.ref rb)] [(.int (0 : Int32)), (.ref rb)])) _
    refine X28.baloadBytes hx (j := (0 : Int32)) Ar39.1 (State.isArrayOf_alike hZ.alike Ar39.2.1) Ar39.2.2 in39 hv39 (g := (mkF m 111 #[.val (.int i0), .val (.int i1), .val (.int i2), .val (.int i3), .val (.ref au), .val (.ref av), .val (.ref b6), .val (.ref b13), .val (.ref b20), .val (.ref b20), .val (.ref b20), .val (.ref rb)] [(.int (0 : Int32)), (.ref rb)])) rfl rfl (hb hby at_111) _ ?_
    exact Steps.refl _
  have c40 : Steps p.tables e below S0 (T28.setTop (mkF m 117 #[.val (.int i0), .val (.int i1), .val (.int i2), .val (.int i3), .val (.ref au), .val (.ref av), .val (.ref b6), .val (.ref b13), .val (.ref b20), .val (.ref b20), .val (.ref b20), .val (.ref rb)] [])) := by
    refine c39.trans ?_
    show Steps p.tables e below (T28.setTop (mkF m 112 #[.val (.int i0), .val (.int i1), .val (.int i2), .val (.int i3), .val (.ref au), .val (.ref av), .val (.ref b6), .val (.ref b13), .val (.ref b20), .val (.ref b20), .val (.ref b20), .val (.ref rb)] [(.int (res.getD 0 0))])) _
    refine XS.bipush X28.here hx rfl (hb hby at_112) ?_
    show Steps p.tables e below (T28.setTop (mkF m 114 #[.val (.int i0), .val (.int i1), .val (.int i2), .val (.int i3), .val (.ref au), .val (.ref av), .val (.ref b6), .val (.ref b13), .val (.ref b20), .val (.ref b20), .val (.ref b20), .val (.ref rb)] [(.int (60 : Int32)), (.int (res.getD 0 0))])) _
    refine XS.icmpNo X28.here hx rfl (hb hby at_114) rfl (teq f0).2 ?_
    exact Steps.refl _
  have c41 : Steps p.tables e below S0 (T28.setTop (mkF m 121 #[.val (.int i0), .val (.int i1), .val (.int i2), .val (.int i3), .val (.ref au), .val (.ref av), .val (.ref b6), .val (.ref b13), .val (.ref b20), .val (.ref b20), .val (.ref b20), .val (.ref rb)] [(.int (15 : Int32)), (.ref rb)])) := by
    refine c40.trans ?_
    show Steps p.tables e below (T28.setTop (mkF m 117 #[.val (.int i0), .val (.int i1), .val (.int i2), .val (.int i3), .val (.ref au), .val (.ref av), .val (.ref b6), .val (.ref b13), .val (.ref b20), .val (.ref b20), .val (.ref b20), .val (.ref rb)] [])) _
    refine XS.aload X28.here hx rfl (hb hby at_117) rfl rfl ?_
    show Steps p.tables e below (T28.setTop (mkF m 119 #[.val (.int i0), .val (.int i1), .val (.int i2), .val (.int i3), .val (.ref au), .val (.ref av), .val (.ref b6), .val (.ref b13), .val (.ref b20), .val (.ref b20), .val (.ref b20), .val (.ref rb)] [(.ref rb)])) _
    refine XS.bipush X28.here hx rfl (hb hby at_119) ?_
    exact Steps.refl _
  obtain ⟨cl42, Ar42, in42, hv42⟩ := own_ld Vr (by omega) (i := 15) (by omega) (j := (15 : Int32)) rfl (v := (.int (res.getD 15 0))) (own_by7 hp7 _)
  have c42 : Steps p.tables e below S0 (T28.setTop (mkF m 122 #[.val (.int i0), .val (.int i1), .val (.int i2), .val (.int i3), .val (.ref au), .val (.ref av), .val (.ref b6), .val (.ref b13), .val (.ref b20), .val (.ref b20), .val (.ref b20), .val (.ref rb)] [(.int (res.getD 15 0))])) := by
    refine c41.trans ?_
    show Steps p.tables e below (T28.setTop (mkF m 121 #[.val (.int i0), .val (.int i1), .val (.int i2), .val (.int i3), .val (.ref au), .val (.ref av), .val (.ref b6), .val (.ref b13), .val (.ref b20), .val (.ref b20), .val (.ref b20), .val (.ref rb)] [(.int (15 : Int32)), (.ref rb)])) _
    refine X28.baloadBytes hx (j := (15 : Int32)) Ar42.1 (State.isArrayOf_alike hZ.alike Ar42.2.1) Ar42.2.2 in42 hv42 (g := (mkF m 121 #[.val (.int i0), .val (.int i1), .val (.int i2), .val (.int i3), .val (.ref au), .val (.ref av), .val (.ref b6), .val (.ref b13), .val (.ref b20), .val (.ref b20), .val (.ref b20), .val (.ref rb)] [(.int (15 : Int32)), (.ref rb)])) rfl rfl (hb hby at_121) _ ?_
    exact Steps.refl _
  have c43 : Steps p.tables e below S0 (T28.setTop (mkF m 129 #[.val (.int i0), .val (.int i1), .val (.int i2), .val (.int i3), .val (.ref au), .val (.ref av), .val (.ref b6), .val (.ref b13), .val (.ref b20), .val (.ref b20), .val (.ref b20), .val (.ref rb)] [])) := by
    refine c42.trans ?_
    show Steps p.tables e below (T28.setTop (mkF m 122 #[.val (.int i0), .val (.int i1), .val (.int i2), .val (.int i3), .val (.ref au), .val (.ref av), .val (.ref b6), .val (.ref b13), .val (.ref b20), .val (.ref b20), .val (.ref b20), .val (.ref rb)] [(.int (res.getD 15 0))])) _
    refine XS.bipush X28.here hx rfl (hb hby at_122) ?_
    show Steps p.tables e below (T28.setTop (mkF m 124 #[.val (.int i0), .val (.int i1), .val (.int i2), .val (.int i3), .val (.ref au), .val (.ref av), .val (.ref b6), .val (.ref b13), .val (.ref b20), .val (.ref b20), .val (.ref b20), .val (.ref rb)] [(.int (10 : Int32)), (.int (res.getD 15 0))])) _
    refine XS.icmpYes X28.here hx rfl (pc0 := 124) (pc' := 129) rfl (hb hby at_124) rfl (teq f15).1 (by decide) (by decide) ?_
    exact Steps.refl _
  have c44 : Steps p.tables e below S0 (T28.setTop (mkF m 135 #[.val (.int i0), .val (.int i1), .val (.int i2), .val (.int i3), .val (.ref au), .val (.ref av), .val (.ref b6), .val (.ref b13), .val (.ref b20), .val (.ref b20), .val (.ref b20), .val (.ref rb)] [(.ref au), (.int (16 : Int32)), (.ref rb)])) := by
    refine c43.trans ?_
    show Steps p.tables e below (T28.setTop (mkF m 129 #[.val (.int i0), .val (.int i1), .val (.int i2), .val (.int i3), .val (.ref au), .val (.ref av), .val (.ref b6), .val (.ref b13), .val (.ref b20), .val (.ref b20), .val (.ref b20), .val (.ref rb)] [])) _
    refine XS.aload X28.here hx rfl (hb hby at_129) rfl rfl ?_
    show Steps p.tables e below (T28.setTop (mkF m 131 #[.val (.int i0), .val (.int i1), .val (.int i2), .val (.int i3), .val (.ref au), .val (.ref av), .val (.ref b6), .val (.ref b13), .val (.ref b20), .val (.ref b20), .val (.ref b20), .val (.ref rb)] [(.ref rb)])) _
    refine XS.bipush X28.here hx rfl (hb hby at_131) ?_
    show Steps p.tables e below (T28.setTop (mkF m 133 #[.val (.int i0), .val (.int i1), .val (.int i2), .val (.int i3), .val (.ref au), .val (.ref av), .val (.ref b6), .val (.ref b13), .val (.ref b20), .val (.ref b20), .val (.ref b20), .val (.ref rb)] [(.int (16 : Int32)), (.ref rb)])) _
    refine XS.aload X28.here hx rfl (hb hby at_133) rfl rfl ?_
    exact Steps.refl _
  obtain ⟨_, _, ⟨T45, L45, k45, n45⟩, -, X45, ⟨Lc45, hQ45, l45, y45, z45⟩, st45⟩ := Jvm.LawKit.callS X28 hx (y := (⟨"com/example/waybill/waybill/board/HtmlClosePinLaw", "tail", "([BI[C)Z"⟩ : MethodName)) hown (mvT hZ (hw _ (List.mem_of_getElem? (i := 206) rfl))) (mvT hZ (hw _ (List.mem_of_getElem? (i := 207) rfl))) (mvT hZ (hw _ (List.mem_of_getElem? (i := 2) rfl))) (mvT hZ (hw _ (List.mem_of_getElem? (i := 208) rfl))) (by decide) (backOf (W := 0) (rmTl l Z a0 hw [] rb kr res 16 au ku csu T28.heap n0 Zh Vr hp7 (by omega) Vu llu (by omega) f16 f17 fs fe ff) hZ (hw _ (List.mem_of_getElem? (i := 208) rfl)) (hw _ (List.mem_of_getElem? (i := 2) rfl)) (by decide) (by decide)) (g := (mkF m 135 #[.val (.int i0), .val (.int i1), .val (.int i2), .val (.int i3), .val (.ref au), .val (.ref av), .val (.ref b6), .val (.ref b13), .val (.ref b20), .val (.ref b20), .val (.ref b20), .val (.ref rb)] [(.ref au), (.int (16 : Int32)), (.ref rb)])) rfl (by rw [hml]; rfl) (argsL := [(.ref rb), (.int (16 : Int32)), (.ref au)]) (rest := []) (lenOf pd26 rfl) rfl (by show 2 * 0 + _ ≤ _; exact Nat.le_of_eq rfl) (hb hby at_135) (fun _ _ => ⟨rfl, rfl, (by decide : 28 + 0 ≤ _), (by decide : 421 + 0 ≤ _)⟩)
  dsimp only [Pt.U, Pt.locs, Pt.cells, Pt.slots] at X45 l45 y45 z45 st45 hQ45
  subst l45 y45 z45
  obtain ⟨rfl, Nd, eA⟩ := hQ45
  have c45 : Steps p.tables e below S0 (T45.setTop (mkF m 138 #[.val (.int i0), .val (.int i1), .val (.int i2), .val (.int i3), .val (.ref au), .val (.ref av), .val (.ref b6), .val (.ref b13), .val (.ref b20), .val (.ref b20), .val (.ref b20), .val (.ref rb)] [(.int (1 : Int32))])) := by
    refine c44.trans ?_
    show Steps p.tables e below (T28.setTop (mkF m 135 #[.val (.int i0), .val (.int i1), .val (.int i2), .val (.int i3), .val (.ref au), .val (.ref av), .val (.ref b6), .val (.ref b13), .val (.ref b20), .val (.ref b20), .val (.ref b20), .val (.ref rb)] [(.ref au), (.int (16 : Int32)), (.ref rb)])) _
    refine st45 _ ?_
    exact Steps.refl _
  have Nf := Fr.app Nf Nd
  have c46 : Steps p.tables e below S0 (T45.setTop (mkF m 141 #[.val (.int i0), .val (.int i1), .val (.int i2), .val (.int i3), .val (.ref au), .val (.ref av), .val (.ref b6), .val (.ref b13), .val (.ref b20), .val (.ref b20), .val (.ref b20), .val (.ref rb)] [])) := by
    refine c45.trans ?_
    show Steps p.tables e below (T45.setTop (mkF m 138 #[.val (.int i0), .val (.int i1), .val (.int i2), .val (.int i3), .val (.ref au), .val (.ref av), .val (.ref b6), .val (.ref b13), .val (.ref b20), .val (.ref b20), .val (.ref b20), .val (.ref rb)] [(.int (1 : Int32))])) _
    refine XS.ifNo X45.here hx rfl (hb hby at_138) rfl ((if0 _ _).trans (feq (by decide)).1) ?_
    exact Steps.refl _
  have c47 : Steps p.tables e below S0 (T45.setTop (mkF m 147 #[.val (.int i0), .val (.int i1), .val (.int i2), .val (.int i3), .val (.ref au), .val (.ref av), .val (.ref b6), .val (.ref b13), .val (.ref b20), .val (.ref b20), .val (.ref b20), .val (.ref rb)] [(.ref au), (.int (20 : Int32)), (.ref rb)])) := by
    refine c46.trans ?_
    show Steps p.tables e below (T45.setTop (mkF m 141 #[.val (.int i0), .val (.int i1), .val (.int i2), .val (.int i3), .val (.ref au), .val (.ref av), .val (.ref b6), .val (.ref b13), .val (.ref b20), .val (.ref b20), .val (.ref b20), .val (.ref rb)] [])) _
    refine XS.aload X45.here hx rfl (hb hby at_141) rfl rfl ?_
    show Steps p.tables e below (T45.setTop (mkF m 143 #[.val (.int i0), .val (.int i1), .val (.int i2), .val (.int i3), .val (.ref au), .val (.ref av), .val (.ref b6), .val (.ref b13), .val (.ref b20), .val (.ref b20), .val (.ref b20), .val (.ref rb)] [(.ref rb)])) _
    refine XS.bipush X45.here hx rfl (hb hby at_143) ?_
    show Steps p.tables e below (T45.setTop (mkF m 145 #[.val (.int i0), .val (.int i1), .val (.int i2), .val (.int i3), .val (.ref au), .val (.ref av), .val (.ref b6), .val (.ref b13), .val (.ref b20), .val (.ref b20), .val (.ref b20), .val (.ref rb)] [(.int (20 : Int32)), (.ref rb)])) _
    refine XS.aload X45.here hx rfl (hb hby at_145) rfl rfl ?_
    exact Steps.refl _
  have c48 : Steps p.tables e below S0 (T45.setTop (mkF m 148 #[.val (.int i0), .val (.int i1), .val (.int i2), .val (.int i3), .val (.ref au), .val (.ref av), .val (.ref b6), .val (.ref b13), .val (.ref b20), .val (.ref b20), .val (.ref b20), .val (.ref rb)] [(.int (Int32.ofNat csu.length)), (.int (20 : Int32)), (.ref rb)])) := by
    refine c47.trans ?_
    show Steps p.tables e below (T45.setTop (mkF m 147 #[.val (.int i0), .val (.int i1), .val (.int i2), .val (.int i3), .val (.ref au), .val (.ref av), .val (.ref b6), .val (.ref b13), .val (.ref b20), .val (.ref b20), .val (.ref b20), .val (.ref rb)] [(.ref au), (.int (20 : Int32)), (.ref rb)])) _
    refine X45.arraylength hx (by rw [eA]; exact Ru.1) (State.isArrayOf_alike hZ.alike Ru.2.1) (g := (mkF m 147 #[.val (.int i0), .val (.int i1), .val (.int i2), .val (.int i3), .val (.ref au), .val (.ref av), .val (.ref b6), .val (.ref b13), .val (.ref b20), .val (.ref b20), .val (.ref b20), .val (.ref rb)] [(.ref au), (.int (20 : Int32)), (.ref rb)])) rfl rfl (hb hby at_147) _ ?_
    rw [len_of Us Um]
    exact Steps.refl _
  have c49 : Steps p.tables e below S0 (T45.setTop (mkF m 149 #[.val (.int i0), .val (.int i1), .val (.int i2), .val (.int i3), .val (.ref au), .val (.ref av), .val (.ref b6), .val (.ref b13), .val (.ref b20), .val (.ref b20), .val (.ref b20), .val (.ref rb)] [(.int ((20 : Int32) + (Int32.ofNat csu.length))), (.ref rb)])) := by
    refine c48.trans ?_
    show Steps p.tables e below (T45.setTop (mkF m 148 #[.val (.int i0), .val (.int i1), .val (.int i2), .val (.int i3), .val (.ref au), .val (.ref av), .val (.ref b6), .val (.ref b13), .val (.ref b20), .val (.ref b20), .val (.ref b20), .val (.ref rb)] [(.int (Int32.ofNat csu.length)), (.int (20 : Int32)), (.ref rb)])) _
    refine XS.iadd X45.here hx rfl (hb hby at_148) rfl ?_
    exact Steps.refl _
  rw [show (20 : Int32) + Int32.ofNat csu.length = Int32.ofNat (20 + csu.length) from own_addn (a := 20) (by omega)] at c49
  have c50 : Steps p.tables e below S0 (T45.setTop (mkF m 151 #[.val (.int i0), .val (.int i1), .val (.int i2), .val (.int i3), .val (.ref au), .val (.ref av), .val (.ref b6), .val (.ref b13), .val (.ref b20), .val (.ref b20), .val (.ref b20), .val (.ref rb)] [(.ref av), (.int (Int32.ofNat (20 + csu.length))), (.ref rb)])) := by
    refine c49.trans ?_
    show Steps p.tables e below (T45.setTop (mkF m 149 #[.val (.int i0), .val (.int i1), .val (.int i2), .val (.int i3), .val (.ref au), .val (.ref av), .val (.ref b6), .val (.ref b13), .val (.ref b20), .val (.ref b20), .val (.ref b20), .val (.ref rb)] [(.int (Int32.ofNat (20 + csu.length))), (.ref rb)])) _
    refine XS.aload X45.here hx rfl (hb hby at_149) rfl rfl ?_
    exact Steps.refl _
  obtain ⟨_, _, ⟨T51, L51, k51, n51⟩, -, X51, ⟨Lc51, hQ51, l51, y51, z51⟩, st51⟩ := Jvm.LawKit.callS X45 hx (y := (⟨"com/example/waybill/waybill/board/HtmlClosePinLaw", "tail", "([BI[C)Z"⟩ : MethodName)) hown (mvT hZ (hw _ (List.mem_of_getElem? (i := 206) rfl))) (mvT hZ (hw _ (List.mem_of_getElem? (i := 207) rfl))) (mvT hZ (hw _ (List.mem_of_getElem? (i := 2) rfl))) (mvT hZ (hw _ (List.mem_of_getElem? (i := 208) rfl))) (by decide) (backOf (W := 0) (rmTl l Z a0 hw [] rb kr res (20 + csu.length) av kv csv T28.heap n0 Zh Vr hp7 (by omega) Vv llv (by omega) g0_ g1_ gs_ ge_ gf_) hZ (hw _ (List.mem_of_getElem? (i := 208) rfl)) (hw _ (List.mem_of_getElem? (i := 2) rfl)) (by decide) (by decide)) (g := (mkF m 151 #[.val (.int i0), .val (.int i1), .val (.int i2), .val (.int i3), .val (.ref au), .val (.ref av), .val (.ref b6), .val (.ref b13), .val (.ref b20), .val (.ref b20), .val (.ref b20), .val (.ref rb)] [(.ref av), (.int (Int32.ofNat (20 + csu.length))), (.ref rb)])) rfl (by rw [hml]; rfl) (argsL := [(.ref rb), (.int (Int32.ofNat (20 + csu.length))), (.ref av)]) (rest := []) (lenOf pd26 rfl) rfl (by show 2 * 0 + _ ≤ _; exact Nat.le_of_eq rfl) (hb hby at_151) (fun _ _ => ⟨rfl, eA, (by decide : 28 + 0 ≤ _), (by decide : 421 + 0 ≤ _)⟩)
  dsimp only [Pt.U, Pt.locs, Pt.cells, Pt.slots] at X51 l51 y51 z51 st51 hQ51
  subst l51 y51 z51
  obtain ⟨rfl, Nd, eB⟩ := hQ51
  have c51 : Steps p.tables e below S0 (T51.setTop (mkF m 154 #[.val (.int i0), .val (.int i1), .val (.int i2), .val (.int i3), .val (.ref au), .val (.ref av), .val (.ref b6), .val (.ref b13), .val (.ref b20), .val (.ref b20), .val (.ref b20), .val (.ref rb)] [(.int (1 : Int32))])) := by
    refine c50.trans ?_
    show Steps p.tables e below (T45.setTop (mkF m 151 #[.val (.int i0), .val (.int i1), .val (.int i2), .val (.int i3), .val (.ref au), .val (.ref av), .val (.ref b6), .val (.ref b13), .val (.ref b20), .val (.ref b20), .val (.ref b20), .val (.ref rb)] [(.ref av), (.int (Int32.ofNat (20 + csu.length))), (.ref rb)])) _
    refine st51 _ ?_
    exact Steps.refl _
  have Nf := Fr.app Nf Nd
  have c52 : Steps p.tables e below S0 (T51.setTop (mkF m 162 #[.val (.int i0), .val (.int i1), .val (.int i2), .val (.int i3), .val (.ref au), .val (.ref av), .val (.ref b6), .val (.ref b13), .val (.ref b20), .val (.ref b20), .val (.ref b20), .val (.ref rb)] [(.int (1 : Int32))])) := by
    refine c51.trans ?_
    show Steps p.tables e below (T51.setTop (mkF m 154 #[.val (.int i0), .val (.int i1), .val (.int i2), .val (.int i3), .val (.ref au), .val (.ref av), .val (.ref b6), .val (.ref b13), .val (.ref b20), .val (.ref b20), .val (.ref b20), .val (.ref rb)] [(.int (1 : Int32))])) _
    refine XS.ifNo X51.here hx rfl (hb hby at_154) rfl ((if0 _ _).trans (feq (by decide)).1) ?_
    show Steps p.tables e below (T51.setTop (mkF m 157 #[.val (.int i0), .val (.int i1), .val (.int i2), .val (.int i3), .val (.ref au), .val (.ref av), .val (.ref b6), .val (.ref b13), .val (.ref b20), .val (.ref b20), .val (.ref b20), .val (.ref rb)] [])) _
    refine XS.iconst X51.here hx rfl (hb hby at_157) ?_
    show Steps p.tables e below (T51.setTop (mkF m 158 #[.val (.int i0), .val (.int i1), .val (.int i2), .val (.int i3), .val (.ref au), .val (.ref av), .val (.ref b6), .val (.ref b13), .val (.ref b20), .val (.ref b20), .val (.ref b20), .val (.ref rb)] [(.int (1 : Int32))])) _
    refine XS.goto X51.here hx rfl (pc0 := 158) (pc' := 162) rfl (hb hby at_158) (by decide) (by decide) ?_
    exact Steps.refl _
  obtain ⟨fs, hr, hrun, hended, hW⟩ := X51.leaveW hS (by rw [eB]; exact hk) (v := some (.int 1)) (fun h => by rw [Bd.returns] at h; cases h)
  refine ⟨_, _, c52.trans ?_, hrun, hended, _, _, rfl, ?_, ?_, hW.1, hW.2.1, hW.2.2.1, hW.2.2.2.mono (by decide) (by decide)⟩
  · show Steps p.tables e below (T51.setTop (mkF m 162 #[.val (.int i0), .val (.int i1), .val (.int i2), .val (.int i3), .val (.ref au), .val (.ref av), .val (.ref b6), .val (.ref b13), .val (.ref b20), .val (.ref b20), .val (.ref b20), .val (.ref rb)] [(.int (1 : Int32))])) _
    exact retN X51 hx (t := .boolean) Bd.returns (by simp) (hb hby at_162) hr
  · show Q0 Z i0 i1 i2 i3 G1 cu h0 n0 _ T51.heap _
    rw [eB]
    exact ⟨rfl, Nf⟩
  · show CHr Z consts_1 s.vm s.heap T51.vm T51.heap
    rw [hh, eB, ← hV0]
    exact hR.trans (CHv.at X51 hZ hEL hR.1)
set_option maxRecDepth 65536 in
set_option maxHeartbeats 40000000 in
theorem comes_1 {Post : Tables → Env → Array Value → State → Outcome → State → Prop} (hpost : ∀ tb e args s v u, (limb_1_1.after args s (.returned v) u = true ∧ limb_1_2.after args s (.returned v) u = true ∧ True) → ReturnedEndW s (.returned v) u (Jvm.fieldLocs frame_1_writes args s ++ Jvm.arrayLocs frame_1_arrays args s ++ Jvm.staticLocs frame_1_statics s) 40 4480 → Post tb e args s (.returned v) u) :
    ArmFor flags0 classFile x code maxLocals ret World_1 tables_1 room_1 Calls_1 rest_1 Pre_1 Post := by
  intro l hfl _ _ p e ha hc hk s m args below hf hA hF happ hP
  obtain ⟨hcalls, hrest, hpre⟩ := hP
  obtain ⟨-, -, -, hnamed, -, -, -, hat⟩ := (Spec.applies_iff hf).mp happ
  obtain ⟨hg, hn⟩ := and_e (Cond.before_iff.mp (show (Jvm.Cond.and given_1 narrow_1).before args s = true from hpre))
  obtain ⟨h1, g0⟩ := and_e hg
  obtain ⟨a0, g1⟩ := and_e g0
  obtain ⟨a1, g2⟩ := and_e g1
  obtain ⟨a2, g3⟩ := and_e g2
  have a3 := g3
  obtain ⟨w0, w1, w2, w3, rfl⟩ : ∃ w0 w1 w2 w3 : Value, args = #[w0, w1, w2, w3] := by
    have hs : args.size = 4 := by simpa [Cond.value, given_1] using h1
    obtain ⟨L⟩ := args
    match L, hs with
    | [w0, w1, w2, w3], _ => exact ⟨w0, w1, w2, w3, rfl⟩
  have hw := fun d (hd : d ∈ tables_1) => atoms_spec (ws := Jvm.Cond.code x code maxLocals ret :: tables_1) hat d (List.mem_cons_of_mem _ hd)
  obtain ⟨hsets, hown0⟩ := atoms_of _ (rest_1_c_eq ▸ (show rest_1_c.before _ s = true from hrest))
  have hr0 := Cond.before_iff.mp hown0
  have hfit : Fit s := fun {y c} hc i hi => by
    obtain ⟨ha, rfl⟩ := Array.getElem?_eq_some_iff.mp hc
    have q := List.all_eq_true.mp ((Array.all_eq_true_iff_forall_mem.mp hF) _ (Array.getElem_mem ha)) i (List.mem_range.mpr hi)
    simpa [Array.getElem?_eq_getElem hi] using q
  obtain ⟨i0, e0⟩ := is_v a0
  obtain rfl : w0 = (.int i0) := Option.some.inj e0
  obtain ⟨i1, e1⟩ := is_v a1
  obtain rfl : w1 = (.int i1) := Option.some.inj e1
  obtain ⟨i2, e2⟩ := is_v a2
  obtain rfl : w2 = (.int i2) := Option.some.inj e2
  obtain ⟨i3, e3⟩ := is_v a3
  obtain rfl : w3 = (.int i3) := Option.some.inj e3
  have n5 := not_v (Cond.before_iff.mp (hsets _ (List.mem_of_getElem? (i := 2) rfl)))
  obtain ⟨G1, eG⟩ := is_v (Cond.before_iff.mp (hsets _ (List.mem_of_getElem? (i := 1) rfl)))
  have O2 : Sta s s.heap "java/lang/String" "COMPACT_STRINGS" "Z" (.int G1) := Sta.start eG (Or.inl (hsets _ (List.mem_of_getElem? (i := 0) rfl)))
  have P5 : ¬ (G1 = (0 : Int32)) := gotF (Cond.eq_ints eG (Term.int_eval (0))) n5
  have hC0 : CHv s consts_1 s.vm s.heap := CHv.start (own_EW hw) hcalls.1 (hsets _ (List.mem_of_getElem? (i := 2) rfl)) (hw _ (List.mem_of_getElem? (i := 19) rfl)) (hw _ (List.mem_of_getElem? (i := 6) rfl))
  obtain ⟨cu, eI⟩ := exa_v (Cond.before_iff.mp (hsets _ (List.mem_of_getElem? (i := 17) rfl)))
  obtain ⟨cu2, eU⟩ := exa_v (Cond.before_iff.mp (hsets _ (List.mem_of_getElem? (i := 14) rfl)))
  have hEq := Cond.before_iff.mp (hsets _ (List.mem_of_getElem? (i := 13) rfl))
  rw [eq_R eU eI rfl rfl] at hEq
  obtain rfl : cu2 = cu := Value.ref.inj (of_decide_eq_true (Option.some.inj hEq))
  have Su : Sta s s.heap "sun/nio/cs/UTF_8" "INSTANCE" "Lsun/nio/cs/UTF_8;" (.ref cu2) := Sta.start eI (Or.inl (hsets _ (List.mem_of_getElem? (i := 12) rfl)))
  have Su2 : Sta s s.heap "java/nio/charset/StandardCharsets" "UTF_8" "Ljava/nio/charset/Charset;" (.ref cu2) := Sta.start eU (Or.inl (hsets _ (List.mem_of_getElem? (i := 10) rfl)))
  obtain ⟨n, o, h1, h2, h3, _, L, rfl, ⟨rfl, N⟩, -, hq⟩ := rm0 l s _ hw tables_1 i0 i1 i2 i3 G1 cu2 s.heap s.heap.size (Nat.le_refl _) O2 P5 (Old.start s) Su Su2 p e ha hc hk s m _ below hf ((Spec.applies_iff_loose hf).mp happ).1 ⟨rfl, State.Warmed39.refl s, rfl, hC0, fun x hx => by cases hx⟩ trivial
  refine ⟨n, _, h1, h2, h3, hpost _ _ _ _ _ _ ⟨Cond.after_iff.mpr rfl, Cond.after_iff.mpr (eq_i res_at (Term.int_eval (1)) rfl), trivial⟩ ⟨hq.1, hq.2.1, hq.2.2.1, (hq.2.2.2.sift fun y hy => Or.inr (N y hy)).mono (by decide) (by decide)⟩⟩
theorem main_1_1 : Claimed_1_1 := comes_1 fun _ _ _ _ _ _ h hF => ⟨h.1, hF⟩
theorem main_1_2 : Claimed_1_2 := comes_1 fun _ _ _ _ _ _ h hF => ⟨h.2.1, hF⟩
end Jvm.Pilot.@@N@@
namespace Jvm.Pilot.@@N@@
open Jvm Jvm.ClassFile Sem Op Lib Jvm.Free Jvm.Stand Jvm.Pilot.@@N@@.Jvm.D
/-! MADE BY PROGRAM (witnessworld.py) out of the Statement's table words and the real class files: 32 classes; the members and pool entries that the words name. The judged class is class 1, her method 1. -/
namespace start1
open Jvm.ClassFile
def u (s : String) : CpInfo := .utf8 (stringToUtf16 s)
/-- a pool by its gaps: so many unusable entries, then the entry; so many at the end -/
def gap : Nat → List CpInfo → List CpInfo
  | 0, r => r
  | n + 1, r => .unusable :: gap n r
def poolList (es : List (Nat × CpInfo)) (last : Nat) : List CpInfo := es.foldr (fun e r => gap e.1 (e.2 :: r)) (gap last [])
def pool (es : List (Nat × CpInfo)) (last : Nat) : Array CpInfo := ⟨poolList es last⟩
def fileOf (pool : Array CpInfo) (this : Nat) (attrs : Array Attribute := #[]) (ms : Array MethodInfo := #[]) (fl : Nat := 33) (sup : Nat := 0) (ifs : Array Nat := #[]) (fds : Array FieldInfo := #[]) : ClassFile where
  minorVersion := 0
  majorVersion := 65
  constantPool := pool
  accessFlags := fl
  thisClass := this
  superClass := sup
  interfaces := ifs
  fields := fds
  methods := ms
  attributes := attrs
def plain (name : String) (sup : Option ClassId) : Class where
  name := name
  kind := .ordinary
  loader := none
  accessFlags := 33
  super := sup
  interfaces := #[]
  cf := none
  fields := #[]
  methods := #[]
  instanceTypes := #[]
  staticTypes := #[]
  resolved := #[]
  callSites := []
  init := .initialized
  statics := none
  mirror := none

def pool0 : Array CpInfo := pool [(5, u "<init>"), (0, u "()V"), (1, .class_ 10), (1, u "java/lang/Object"), (85, u "clone"), (0, u "()Ljava/lang/Object;")] 26

def k0c0 : Code := { maxStack := 0, maxLocals := 1, code := object_method_1_code, exceptionTable := #[], attributes := #[] }
def k0m0 : Method := { name := "<init>", desc := "()V", sig := { parameters := [], returnType := none }, accessFlags := 1, code := some k0c0 }
def k0m1 : Method := { name := "clone", desc := "()Ljava/lang/Object;", sig := { parameters := [], returnType := some (.object "java/lang/Object") }, accessFlags := 260, code := none }
/-- java/lang/Object -/
def k0 : Class := { plain "java/lang/Object" none with
  accessFlags := 33
  interfaces := #[]
  cf := some (fileOf pool0 8 #[] #[{ accessFlags := 1, nameIndex := 5, descriptorIndex := 6, attributes := #[] }, { accessFlags := 260, nameIndex := 96, descriptorIndex := 97, attributes := #[] }] 33 0 #[] #[])
  fields := #[]
  methods := #[k0m0, k0m1]
  instanceTypes := #[]
  staticTypes := #[]
  resolved := Array.replicate 124 none
  statics := none }

def pool1 : Array CpInfo := pool [(2, .class_ 4), (0, .nameAndType 5 6), (0, u "java/lang/Object"), (0, u "<init>"), (0, u "()V"), (0, .methodref 8 9), (0, .class_ 10), (0, .nameAndType 11 12), (0, u "com/example/waybill/waybill/board/HtmlClosePinLaw"), (0, u "name"), (0, u "(II)[C"), (0, .class_ 14), (0, u "java/lang/String"), (0, .methodref 13 16), (0, .nameAndType 5 17), (0, u "([C)V"), (0, .class_ 19), (0, u "com/example/waybill/waybill/board/Html"), (0, .methodref 18 3), (0, .methodref 18 22), (0, .nameAndType 23 24), (0, u "close"), (0, u "(Ljava/lang/String;)Lcom/example/waybill/waybill/board/Html;"), (0, .methodref 18 26), (0, .nameAndType 27 28), (0, u "bytes"), (0, u "()[B"), (0, .methodref 8 30), (0, .nameAndType 31 32), (0, u "tail"), (0, u "([BI[C)Z"), (2, u "law"), (0, u "(IIII)Z")] 7

def k1m0 : Method := { name := "<init>", desc := "()V", sig := { parameters := [], returnType := none }, accessFlags := 1, code := none }
def k1c1 : Code := { maxStack := 3, maxLocals := 12, code := code, exceptionTable := #[], attributes := #[] }
def k1m1 : Method := { name := "law", desc := "(IIII)Z", sig := { parameters := [.int, .int, .int, .int], returnType := some .boolean }, accessFlags := 9, code := some k1c1 }
def k1c2 : Code := { maxStack := 4, maxLocals := 4, code := method_3_code, exceptionTable := #[], attributes := #[] }
def k1m2 : Method := { name := "name", desc := "(II)[C", sig := { parameters := [.int, .int], returnType := some (.array .char) }, accessFlags := 10, code := some k1c2 }
def k1c3 : Code := { maxStack := 3, maxLocals := 5, code := method_4_code, exceptionTable := #[], attributes := #[] }
def k1m3 : Method := { name := "tail", desc := "([BI[C)Z", sig := { parameters := [(.array .byte), .int, (.array .char)], returnType := some .boolean }, accessFlags := 10, code := some k1c3 }
/-- com/example/waybill/waybill/board/HtmlClosePinLaw -/
def k1 : Class := { plain "com/example/waybill/waybill/board/HtmlClosePinLaw" (some 0) with
  accessFlags := 49
  interfaces := #[]
  cf := some (fileOf pool1 8 #[] #[{ accessFlags := 1, nameIndex := 5, descriptorIndex := 6, attributes := #[] }, { accessFlags := 9, nameIndex := 35, descriptorIndex := 36, attributes := #[] }, { accessFlags := 10, nameIndex := 11, descriptorIndex := 12, attributes := #[] }, { accessFlags := 10, nameIndex := 31, descriptorIndex := 32, attributes := #[] }] 49 2 #[] #[])
  fields := #[]
  methods := #[k1m0, k1m1, k1m2, k1m3]
  instanceTypes := #[]
  staticTypes := #[]
  resolved := Array.replicate 44 none
  statics := none }

def pool2 : Array CpInfo := pool [(1, .class_ 2), (0, u "java/io/Serializable"), (0, .class_ 4), (0, u "java/lang/Object")] 2

/-- java/io/Serializable -/
def k2 : Class := { plain "java/io/Serializable" (some 0) with
  accessFlags := 1537
  interfaces := #[]
  cf := some (fileOf pool2 1 #[] #[] 1537 3 #[] #[])
  fields := #[]
  methods := #[]
  instanceTypes := #[]
  staticTypes := #[]
  resolved := Array.replicate 7 none
  statics := none }

def pool3 : Array CpInfo := pool [(1, .class_ 2), (0, u "java/lang/Comparable"), (0, .class_ 4), (0, u "java/lang/Object")] 7

/-- java/lang/Comparable -/
def k3 : Class := { plain "java/lang/Comparable" (some 0) with
  accessFlags := 1537
  interfaces := #[]
  cf := some (fileOf pool3 1 #[] #[] 1537 3 #[] #[])
  fields := #[]
  methods := #[]
  instanceTypes := #[]
  staticTypes := #[]
  resolved := Array.replicate 12 none
  statics := none }

def pool4 : Array CpInfo := pool [(2, .class_ 4), (1, u "java/lang/CharSequence"), (42, .class_ 48), (0, u "java/lang/CharSequence$1CodePointIterator"), (10, .class_ 60), (0, u "java/lang/CharSequence$1CharIterator"), (5, .class_ 67), (0, u "java/lang/Object")] 63

/-- java/lang/CharSequence -/
def k4 : Class := { plain "java/lang/CharSequence" (some 0) with
  accessFlags := 1537
  interfaces := #[]
  cf := some (fileOf pool4 2 #[.nestMembers #[47, 59]] #[] 1537 66 #[] #[])
  fields := #[]
  methods := #[]
  instanceTypes := #[]
  staticTypes := #[]
  resolved := Array.replicate 131 none
  statics := none }

def pool5 : Array CpInfo := pool [(1, .class_ 2), (0, u "java/lang/constant/Constable"), (0, .class_ 4), (0, u "java/lang/Object")] 6

/-- java/lang/constant/Constable -/
def k5 : Class := { plain "java/lang/constant/Constable" (some 0) with
  accessFlags := 1537
  interfaces := #[]
  cf := some (fileOf pool5 1 #[] #[] 1537 3 #[] #[])
  fields := #[]
  methods := #[]
  instanceTypes := #[]
  staticTypes := #[]
  resolved := Array.replicate 11 none
  statics := none }

def pool6 : Array CpInfo := pool [(1, .class_ 2), (0, u "java/lang/constant/ConstantDesc"), (0, .class_ 4), (0, u "java/lang/Object")] 32

/-- java/lang/constant/ConstantDesc -/
def k6 : Class := { plain "java/lang/constant/ConstantDesc" (some 0) with
  accessFlags := 1537
  interfaces := #[]
  cf := some (fileOf pool6 1 #[] #[] 1537 3 #[] #[])
  fields := #[]
  methods := #[]
  instanceTypes := #[]
  staticTypes := #[]
  resolved := Array.replicate 37 none
  statics := none }

def pool7 : Array CpInfo := pool [(1, .methodref 2 3), (0, .class_ 4), (0, .nameAndType 5 6), (0, u "java/lang/Object"), (0, u "<init>"), (0, u "()V"), (0, .string 8), (0, u ""), (0, .fieldref 10 11), (0, .class_ 12), (0, .nameAndType 13 14), (0, u "java/lang/String"), (0, u "value"), (0, u "[B"), (0, .fieldref 10 16), (0, .nameAndType 17 18), (0, u "coder"), (0, u "B"), (2, u "hash"), (0, u "I"), (2, u "hashIsZero"), (0, u "Z"), (0, .methodref 10 28), (0, .nameAndType 5 29), (0, u "([CIILjava/lang/Void;)V"), (8, .fieldref 10 39), (0, .nameAndType 40 26), (0, u "COMPACT_STRINGS"), (1, .class_ 44), (1, u "java/lang/StringUTF16"), (0, u "compress"), (1, .methodref 42 48), (0, .nameAndType 49 50), (0, u "coderFromArrayLen"), (0, u "([BI)B"), (3, .methodref 55 56), (0, .class_ 57), (0, .nameAndType 58 59), (0, u "java/util/Arrays"), (0, u "copyOfRange"), (0, u "([BII)[B"), (26, .fieldref 87 88), (0, .class_ 89), (0, .nameAndType 90 91), (0, u "sun/nio/cs/UTF_8"), (0, u "INSTANCE"), (0, u "Lsun/nio/cs/UTF_8;"), (1, .class_ 95), (1, u "java/lang/StringCoding"), (32, .methodref 93 129), (0, .nameAndType 130 131), (0, u "hasNegatives"), (0, u "([BII)Z"), (10, u "()Z"), (34, .methodref 42 178), (0, .nameAndType 45 179), (0, u "([CII)[B"), (13, .class_ 195), (1, u "java/lang/System"), (16, .methodref 193 213), (0, .nameAndType 214 215), (0, u "arraycopy"), (0, u "(Ljava/lang/Object;ILjava/lang/Object;II)V"), (36, .methodref 10 253), (0, .nameAndType 254 255), (0, u "encodeUTF8"), (0, u "(B[BZ)[B"), (23, .methodref 280 281), (0, .class_ 14), (0, .nameAndType 282 283), (0, u "clone"), (0, u "()Ljava/lang/Object;"), (33, u "encode"), (16, u "()I"), (0, .methodref 10 336), (0, .nameAndType 17 337), (0, u "()B"), (2, u "()[B"), (148, .methodref 10 490), (0, .nameAndType 5 491), (0, u "(Ljava/lang/AbstractStringBuilder;Ljava/lang/Void;)V"), (1, .nameAndType 494 142), (0, u "isLatin1"), (11, .nameAndType 507 334), (0, u "length"), (24, u "getBytes"), (2, .methodref 10 536), (0, .nameAndType 317 537), (0, u "(Ljava/nio/charset/Charset;B[B)[B"), (11, .methodref 550 506), (0, .class_ 551), (0, u "java/lang/AbstractStringBuilder"), (0, .methodref 550 553), (0, .nameAndType 554 340), (0, u "getValue"), (20, .class_ 576), (0, u "java/lang/CharSequence"), (22, u "CASE_INSENSITIVE_ORDER"), (0, u "Ljava/util/Comparator;"), (220, u "([BIB)V"), (188, u "([C)V"), (36, .methodref 550 493), (53, u "serialPersistentFields"), (0, u "[Ljava/io/ObjectStreamField;"), (0, .class_ 1104), (0, u "java/lang/String$CaseInsensitiveComparator"), (1, .class_ 1107), (0, u "java/io/Serializable"), (0, .class_ 1109), (0, u "java/lang/Comparable"), (0, .class_ 1111), (0, u "java/lang/constant/Constable"), (0, .class_ 1113), (0, u "java/lang/constant/ConstantDesc"), (2, u "serialVersionUID"), (0, u "J"), (3, u "REPL"), (0, u "C"), (2, u "LATIN1"), (1, u "UTF16"), (105, u "(Ljava/lang/StringBuilder;)V"), (11, u "(Ljava/nio/charset/Charset;)[B")] 205

def k7m0 : Method := { name := "<init>", desc := "()V", sig := { parameters := [], returnType := none }, accessFlags := 1, code := none }
def k7c1 : Code := { maxStack := 5, maxLocals := 2, code := jdk_42_method_3_code, exceptionTable := #[], attributes := #[] }
def k7m1 : Method := { name := "<init>", desc := "([C)V", sig := { parameters := [(.array .char)], returnType := none }, accessFlags := 1, code := some k7c1 }
def k7c2 : Code := { maxStack := 4, maxLocals := 3, code := jdk_42_method_18_code, exceptionTable := #[], attributes := #[] }
def k7m2 : Method := { name := "encode", desc := "(Ljava/nio/charset/Charset;B[B)[B", sig := { parameters := [(.object "java/nio/charset/Charset"), .byte, (.array .byte)], returnType := some (.array .byte) }, accessFlags := 10, code := some k7c2 }
def k7c3 : Code := { maxStack := 5, maxLocals := 9, code := jdk_42_method_46_code, exceptionTable := #[], attributes := #[] }
def k7m3 : Method := { name := "encodeUTF8", desc := "(B[BZ)[B", sig := { parameters := [.byte, (.array .byte), .boolean], returnType := some (.array .byte) }, accessFlags := 10, code := some k7c3 }
def k7c4 : Code := { maxStack := 3, maxLocals := 2, code := jdk_42_method_53_code, exceptionTable := #[], attributes := #[] }
def k7m4 : Method := { name := "<init>", desc := "(Ljava/lang/StringBuilder;)V", sig := { parameters := [(.object "java/lang/StringBuilder")], returnType := none }, accessFlags := 1, code := some k7c4 }
def k7c5 : Code := { maxStack := 2, maxLocals := 1, code := jdk_42_method_54_code, exceptionTable := #[], attributes := #[] }
def k7m5 : Method := { name := "length", desc := "()I", sig := { parameters := [], returnType := some .int }, accessFlags := 1, code := some k7c5 }
def k7c6 : Code := { maxStack := 3, maxLocals := 2, code := jdk_42_method_64_code, exceptionTable := #[], attributes := #[] }
def k7m6 : Method := { name := "getBytes", desc := "(Ljava/nio/charset/Charset;)[B", sig := { parameters := [(.object "java/nio/charset/Charset")], returnType := some (.array .byte) }, accessFlags := 1, code := some k7c6 }
def k7c7 : Code := { maxStack := 5, maxLocals := 4, code := jdk_42_method_147_code, exceptionTable := #[], attributes := #[] }
def k7m7 : Method := { name := "getBytes", desc := "([BIB)V", sig := { parameters := [(.array .byte), .int, .byte], returnType := none }, accessFlags := 0, code := some k7c7 }
def k7c8 : Code := { maxStack := 4, maxLocals := 6, code := jdk_42_method_149_code, exceptionTable := #[], attributes := #[] }
def k7m8 : Method := { name := "<init>", desc := "([CIILjava/lang/Void;)V", sig := { parameters := [(.array .char), .int, .int, (.object "java/lang/Void")], returnType := none }, accessFlags := 2, code := some k7c8 }
def k7c9 : Code := { maxStack := 5, maxLocals := 5, code := jdk_42_method_150_code, exceptionTable := #[], attributes := #[] }
def k7m9 : Method := { name := "<init>", desc := "(Ljava/lang/AbstractStringBuilder;Ljava/lang/Void;)V", sig := { parameters := [(.object "java/lang/AbstractStringBuilder"), (.object "java/lang/Void")], returnType := none }, accessFlags := 0, code := some k7c9 }
def k7c10 : Code := { maxStack := 1, maxLocals := 1, code := jdk_42_method_152_code, exceptionTable := #[], attributes := #[] }
def k7m10 : Method := { name := "coder", desc := "()B", sig := { parameters := [], returnType := some .byte }, accessFlags := 0, code := some k7c10 }
/-- java/lang/String -/
def k7 : Class := { plain "java/lang/String" (some 0) with
  accessFlags := 49
  interfaces := #[2, 3, 4, 5, 6]
  cf := some (fileOf pool7 10 #[.nestMembers #[1103]] #[{ accessFlags := 1, nameIndex := 5, descriptorIndex := 6, attributes := #[] }, { accessFlags := 1, nameIndex := 5, descriptorIndex := 1010, attributes := #[] }, { accessFlags := 10, nameIndex := 317, descriptorIndex := 537, attributes := #[] }, { accessFlags := 10, nameIndex := 254, descriptorIndex := 255, attributes := #[] }, { accessFlags := 1, nameIndex := 5, descriptorIndex := 1233, attributes := #[] }, { accessFlags := 1, nameIndex := 507, descriptorIndex := 334, attributes := #[] }, { accessFlags := 1, nameIndex := 532, descriptorIndex := 1245, attributes := #[] }, { accessFlags := 0, nameIndex := 532, descriptorIndex := 821, attributes := #[] }, { accessFlags := 2, nameIndex := 5, descriptorIndex := 29, attributes := #[] }, { accessFlags := 0, nameIndex := 5, descriptorIndex := 491, attributes := #[] }, { accessFlags := 0, nameIndex := 17, descriptorIndex := 337, attributes := #[] }] 49 2 #[1106, 1108, 575, 1110, 1112] #[{ accessFlags := 18, nameIndex := 13, descriptorIndex := 14, attributes := #[] }, { accessFlags := 18, nameIndex := 17, descriptorIndex := 18, attributes := #[] }, { accessFlags := 2, nameIndex := 21, descriptorIndex := 22, attributes := #[] }, { accessFlags := 2, nameIndex := 25, descriptorIndex := 26, attributes := #[] }, { accessFlags := 26, nameIndex := 1116, descriptorIndex := 1117, attributes := #[] }, { accessFlags := 24, nameIndex := 40, descriptorIndex := 26, attributes := #[] }, { accessFlags := 26, nameIndex := 1101, descriptorIndex := 1102, attributes := #[] }, { accessFlags := 26, nameIndex := 1121, descriptorIndex := 1122, attributes := #[] }, { accessFlags := 25, nameIndex := 599, descriptorIndex := 600, attributes := #[] }, { accessFlags := 24, nameIndex := 1125, descriptorIndex := 18, attributes := #[] }, { accessFlags := 24, nameIndex := 1127, descriptorIndex := 18, attributes := #[] }])
  fields := #[{ name := "value", type := (.array .byte), accessFlags := 18, slot := 0, constantValue := 0 }, { name := "coder", type := .byte, accessFlags := 18, slot := 1, constantValue := 0 }, { name := "hash", type := .int, accessFlags := 2, slot := 2, constantValue := 0 }, { name := "hashIsZero", type := .boolean, accessFlags := 2, slot := 3, constantValue := 0 }, { name := "serialVersionUID", type := .long, accessFlags := 26, slot := 0, constantValue := 0 }, { name := "COMPACT_STRINGS", type := .boolean, accessFlags := 24, slot := 1, constantValue := 0 }, { name := "serialPersistentFields", type := (.array (.object "java/io/ObjectStreamField")), accessFlags := 26, slot := 2, constantValue := 0 }, { name := "REPL", type := .char, accessFlags := 26, slot := 3, constantValue := 0 }, { name := "CASE_INSENSITIVE_ORDER", type := (.object "java/util/Comparator"), accessFlags := 25, slot := 4, constantValue := 0 }, { name := "LATIN1", type := .byte, accessFlags := 24, slot := 5, constantValue := 0 }, { name := "UTF16", type := .byte, accessFlags := 24, slot := 6, constantValue := 0 }]
  methods := #[k7m0, k7m1, k7m2, k7m3, k7m4, k7m5, k7m6, k7m7, k7m8, k7m9, k7m10]
  instanceTypes := #[(.array .byte), .byte, .int, .boolean]
  staticTypes := #[.long, .boolean, (.array (.object "java/io/ObjectStreamField")), .char, (.object "java/util/Comparator"), .byte, .byte]
  resolved := Array.replicate 1451 none
  statics := some 0 }

def pool8 : Array CpInfo := pool [(6, .class_ 8), (1, u "java/lang/Object"), (0, u "<init>"), (0, u "()V"), (1, .class_ 14), (1, u "java/lang/StringUTF16"), (31, u "$assertionsDisabled"), (0, u "Z"), (13, u "HI_BYTE_SHIFT"), (0, u "I"), (2, u "LO_BYTE_SHIFT"), (49, .methodref 12 116), (0, .nameAndType 117 118), (0, u "compress"), (0, u "([CI[BII)I"), (3, u "([CII)[B"), (138, u "coderFromArrayLen"), (0, u "([BI)B"), (106, .class_ 371), (1, u "java/lang/StringUTF16$LinesSpliterator"), (58, u "MAX_LENGTH"), (196, .class_ 628), (0, u "java/lang/StringUTF16$CodePointsSpliterator"), (0, .class_ 630), (0, u "java/lang/StringUTF16$CharsSpliterator")] 4

def k8m0 : Method := { name := "<init>", desc := "()V", sig := { parameters := [], returnType := none }, accessFlags := 0, code := none }
def k8c1 : Code := { maxStack := 2, maxLocals := 2, code := jdk_52_method_15_code, exceptionTable := #[], attributes := #[] }
def k8m1 : Method := { name := "coderFromArrayLen", desc := "([BI)B", sig := { parameters := [(.array .byte), .int], returnType := some .byte }, accessFlags := 8, code := some k8c1 }
def k8c2 : Code := { maxStack := 5, maxLocals := 6, code := jdk_52_method_16_code, exceptionTable := #[], attributes := #[] }
def k8m2 : Method := { name := "compress", desc := "([CII)[B", sig := { parameters := [(.array .char), .int, .int], returnType := some (.array .byte) }, accessFlags := 9, code := some k8c2 }
def k8c3 : Code := { maxStack := 3, maxLocals := 7, code := jdk_52_method_21_code, exceptionTable := #[], attributes := #[] }
def k8m3 : Method := { name := "compress", desc := "([CI[BII)I", sig := { parameters := [(.array .char), .int, (.array .byte), .int, .int], returnType := some .int }, accessFlags := 9, code := some k8c3 }
/-- java/lang/StringUTF16 -/
def k8 : Class := { plain "java/lang/StringUTF16" (some 0) with
  accessFlags := 48
  interfaces := #[]
  cf := some (fileOf pool8 12 #[.nestMembers #[627, 629, 369]] #[{ accessFlags := 0, nameIndex := 9, descriptorIndex := 10, attributes := #[] }, { accessFlags := 8, nameIndex := 261, descriptorIndex := 262, attributes := #[] }, { accessFlags := 9, nameIndex := 117, descriptorIndex := 122, attributes := #[] }, { accessFlags := 9, nameIndex := 117, descriptorIndex := 118, attributes := #[] }] 48 6 #[] #[{ accessFlags := 26, nameIndex := 61, descriptorIndex := 62, attributes := #[] }, { accessFlags := 26, nameIndex := 65, descriptorIndex := 62, attributes := #[] }, { accessFlags := 24, nameIndex := 430, descriptorIndex := 62, attributes := #[] }, { accessFlags := 4120, nameIndex := 46, descriptorIndex := 47, attributes := #[] }])
  fields := #[{ name := "HI_BYTE_SHIFT", type := .int, accessFlags := 26, slot := 0, constantValue := 0 }, { name := "LO_BYTE_SHIFT", type := .int, accessFlags := 26, slot := 1, constantValue := 0 }, { name := "MAX_LENGTH", type := .int, accessFlags := 24, slot := 2, constantValue := 0 }, { name := "$assertionsDisabled", type := .boolean, accessFlags := 4120, slot := 3, constantValue := 0 }]
  methods := #[k8m0, k8m1, k8m2, k8m3]
  instanceTypes := #[]
  staticTypes := #[.int, .int, .int, .boolean]
  resolved := Array.replicate 635 none
  statics := none }

def pool9 : Array CpInfo := pool [(1, .methodref 2 3), (0, .class_ 4), (0, .nameAndType 5 6), (0, u "java/lang/Object"), (0, u "<init>"), (0, u "()V"), (0, .class_ 8), (0, u "java/lang/StringBuilder"), (0, .string 10), (0, u "<!DOCTYPE html>\n"), (0, .methodref 7 12), (0, .nameAndType 5 13), (0, u "(Ljava/lang/String;)V"), (0, .fieldref 15 16), (0, .class_ 17), (0, .nameAndType 18 19), (0, u "com/example/waybill/waybill/board/Html"), (0, u "out"), (0, u "Ljava/lang/StringBuilder;"), (2, u "append"), (1, .methodref 7 25), (0, .nameAndType 22 26), (0, u "(Ljava/lang/String;)Ljava/lang/StringBuilder;"), (7, .string 35), (0, u "</"), (0, .string 37), (0, u ">\n"), (3, u "(Ljava/lang/String;)Lcom/example/waybill/waybill/board/Html;"), (5, u "close"), (0, .methodref 7 49), (0, .nameAndType 50 51), (0, u "toString"), (0, u "()Ljava/lang/String;"), (0, .fieldref 53 54), (0, .class_ 55), (0, .nameAndType 56 57), (0, u "java/nio/charset/StandardCharsets"), (0, u "UTF_8"), (0, u "Ljava/nio/charset/Charset;"), (0, .methodref 59 60), (0, .class_ 61), (0, .nameAndType 62 63), (0, u "java/lang/String"), (0, u "getBytes"), (0, u "(Ljava/nio/charset/Charset;)[B"), (20, u "bytes"), (0, u "()[B")] 3

def k9c0 : Code := { maxStack := 4, maxLocals := 1, code := prog_22_method_1_code, exceptionTable := #[], attributes := #[] }
def k9m0 : Method := { name := "<init>", desc := "()V", sig := { parameters := [], returnType := none }, accessFlags := 0, code := some k9c0 }
def k9c1 : Code := { maxStack := 2, maxLocals := 2, code := prog_22_method_4_code, exceptionTable := #[], attributes := #[] }
def k9m1 : Method := { name := "close", desc := "(Ljava/lang/String;)Lcom/example/waybill/waybill/board/Html;", sig := { parameters := [(.object "java/lang/String")], returnType := some (.object "com/example/waybill/waybill/board/Html") }, accessFlags := 0, code := some k9c1 }
def k9c2 : Code := { maxStack := 2, maxLocals := 1, code := prog_22_method_8_code, exceptionTable := #[], attributes := #[] }
def k9m2 : Method := { name := "bytes", desc := "()[B", sig := { parameters := [], returnType := some (.array .byte) }, accessFlags := 0, code := some k9c2 }
/-- com/example/waybill/waybill/board/Html -/
def k9 : Class := { plain "com/example/waybill/waybill/board/Html" (some 0) with
  accessFlags := 48
  interfaces := #[]
  cf := some (fileOf pool9 15 #[] #[{ accessFlags := 0, nameIndex := 5, descriptorIndex := 6, attributes := #[] }, { accessFlags := 0, nameIndex := 47, descriptorIndex := 41, attributes := #[] }, { accessFlags := 0, nameIndex := 84, descriptorIndex := 85, attributes := #[] }] 48 2 #[] #[{ accessFlags := 18, nameIndex := 18, descriptorIndex := 19, attributes := #[] }])
  fields := #[{ name := "out", type := (.object "java/lang/StringBuilder"), accessFlags := 18, slot := 0, constantValue := 0 }]
  methods := #[k9m0, k9m1, k9m2]
  instanceTypes := #[(.object "java/lang/StringBuilder")]
  staticTypes := #[]
  resolved := Array.replicate 89 none
  statics := none }

def pool10 : Array CpInfo := pool [(1, .class_ 2), (0, u "java/lang/Appendable"), (0, .class_ 4), (0, u "java/lang/Object")] 9

/-- java/lang/Appendable -/
def k10 : Class := { plain "java/lang/Appendable" (some 0) with
  accessFlags := 1537
  interfaces := #[]
  cf := some (fileOf pool10 1 #[] #[] 1537 3 #[] #[])
  fields := #[]
  methods := #[]
  instanceTypes := #[]
  staticTypes := #[]
  resolved := Array.replicate 14 none
  statics := none }

def pool11 : Array CpInfo := pool [(1, .class_ 2), (0, u "java/lang/String"), (0, .methodref 4 5), (0, .class_ 6), (0, .nameAndType 7 8), (0, u "java/lang/Object"), (0, u "<init>"), (0, u "()V"), (1, .class_ 12), (1, u "java/lang/AbstractStringBuilder"), (0, u "EMPTYVALUE"), (0, u "[B"), (0, .fieldref 10 16), (0, .nameAndType 17 14), (0, u "value"), (0, .fieldref 1 19), (0, .nameAndType 20 21), (0, u "COMPACT_STRINGS"), (0, u "Z"), (0, .fieldref 10 23), (0, .nameAndType 24 25), (0, u "coder"), (0, u "B"), (6, .methodref 1 33), (0, .nameAndType 34 35), (0, u "length"), (0, u "()I"), (2, .integer 2147483631), (1, .methodref 1 41), (0, .nameAndType 24 42), (0, u "()B"), (0, .methodref 10 44), (0, .nameAndType 45 46), (0, u "append"), (0, u "(Ljava/lang/String;)Ljava/lang/AbstractStringBuilder;"), (1, .class_ 49), (0, u "java/lang/CharSequence"), (19, u "(Ljava/lang/String;)V"), (5, u "maybeLatin1"), (3, .fieldref 10 80), (0, .nameAndType 81 82), (0, u "count"), (0, u "I"), (2, u "isLatin1"), (0, u "()Z"), (13, .methodref 10 101), (0, .nameAndType 102 103), (0, u "ensureCapacityInternal"), (0, u "(I)V"), (104, .methodref 10 209), (0, .nameAndType 210 211), (0, u "putStringAt"), (0, u "(ILjava/lang/String;)V"), (5, u "inflateIfNeededFor"), (2, .nameAndType 221 222), (0, u "getBytes"), (0, u "([BIB)V"), (174, .methodref 10 398), (0, .nameAndType 217 69), (0, .methodref 1 220), (3, u "()[B"), (40, .class_ 445), (0, u "java/lang/Appendable"), (106, u "getValue")] 56

def k11m0 : Method := { name := "<init>", desc := "()V", sig := { parameters := [], returnType := none }, accessFlags := 0, code := none }
def k11c1 : Code := { maxStack := 2, maxLocals := 5, code := jdk_68_method_3_code, exceptionTable := #[], attributes := #[] }
def k11m1 : Method := { name := "<init>", desc := "(Ljava/lang/String;)V", sig := { parameters := [(.object "java/lang/String")], returnType := none }, accessFlags := 0, code := some k11c1 }
def k11c2 : Code := { maxStack := 1, maxLocals := 1, code := jdk_68_method_6_code, exceptionTable := #[], attributes := #[] }
def k11m2 : Method := { name := "length", desc := "()I", sig := { parameters := [], returnType := some .int }, accessFlags := 1, code := some k11c2 }
def k11c3 : Code := { maxStack := 4, maxLocals := 3, code := jdk_68_method_9_code, exceptionTable := #[], attributes := #[] }
def k11m3 : Method := { name := "ensureCapacityInternal", desc := "(I)V", sig := { parameters := [.int], returnType := none }, accessFlags := 2, code := some k11c3 }
def k11c4 : Code := { maxStack := 3, maxLocals := 3, code := jdk_68_method_22_code, exceptionTable := #[], attributes := #[] }
def k11m4 : Method := { name := "append", desc := "(Ljava/lang/String;)Ljava/lang/AbstractStringBuilder;", sig := { parameters := [(.object "java/lang/String")], returnType := some (.object "java/lang/AbstractStringBuilder") }, accessFlags := 1, code := some k11c4 }
def k11c5 : Code := { maxStack := 1, maxLocals := 1, code := jdk_68_method_64_code, exceptionTable := #[], attributes := #[] }
def k11m5 : Method := { name := "getValue", desc := "()[B", sig := { parameters := [], returnType := some (.array .byte) }, accessFlags := 16, code := some k11c5 }
def k11c6 : Code := { maxStack := 1, maxLocals := 1, code := jdk_68_method_68_code, exceptionTable := #[], attributes := #[] }
def k11m6 : Method := { name := "isLatin1", desc := "()Z", sig := { parameters := [], returnType := some .boolean }, accessFlags := 16, code := some k11c6 }
def k11c7 : Code := { maxStack := 2, maxLocals := 2, code := jdk_68_method_71_code, exceptionTable := #[], attributes := #[] }
def k11m7 : Method := { name := "inflateIfNeededFor", desc := "(Ljava/lang/String;)V", sig := { parameters := [(.object "java/lang/String")], returnType := none }, accessFlags := 2, code := some k11c7 }
def k11c8 : Code := { maxStack := 4, maxLocals := 3, code := jdk_68_method_73_code, exceptionTable := #[], attributes := #[] }
def k11m8 : Method := { name := "putStringAt", desc := "(ILjava/lang/String;)V", sig := { parameters := [.int, (.object "java/lang/String")], returnType := none }, accessFlags := 2, code := some k11c8 }
/-- java/lang/AbstractStringBuilder -/
def k11 : Class := { plain "java/lang/AbstractStringBuilder" (some 0) with
  accessFlags := 1056
  interfaces := #[10, 4]
  cf := some (fileOf pool11 10 #[] #[{ accessFlags := 0, nameIndex := 7, descriptorIndex := 8, attributes := #[] }, { accessFlags := 0, nameIndex := 7, descriptorIndex := 69, attributes := #[] }, { accessFlags := 1, nameIndex := 34, descriptorIndex := 35, attributes := #[] }, { accessFlags := 2, nameIndex := 102, descriptorIndex := 103, attributes := #[] }, { accessFlags := 1, nameIndex := 45, descriptorIndex := 46, attributes := #[] }, { accessFlags := 16, nameIndex := 552, descriptorIndex := 403, attributes := #[] }, { accessFlags := 16, nameIndex := 85, descriptorIndex := 86, attributes := #[] }, { accessFlags := 2, nameIndex := 217, descriptorIndex := 69, attributes := #[] }, { accessFlags := 2, nameIndex := 210, descriptorIndex := 211, attributes := #[] }] 1056 4 #[444, 48] #[{ accessFlags := 0, nameIndex := 17, descriptorIndex := 14, attributes := #[] }, { accessFlags := 0, nameIndex := 24, descriptorIndex := 25, attributes := #[] }, { accessFlags := 0, nameIndex := 75, descriptorIndex := 21, attributes := #[] }, { accessFlags := 0, nameIndex := 81, descriptorIndex := 82, attributes := #[] }, { accessFlags := 26, nameIndex := 13, descriptorIndex := 14, attributes := #[] }])
  fields := #[{ name := "value", type := (.array .byte), accessFlags := 0, slot := 0, constantValue := 0 }, { name := "coder", type := .byte, accessFlags := 0, slot := 1, constantValue := 0 }, { name := "maybeLatin1", type := .boolean, accessFlags := 0, slot := 2, constantValue := 0 }, { name := "count", type := .int, accessFlags := 0, slot := 3, constantValue := 0 }, { name := "EMPTYVALUE", type := (.array .byte), accessFlags := 26, slot := 0, constantValue := 0 }]
  methods := #[k11m0, k11m1, k11m2, k11m3, k11m4, k11m5, k11m6, k11m7, k11m8]
  instanceTypes := #[(.array .byte), .byte, .boolean, .int]
  staticTypes := #[(.array .byte)]
  resolved := Array.replicate 609 none
  statics := none }

def pool12 : Array CpInfo := pool [(2, .class_ 4), (1, u "java/lang/AbstractStringBuilder"), (0, u "<init>"), (1, .methodref 2 8), (0, .nameAndType 5 9), (0, u "(Ljava/lang/String;)V"), (8, .class_ 20), (1, u "java/lang/String"), (2, .methodref 24 25), (0, .class_ 26), (0, .nameAndType 27 28), (0, u "java/lang/StringBuilder"), (0, u "append"), (0, u "(Ljava/lang/String;)Ljava/lang/StringBuilder;"), (0, .methodref 2 30), (0, .nameAndType 27 31), (0, u "(Ljava/lang/String;)Ljava/lang/AbstractStringBuilder;"), (105, .methodref 18 138), (0, .nameAndType 5 139), (0, u "(Ljava/lang/StringBuilder;)V"), (5, u "()V"), (10, u "()I"), (186, .methodref 2 344), (0, .nameAndType 345 156), (0, u "length"), (3, .class_ 350), (0, u "java/lang/Appendable"), (0, .class_ 352), (0, u "java/io/Serializable"), (0, .class_ 354), (0, u "java/lang/Comparable"), (0, .class_ 356), (0, u "java/lang/CharSequence"), (0, u "serialVersionUID"), (0, u "J"), (40, u "toString"), (0, u "()Ljava/lang/String;")] 21

def k12m0 : Method := { name := "<init>", desc := "()V", sig := { parameters := [], returnType := none }, accessFlags := 1, code := none }
def k12c1 : Code := { maxStack := 2, maxLocals := 2, code := jdk_67_method_3_code, exceptionTable := #[], attributes := #[] }
def k12m1 : Method := { name := "<init>", desc := "(Ljava/lang/String;)V", sig := { parameters := [(.object "java/lang/String")], returnType := none }, accessFlags := 1, code := some k12c1 }
def k12c2 : Code := { maxStack := 2, maxLocals := 2, code := jdk_67_method_7_code, exceptionTable := #[], attributes := #[] }
def k12m2 : Method := { name := "append", desc := "(Ljava/lang/String;)Ljava/lang/StringBuilder;", sig := { parameters := [(.object "java/lang/String")], returnType := some (.object "java/lang/StringBuilder") }, accessFlags := 1, code := some k12c2 }
def k12c3 : Code := { maxStack := 3, maxLocals := 1, code := jdk_67_method_42_code, exceptionTable := #[], attributes := #[] }
def k12m3 : Method := { name := "toString", desc := "()Ljava/lang/String;", sig := { parameters := [], returnType := some (.object "java/lang/String") }, accessFlags := 1, code := some k12c3 }
def k12c4 : Code := { maxStack := 2, maxLocals := 2, code := jdk_67_method_80_code, exceptionTable := #[], attributes := #[] }
def k12m4 : Method := { name := "append", desc := "(Ljava/lang/String;)Ljava/lang/AbstractStringBuilder;", sig := { parameters := [(.object "java/lang/String")], returnType := some (.object "java/lang/AbstractStringBuilder") }, accessFlags := 4161, code := some k12c4 }
def k12c5 : Code := { maxStack := 1, maxLocals := 1, code := jdk_67_method_93_code, exceptionTable := #[], attributes := #[] }
def k12m5 : Method := { name := "length", desc := "()I", sig := { parameters := [], returnType := some .int }, accessFlags := 4161, code := some k12c5 }
/-- java/lang/StringBuilder -/
def k12 : Class := { plain "java/lang/StringBuilder" (some 11) with
  accessFlags := 49
  interfaces := #[10, 2, 3, 4]
  cf := some (fileOf pool12 24 #[] #[{ accessFlags := 1, nameIndex := 5, descriptorIndex := 145, attributes := #[] }, { accessFlags := 1, nameIndex := 5, descriptorIndex := 9, attributes := #[] }, { accessFlags := 1, nameIndex := 27, descriptorIndex := 28, attributes := #[] }, { accessFlags := 1, nameIndex := 399, descriptorIndex := 400, attributes := #[] }, { accessFlags := 4161, nameIndex := 27, descriptorIndex := 31, attributes := #[] }, { accessFlags := 4161, nameIndex := 345, descriptorIndex := 156, attributes := #[] }] 49 2 #[349, 351, 353, 355] #[{ accessFlags := 24, nameIndex := 357, descriptorIndex := 358, attributes := #[] }])
  fields := #[{ name := "serialVersionUID", type := .long, accessFlags := 24, slot := 0, constantValue := 0 }]
  methods := #[k12m0, k12m1, k12m2, k12m3, k12m4, k12m5]
  instanceTypes := #[(.array .byte), .byte, .boolean, .int]
  staticTypes := #[.long]
  resolved := Array.replicate 422 none
  statics := none }

def pool13 : Array CpInfo := pool [(2, .class_ 4), (1, u "java/lang/Object"), (0, u "<init>"), (0, u "()V"), (1, .class_ 10), (1, u "java/lang/System"), (0, u "allowSecurityManager"), (0, u "I"), (16, u "cons"), (0, u "Ljava/io/Console;"), (77, .class_ 110), (1, u "java/lang/System$CallersHolder"), (43, u "initialErrStream"), (0, u "Ljava/io/PrintStream;"), (19, u "security"), (0, u "Ljava/lang/SecurityManager;"), (31, .class_ 209), (0, u "java/lang/System$1"), (7, u "props"), (0, u "Ljava/util/Properties;"), (2, u "lineSeparator"), (0, u "Ljava/lang/String;"), (96, .class_ 321), (1, u "java/lang/System$LoggerFinder"), (5, .class_ 328), (0, u "java/lang/System$Logger"), (67, u "err"), (2, u "out"), (91, u "notSupportedJnuEncoding"), (15, u "in"), (17, u "initialIn"), (0, u "Ljava/io/InputStream;"), (35, u "bootLayer"), (0, u "Ljava/lang/ModuleLayer;"), (99, .class_ 664), (0, u "java/lang/System$2"), (9, u "NEVER"), (2, u "MAYBE"), (49, u "arraycopy"), (0, u "(Ljava/lang/Object;ILjava/lang/Object;II)V"), (72, .class_ 802), (0, u "java/lang/System$Logger$Level")] 31

def k13m0 : Method := { name := "<init>", desc := "()V", sig := { parameters := [], returnType := none }, accessFlags := 2, code := none }
def k13m1 : Method := { name := "arraycopy", desc := "(Ljava/lang/Object;ILjava/lang/Object;II)V", sig := { parameters := [(.object "java/lang/Object"), .int, (.object "java/lang/Object"), .int, .int], returnType := none }, accessFlags := 265, code := none }
/-- java/lang/System -/
def k13 : Class := { plain "java/lang/System" (some 0) with
  accessFlags := 49
  interfaces := #[]
  cf := some (fileOf pool13 8 #[.nestMembers #[319, 327, 801, 108, 663, 208]] #[{ accessFlags := 2, nameIndex := 5, descriptorIndex := 6, attributes := #[] }, { accessFlags := 265, nameIndex := 727, descriptorIndex := 728, attributes := #[] }] 49 2 #[] #[{ accessFlags := 25, nameIndex := 507, descriptorIndex := 526, attributes := #[] }, { accessFlags := 25, nameIndex := 399, descriptorIndex := 155, attributes := #[] }, { accessFlags := 25, nameIndex := 396, descriptorIndex := 155, attributes := #[] }, { accessFlags := 10, nameIndex := 525, descriptorIndex := 526, attributes := #[] }, { accessFlags := 26, nameIndex := 674, descriptorIndex := 12, attributes := #[] }, { accessFlags := 26, nameIndex := 677, descriptorIndex := 12, attributes := #[] }, { accessFlags := 10, nameIndex := 11, descriptorIndex := 12, attributes := #[] }, { accessFlags := 74, nameIndex := 175, descriptorIndex := 176, attributes := #[] }, { accessFlags := 10, nameIndex := 491, descriptorIndex := 222, attributes := #[] }, { accessFlags := 74, nameIndex := 29, descriptorIndex := 30, attributes := #[] }, { accessFlags := 74, nameIndex := 154, descriptorIndex := 155, attributes := #[] }, { accessFlags := 10, nameIndex := 217, descriptorIndex := 218, attributes := #[] }, { accessFlags := 10, nameIndex := 221, descriptorIndex := 222, attributes := #[] }, { accessFlags := 8, nameIndex := 562, descriptorIndex := 563, attributes := #[] }])
  fields := #[{ name := "in", type := (.object "java/io/InputStream"), accessFlags := 25, slot := 0, constantValue := 0 }, { name := "out", type := (.object "java/io/PrintStream"), accessFlags := 25, slot := 1, constantValue := 0 }, { name := "err", type := (.object "java/io/PrintStream"), accessFlags := 25, slot := 2, constantValue := 0 }, { name := "initialIn", type := (.object "java/io/InputStream"), accessFlags := 10, slot := 3, constantValue := 0 }, { name := "NEVER", type := .int, accessFlags := 26, slot := 4, constantValue := 0 }, { name := "MAYBE", type := .int, accessFlags := 26, slot := 5, constantValue := 0 }, { name := "allowSecurityManager", type := .int, accessFlags := 10, slot := 6, constantValue := 0 }, { name := "security", type := (.object "java/lang/SecurityManager"), accessFlags := 74, slot := 7, constantValue := 0 }, { name := "notSupportedJnuEncoding", type := (.object "java/lang/String"), accessFlags := 10, slot := 8, constantValue := 0 }, { name := "cons", type := (.object "java/io/Console"), accessFlags := 74, slot := 9, constantValue := 0 }, { name := "initialErrStream", type := (.object "java/io/PrintStream"), accessFlags := 74, slot := 10, constantValue := 0 }, { name := "props", type := (.object "java/util/Properties"), accessFlags := 10, slot := 11, constantValue := 0 }, { name := "lineSeparator", type := (.object "java/lang/String"), accessFlags := 10, slot := 12, constantValue := 0 }, { name := "bootLayer", type := (.object "java/lang/ModuleLayer"), accessFlags := 8, slot := 13, constantValue := 0 }]
  methods := #[k13m0, k13m1]
  instanceTypes := #[]
  staticTypes := #[(.object "java/io/InputStream"), (.object "java/io/PrintStream"), (.object "java/io/PrintStream"), (.object "java/io/InputStream"), .int, .int, .int, (.object "java/lang/SecurityManager"), (.object "java/lang/String"), (.object "java/io/Console"), (.object "java/io/PrintStream"), (.object "java/util/Properties"), (.object "java/lang/String"), (.object "java/lang/ModuleLayer")]
  resolved := Array.replicate 834 none
  statics := none }

def pool14 : Array CpInfo := pool [(2, .class_ 4), (1, u "java/lang/Object"), (0, u "<init>"), (0, u "()V"), (7, .class_ 16), (1, u "java/util/Arrays"), (57, .class_ 76), (1, u "java/util/Arrays$NaturalOrder"), (36, .class_ 115), (1, u "java/util/Arrays$LegacyMergeSort"), (1, u "Z"), (21, u "copyOfRange"), (10, .methodref 151 152), (0, .class_ 153), (0, .nameAndType 154 155), (0, u "java/lang/System"), (0, u "arraycopy"), (0, u "(Ljava/lang/Object;ILjava/lang/Object;II)V"), (148, .methodref 305 306), (0, .class_ 307), (0, .nameAndType 308 309), (0, u "java/lang/Math"), (0, u "min"), (0, u "(II)I"), (29, .methodref 14 340), (0, .nameAndType 341 342), (0, u "copyOfRangeByte"), (0, u "([BII)[B"), (0, .methodref 14 344), (0, .nameAndType 345 346), (0, u "checkLength"), (0, u "(II)V"), (28, .class_ 376), (0, u "java/util/Arrays$ArrayList"), (68, u "$assertionsDisabled"), (269, u "MIN_ARRAY_SORT_GRAN"), (0, u "I"), (2, u "INSERTIONSORT_THRESHOLD"), (255, .class_ 976), (0, u "java/util/Arrays$ArrayItr")] 52

def k14m0 : Method := { name := "<init>", desc := "()V", sig := { parameters := [], returnType := none }, accessFlags := 2, code := none }
def k14c1 : Code := { maxStack := 4, maxLocals := 2, code := jdk_65_method_131_code, exceptionTable := #[], attributes := #[] }
def k14m1 : Method := { name := "checkLength", desc := "(II)V", sig := { parameters := [.int, .int], returnType := none }, accessFlags := 10, code := some k14c1 }
def k14c2 : Code := { maxStack := 3, maxLocals := 3, code := jdk_65_method_132_code, exceptionTable := #[], attributes := #[] }
def k14m2 : Method := { name := "copyOfRange", desc := "([BII)[B", sig := { parameters := [(.array .byte), .int, .int], returnType := some (.array .byte) }, accessFlags := 9, code := some k14c2 }
def k14c3 : Code := { maxStack := 6, maxLocals := 5, code := jdk_65_method_133_code, exceptionTable := #[], attributes := #[] }
def k14m3 : Method := { name := "copyOfRangeByte", desc := "([BII)[B", sig := { parameters := [(.array .byte), .int, .int], returnType := some (.array .byte) }, accessFlags := 10, code := some k14c3 }
/-- java/util/Arrays -/
def k14 : Class := { plain "java/util/Arrays" (some 0) with
  accessFlags := 49
  interfaces := #[]
  cf := some (fileOf pool14 14 #[.nestMembers #[975, 375, 113, 74]] #[{ accessFlags := 2, nameIndex := 5, descriptorIndex := 6, attributes := #[] }, { accessFlags := 10, nameIndex := 345, descriptorIndex := 346, attributes := #[] }, { accessFlags := 9, nameIndex := 139, descriptorIndex := 342, attributes := #[] }, { accessFlags := 10, nameIndex := 341, descriptorIndex := 342, attributes := #[] }] 49 2 #[] #[{ accessFlags := 26, nameIndex := 715, descriptorIndex := 716, attributes := #[] }, { accessFlags := 26, nameIndex := 719, descriptorIndex := 716, attributes := #[] }, { accessFlags := 4120, nameIndex := 445, descriptorIndex := 117, attributes := #[] }])
  fields := #[{ name := "MIN_ARRAY_SORT_GRAN", type := .int, accessFlags := 26, slot := 0, constantValue := 0 }, { name := "INSERTIONSORT_THRESHOLD", type := .int, accessFlags := 26, slot := 1, constantValue := 0 }, { name := "$assertionsDisabled", type := .boolean, accessFlags := 4120, slot := 2, constantValue := 0 }]
  methods := #[k14m0, k14m1, k14m2, k14m3]
  instanceTypes := #[]
  staticTypes := #[.int, .int, .boolean]
  resolved := Array.replicate 1029 none
  statics := none }

def pool15 : Array CpInfo := pool [(1, .class_ 2), (0, u "java/lang/Math"), (1, .class_ 6), (1, u "java/lang/Object"), (0, u "<init>"), (0, u "()V"), (89, .class_ 100), (1, u "java/lang/Math$RandomNumberGeneratorHolder"), (71, u "negativeZeroFloatBits"), (0, u "J"), (2, u "negativeZeroDoubleBits"), (24, u "min"), (43, u "$assertionsDisabled"), (0, u "Z"), (88, u "(II)I"), (2, u "twoToTheDoubleScaleDown"), (0, u "D"), (4, u "twoToTheDoubleScaleUp"), (9, u "E"), (3, u "PI"), (2, u "TAU"), (2, u "DEGREES_TO_RADIANS"), (0, u "RADIANS_TO_DEGREES")] 94

def k15m0 : Method := { name := "<init>", desc := "()V", sig := { parameters := [], returnType := none }, accessFlags := 2, code := none }
def k15c1 : Code := { maxStack := 2, maxLocals := 2, code := jdk_29_method_69_code, exceptionTable := #[], attributes := #[] }
def k15m1 : Method := { name := "min", desc := "(II)I", sig := { parameters := [.int, .int], returnType := some .int }, accessFlags := 9, code := some k15c1 }
/-- java/lang/Math -/
def k15 : Class := { plain "java/lang/Math" (some 0) with
  accessFlags := 49
  interfaces := #[]
  cf := some (fileOf pool15 1 #[.nestMembers #[98]] #[{ accessFlags := 2, nameIndex := 7, descriptorIndex := 8, attributes := #[] }, { accessFlags := 9, nameIndex := 201, descriptorIndex := 335, attributes := #[] }] 49 4 #[] #[{ accessFlags := 25, nameIndex := 354, descriptorIndex := 339, attributes := #[] }, { accessFlags := 25, nameIndex := 358, descriptorIndex := 339, attributes := #[] }, { accessFlags := 25, nameIndex := 361, descriptorIndex := 339, attributes := #[] }, { accessFlags := 26, nameIndex := 364, descriptorIndex := 339, attributes := #[] }, { accessFlags := 26, nameIndex := 365, descriptorIndex := 339, attributes := #[] }, { accessFlags := 26, nameIndex := 172, descriptorIndex := 173, attributes := #[] }, { accessFlags := 26, nameIndex := 176, descriptorIndex := 173, attributes := #[] }, { accessFlags := 8, nameIndex := 344, descriptorIndex := 339, attributes := #[] }, { accessFlags := 8, nameIndex := 338, descriptorIndex := 339, attributes := #[] }, { accessFlags := 4120, nameIndex := 245, descriptorIndex := 246, attributes := #[] }])
  fields := #[{ name := "E", type := .double, accessFlags := 25, slot := 0, constantValue := 0 }, { name := "PI", type := .double, accessFlags := 25, slot := 1, constantValue := 0 }, { name := "TAU", type := .double, accessFlags := 25, slot := 2, constantValue := 0 }, { name := "DEGREES_TO_RADIANS", type := .double, accessFlags := 26, slot := 3, constantValue := 0 }, { name := "RADIANS_TO_DEGREES", type := .double, accessFlags := 26, slot := 4, constantValue := 0 }, { name := "negativeZeroFloatBits", type := .long, accessFlags := 26, slot := 5, constantValue := 0 }, { name := "negativeZeroDoubleBits", type := .long, accessFlags := 26, slot := 6, constantValue := 0 }, { name := "twoToTheDoubleScaleUp", type := .double, accessFlags := 8, slot := 7, constantValue := 0 }, { name := "twoToTheDoubleScaleDown", type := .double, accessFlags := 8, slot := 8, constantValue := 0 }, { name := "$assertionsDisabled", type := .boolean, accessFlags := 4120, slot := 9, constantValue := 0 }]
  methods := #[k15m0, k15m1]
  instanceTypes := #[]
  staticTypes := #[.double, .double, .double, .double, .double, .long, .long, .double, .double, .boolean]
  resolved := Array.replicate 460 none
  statics := none }

def pool16 : Array CpInfo := pool [(2, .class_ 4), (1, u "java/lang/Object"), (0, u "<init>"), (0, u "()V"), (14, .class_ 23), (1, u "java/nio/charset/StandardCharsets"), (0, u "US_ASCII"), (0, u "Ljava/nio/charset/Charset;"), (7, u "ISO_8859_1"), (7, u "UTF_8"), (5, u "UTF_16BE"), (5, u "UTF_16LE"), (5, u "UTF_16")] 8

def k16m0 : Method := { name := "<init>", desc := "()V", sig := { parameters := [], returnType := none }, accessFlags := 2, code := none }
/-- java/nio/charset/StandardCharsets -/
def k16 : Class := { plain "java/nio/charset/StandardCharsets" (some 0) with
  accessFlags := 49
  interfaces := #[]
  cf := some (fileOf pool16 21 #[] #[{ accessFlags := 2, nameIndex := 5, descriptorIndex := 6, attributes := #[] }] 49 2 #[] #[{ accessFlags := 25, nameIndex := 24, descriptorIndex := 25, attributes := #[] }, { accessFlags := 25, nameIndex := 33, descriptorIndex := 25, attributes := #[] }, { accessFlags := 25, nameIndex := 41, descriptorIndex := 25, attributes := #[] }, { accessFlags := 25, nameIndex := 47, descriptorIndex := 25, attributes := #[] }, { accessFlags := 25, nameIndex := 53, descriptorIndex := 25, attributes := #[] }, { accessFlags := 25, nameIndex := 59, descriptorIndex := 25, attributes := #[] }])
  fields := #[{ name := "US_ASCII", type := (.object "java/nio/charset/Charset"), accessFlags := 25, slot := 0, constantValue := 0 }, { name := "ISO_8859_1", type := (.object "java/nio/charset/Charset"), accessFlags := 25, slot := 1, constantValue := 0 }, { name := "UTF_8", type := (.object "java/nio/charset/Charset"), accessFlags := 25, slot := 2, constantValue := 0 }, { name := "UTF_16BE", type := (.object "java/nio/charset/Charset"), accessFlags := 25, slot := 3, constantValue := 0 }, { name := "UTF_16LE", type := (.object "java/nio/charset/Charset"), accessFlags := 25, slot := 4, constantValue := 0 }, { name := "UTF_16", type := (.object "java/nio/charset/Charset"), accessFlags := 25, slot := 5, constantValue := 0 }]
  methods := #[k16m0]
  instanceTypes := #[]
  staticTypes := #[(.object "java/nio/charset/Charset"), (.object "java/nio/charset/Charset"), (.object "java/nio/charset/Charset"), (.object "java/nio/charset/Charset"), (.object "java/nio/charset/Charset"), (.object "java/nio/charset/Charset")]
  resolved := Array.replicate 68 none
  statics := some 1 }

def pool17 : Array CpInfo := pool [(18, .class_ 20), (1, u "java/nio/charset/Charset"), (0, u "cache1"), (0, u "[Ljava/lang/Object;"), (2, u "cache2"), (0, .class_ 27), (0, u "java/lang/Object"), (0, .class_ 29), (0, u "java/nio/charset/Charset$1"), (4, .class_ 36), (1, u "java/nio/charset/Charset$ThreadTrackHolder"), (21, .class_ 59), (0, u "java/nio/charset/Charset$2"), (11, .class_ 73), (1, u "java/nio/charset/Charset$ExtendedProviderHolder"), (22, u "standardProvider"), (0, u "Ljava/nio/charset/spi/CharsetProvider;"), (29, u "name"), (7, .class_ 136), (0, u "java/nio/charset/Charset$3"), (5, u "defaultCharset"), (0, u "Ljava/nio/charset/Charset;"), (14, u "zeroAliases"), (0, u "[Ljava/lang/String;"), (29, u "Ljava/lang/String;"), (2, u "aliases"), (2, u "aliasSet"), (0, u "Ljava/util/Set;"), (82, .class_ 280), (0, u "java/lang/Comparable"), (84, .class_ 366), (0, u "java/nio/charset/Charset$ExtendedProviderHolder$1")] 3

/-- java/nio/charset/Charset -/
def k17 : Class := { plain "java/nio/charset/Charset" (some 0) with
  accessFlags := 1057
  interfaces := #[3]
  cf := some (fileOf pool17 18 #[.nestMembers #[71, 365, 34, 135, 58, 28]] #[] 1057 26 #[279] #[{ accessFlags := 26, nameIndex := 96, descriptorIndex := 97, attributes := #[] }, { accessFlags := 26, nameIndex := 158, descriptorIndex := 159, attributes := #[] }, { accessFlags := 74, nameIndex := 21, descriptorIndex := 22, attributes := #[] }, { accessFlags := 74, nameIndex := 25, descriptorIndex := 22, attributes := #[] }, { accessFlags := 10, nameIndex := 142, descriptorIndex := 143, attributes := #[] }, { accessFlags := 18, nameIndex := 127, descriptorIndex := 189, attributes := #[] }, { accessFlags := 18, nameIndex := 192, descriptorIndex := 159, attributes := #[] }, { accessFlags := 2, nameIndex := 195, descriptorIndex := 196, attributes := #[] }])
  fields := #[{ name := "standardProvider", type := (.object "java/nio/charset/spi/CharsetProvider"), accessFlags := 26, slot := 0, constantValue := 0 }, { name := "zeroAliases", type := (.array (.object "java/lang/String")), accessFlags := 26, slot := 1, constantValue := 0 }, { name := "cache1", type := (.array (.object "java/lang/Object")), accessFlags := 74, slot := 2, constantValue := 0 }, { name := "cache2", type := (.array (.object "java/lang/Object")), accessFlags := 74, slot := 3, constantValue := 0 }, { name := "defaultCharset", type := (.object "java/nio/charset/Charset"), accessFlags := 10, slot := 4, constantValue := 0 }, { name := "name", type := (.object "java/lang/String"), accessFlags := 18, slot := 0, constantValue := 0 }, { name := "aliases", type := (.array (.object "java/lang/String")), accessFlags := 18, slot := 1, constantValue := 0 }, { name := "aliasSet", type := (.object "java/util/Set"), accessFlags := 2, slot := 2, constantValue := 0 }]
  methods := #[]
  instanceTypes := #[(.object "java/lang/String"), (.array (.object "java/lang/String")), (.object "java/util/Set")]
  staticTypes := #[(.object "java/nio/charset/spi/CharsetProvider"), (.array (.object "java/lang/String")), (.array (.object "java/lang/Object")), (.array (.object "java/lang/Object")), (.object "java/nio/charset/Charset")]
  resolved := Array.replicate 370 none
  statics := none }

def pool18 : Array CpInfo := pool [(1, .class_ 2), (0, u "sun/nio/cs/HistoricallyNamedCharset"), (0, .class_ 4), (0, u "java/lang/Object")] 4

/-- sun/nio/cs/HistoricallyNamedCharset -/
def k18 : Class := { plain "sun/nio/cs/HistoricallyNamedCharset" (some 0) with
  accessFlags := 1537
  interfaces := #[]
  cf := some (fileOf pool18 1 #[] #[] 1537 3 #[] #[])
  fields := #[]
  methods := #[]
  instanceTypes := #[]
  staticTypes := #[]
  resolved := Array.replicate 9 none
  statics := none }

def pool19 : Array CpInfo := pool [(2, .class_ 4), (1, u "java/nio/charset/Charset"), (130, .class_ 136), (0, u "sun/nio/cs/Unicode"), (0, .class_ 138), (0, u "sun/nio/cs/HistoricallyNamedCharset")] 15

/-- sun/nio/cs/Unicode -/
def k19 : Class := { plain "sun/nio/cs/Unicode" (some 17) with
  accessFlags := 1056
  interfaces := #[18]
  cf := some (fileOf pool19 135 #[] #[] 1056 2 #[137] #[])
  fields := #[]
  methods := #[]
  instanceTypes := #[(.object "java/lang/String"), (.array (.object "java/lang/String")), (.object "java/util/Set")]
  staticTypes := #[]
  resolved := Array.replicate 154 none
  statics := none }

def pool20 : Array CpInfo := pool [(10, .class_ 12), (1, u "sun/nio/cs/Unicode"), (0, u "<init>"), (3, .class_ 18), (0, u "sun/nio/cs/UTF_8$Decoder"), (3, .class_ 23), (0, u "sun/nio/cs/UTF_8$Encoder"), (15, .class_ 40), (0, u "sun/nio/cs/UTF_8"), (2, u "()V"), (2, u "INSTANCE"), (0, u "Lsun/nio/cs/UTF_8;"), (8, u "JLA"), (0, u "Ljdk/internal/access/JavaLangAccess;")] 26

def k20m0 : Method := { name := "<init>", desc := "()V", sig := { parameters := [], returnType := none }, accessFlags := 1, code := none }
/-- sun/nio/cs/UTF_8 -/
def k20 : Class := { plain "sun/nio/cs/UTF_8" (some 19) with
  accessFlags := 49
  interfaces := #[]
  cf := some (fileOf pool20 39 #[.nestMembers #[22, 17]] #[{ accessFlags := 1, nameIndex := 13, descriptorIndex := 43, attributes := #[] }] 49 10 #[] #[{ accessFlags := 25, nameIndex := 46, descriptorIndex := 47, attributes := #[] }, { accessFlags := 26, nameIndex := 56, descriptorIndex := 57, attributes := #[] }])
  fields := #[{ name := "INSTANCE", type := (.object "sun/nio/cs/UTF_8"), accessFlags := 25, slot := 0, constantValue := 0 }, { name := "JLA", type := (.object "jdk/internal/access/JavaLangAccess"), accessFlags := 26, slot := 1, constantValue := 0 }]
  methods := #[k20m0]
  instanceTypes := #[(.object "java/lang/String"), (.array (.object "java/lang/String")), (.object "java/util/Set")]
  staticTypes := #[(.object "sun/nio/cs/UTF_8"), (.object "jdk/internal/access/JavaLangAccess")]
  resolved := Array.replicate 84 none
  statics := some 2 }

def pool21 : Array CpInfo := pool [(2, .class_ 4), (1, u "java/lang/Object"), (0, u "<init>"), (0, u "()V"), (0, .methodref 8 9), (0, .class_ 10), (0, .nameAndType 11 12), (0, u "java/lang/StringCoding"), (0, u "countPositives"), (0, u "([BII)I"), (11, u "hasNegatives"), (0, u "([BII)Z")] 23

def k21m0 : Method := { name := "<init>", desc := "()V", sig := { parameters := [], returnType := none }, accessFlags := 2, code := none }
def k21c1 : Code := { maxStack := 3, maxLocals := 3, code := jdk_123_method_2_code, exceptionTable := #[], attributes := #[] }
def k21m1 : Method := { name := "hasNegatives", desc := "([BII)Z", sig := { parameters := [(.array .byte), .int, .int], returnType := some .boolean }, accessFlags := 9, code := some k21c1 }
def k21c2 : Code := { maxStack := 2, maxLocals := 5, code := jdk_123_method_3_code, exceptionTable := #[], attributes := #[] }
def k21m2 : Method := { name := "countPositives", desc := "([BII)I", sig := { parameters := [(.array .byte), .int, .int], returnType := some .int }, accessFlags := 9, code := some k21c2 }
/-- java/lang/StringCoding -/
def k21 : Class := { plain "java/lang/StringCoding" (some 0) with
  accessFlags := 32
  interfaces := #[]
  cf := some (fileOf pool21 8 #[] #[{ accessFlags := 2, nameIndex := 5, descriptorIndex := 6, attributes := #[] }, { accessFlags := 9, nameIndex := 24, descriptorIndex := 25, attributes := #[] }, { accessFlags := 9, nameIndex := 11, descriptorIndex := 12, attributes := #[] }] 32 2 #[] #[])
  fields := #[]
  methods := #[k21m0, k21m1, k21m2]
  instanceTypes := #[]
  staticTypes := #[]
  resolved := Array.replicate 49 none
  statics := none }

def pool22 : Array CpInfo := pool [(1, .class_ 2), (0, u "java/lang/Cloneable"), (0, .class_ 4), (0, u "java/lang/Object")] 2

/-- java/lang/Cloneable -/
def k22 : Class := { plain "java/lang/Cloneable" (some 0) with
  accessFlags := 1537
  interfaces := #[]
  cf := some (fileOf pool22 1 #[] #[] 1537 3 #[] #[])
  fields := #[]
  methods := #[]
  instanceTypes := #[]
  staticTypes := #[]
  resolved := Array.replicate 7 none
  statics := none }

def pool23 : Array CpInfo := pool [(4, .class_ 6), (1, u "java/lang/Object"), (0, u "<init>"), (0, u "()V"), (5, .class_ 16), (1, u "java/lang/StringLatin1"), (104, u "$assertionsDisabled"), (0, u "Z"), (98, .class_ 223), (1, u "java/lang/StringLatin1$LinesSpliterator"), (166, .class_ 391), (0, u "java/lang/StringLatin1$CharsSpliterator")] 3

def k23m0 : Method := { name := "<init>", desc := "()V", sig := { parameters := [], returnType := none }, accessFlags := 0, code := none }
/-- java/lang/StringLatin1 -/
def k23 : Class := { plain "java/lang/StringLatin1" (some 0) with
  accessFlags := 48
  interfaces := #[]
  cf := some (fileOf pool23 14 #[.nestMembers #[390, 221]] #[{ accessFlags := 0, nameIndex := 7, descriptorIndex := 8, attributes := #[] }] 48 4 #[] #[{ accessFlags := 4120, nameIndex := 121, descriptorIndex := 122, attributes := #[] }])
  fields := #[{ name := "$assertionsDisabled", type := .boolean, accessFlags := 4120, slot := 0, constantValue := 0 }]
  methods := #[k23m0]
  instanceTypes := #[]
  staticTypes := #[.boolean]
  resolved := Array.replicate 395 none
  statics := none }

def pool24 : Array CpInfo := pool [(2, .class_ 4), (1, u "java/lang/Object"), (0, u "<init>"), (0, u "()V"), (17, .class_ 26), (1, u "jdk/internal/util/Preconditions"), (28, .class_ 56), (0, u "jdk/internal/util/Preconditions$4"), (57, .class_ 115), (0, u "jdk/internal/util/Preconditions$1"), (7, u "SIOOBE_FORMATTER"), (0, u "Ljava/util/function/BiFunction;"), (0, .class_ 126), (0, u "jdk/internal/util/Preconditions$2"), (3, u "AIOOBE_FORMATTER"), (0, .class_ 132), (0, u "jdk/internal/util/Preconditions$3"), (3, u "IOOBE_FORMATTER")] 57

def k24m0 : Method := { name := "<init>", desc := "()V", sig := { parameters := [], returnType := none }, accessFlags := 1, code := none }
/-- jdk/internal/util/Preconditions -/
def k24 : Class := { plain "jdk/internal/util/Preconditions" (some 0) with
  accessFlags := 33
  interfaces := #[]
  cf := some (fileOf pool24 24 #[.nestMembers #[55, 131, 125, 114]] #[{ accessFlags := 1, nameIndex := 5, descriptorIndex := 6, attributes := #[] }] 33 2 #[] #[{ accessFlags := 25, nameIndex := 123, descriptorIndex := 124, attributes := #[] }, { accessFlags := 25, nameIndex := 130, descriptorIndex := 124, attributes := #[] }, { accessFlags := 25, nameIndex := 136, descriptorIndex := 124, attributes := #[] }])
  fields := #[{ name := "SIOOBE_FORMATTER", type := (.object "java/util/function/BiFunction"), accessFlags := 25, slot := 0, constantValue := 0 }, { name := "AIOOBE_FORMATTER", type := (.object "java/util/function/BiFunction"), accessFlags := 25, slot := 1, constantValue := 0 }, { name := "IOOBE_FORMATTER", type := (.object "java/util/function/BiFunction"), accessFlags := 25, slot := 2, constantValue := 0 }]
  methods := #[k24m0]
  instanceTypes := #[]
  staticTypes := #[(.object "java/util/function/BiFunction"), (.object "java/util/function/BiFunction"), (.object "java/util/function/BiFunction")]
  resolved := Array.replicate 194 none
  statics := some 3 }

def pool25 : Array CpInfo := pool [(9, u "<init>"), (6, .class_ 18), (1, u "java/lang/Object"), (0, u "()V"), (1, .class_ 23), (1, u "jdk/internal/util/ArraysSupport"), (0, u "LOG2_ARRAY_LONG_INDEX_SCALE"), (0, u "I"), (2, u "U"), (0, u "Ljdk/internal/misc/Unsafe;"), (8, u "BIG_ENDIAN"), (0, u "Z"), (8, u "LOG2_BYTE_BIT_SIZE"), (4, u "LOG2_ARRAY_INT_INDEX_SCALE"), (54, u "JLA"), (0, u "Ljdk/internal/access/JavaLangAccess;"), (11, u "LOG2_ARRAY_BOOLEAN_INDEX_SCALE"), (9, u "LOG2_ARRAY_BYTE_INDEX_SCALE"), (5, u "LOG2_ARRAY_CHAR_INDEX_SCALE"), (5, u "LOG2_ARRAY_SHORT_INDEX_SCALE"), (18, u "LOG2_ARRAY_FLOAT_INDEX_SCALE"), (24, u "LOG2_ARRAY_DOUBLE_INDEX_SCALE"), (89, u "T_BOOLEAN"), (2, u "T_CHAR"), (1, u "T_FLOAT"), (1, u "T_DOUBLE"), (1, u "T_BYTE"), (1, u "T_SHORT"), (1, u "T_INT"), (1, u "T_LONG"), (1, u "SOFT_MAX_ARRAY_LENGTH")] 83

def k25m0 : Method := { name := "<init>", desc := "()V", sig := { parameters := [], returnType := none }, accessFlags := 2, code := none }
/-- jdk/internal/util/ArraysSupport -/
def k25 : Class := { plain "jdk/internal/util/ArraysSupport" (some 0) with
  accessFlags := 33
  interfaces := #[]
  cf := some (fileOf pool25 21 #[] #[{ accessFlags := 2, nameIndex := 9, descriptorIndex := 19, attributes := #[] }] 33 16 #[] #[{ accessFlags := 24, nameIndex := 28, descriptorIndex := 29, attributes := #[] }, { accessFlags := 26, nameIndex := 38, descriptorIndex := 39, attributes := #[] }, { accessFlags := 25, nameIndex := 121, descriptorIndex := 25, attributes := #[] }, { accessFlags := 25, nameIndex := 131, descriptorIndex := 25, attributes := #[] }, { accessFlags := 25, nameIndex := 137, descriptorIndex := 25, attributes := #[] }, { accessFlags := 25, nameIndex := 143, descriptorIndex := 25, attributes := #[] }, { accessFlags := 25, nameIndex := 53, descriptorIndex := 25, attributes := #[] }, { accessFlags := 25, nameIndex := 24, descriptorIndex := 25, attributes := #[] }, { accessFlags := 25, nameIndex := 162, descriptorIndex := 25, attributes := #[] }, { accessFlags := 25, nameIndex := 187, descriptorIndex := 25, attributes := #[] }, { accessFlags := 26, nameIndex := 48, descriptorIndex := 25, attributes := #[] }, { accessFlags := 25, nameIndex := 277, descriptorIndex := 25, attributes := #[] }, { accessFlags := 25, nameIndex := 280, descriptorIndex := 25, attributes := #[] }, { accessFlags := 25, nameIndex := 282, descriptorIndex := 25, attributes := #[] }, { accessFlags := 25, nameIndex := 284, descriptorIndex := 25, attributes := #[] }, { accessFlags := 25, nameIndex := 286, descriptorIndex := 25, attributes := #[] }, { accessFlags := 25, nameIndex := 288, descriptorIndex := 25, attributes := #[] }, { accessFlags := 25, nameIndex := 290, descriptorIndex := 25, attributes := #[] }, { accessFlags := 25, nameIndex := 292, descriptorIndex := 25, attributes := #[] }, { accessFlags := 26, nameIndex := 108, descriptorIndex := 109, attributes := #[] }, { accessFlags := 25, nameIndex := 294, descriptorIndex := 25, attributes := #[] }])
  fields := #[{ name := "U", type := (.object "jdk/internal/misc/Unsafe"), accessFlags := 24, slot := 0, constantValue := 0 }, { name := "BIG_ENDIAN", type := .boolean, accessFlags := 26, slot := 1, constantValue := 0 }, { name := "LOG2_ARRAY_BOOLEAN_INDEX_SCALE", type := .int, accessFlags := 25, slot := 2, constantValue := 0 }, { name := "LOG2_ARRAY_BYTE_INDEX_SCALE", type := .int, accessFlags := 25, slot := 3, constantValue := 0 }, { name := "LOG2_ARRAY_CHAR_INDEX_SCALE", type := .int, accessFlags := 25, slot := 4, constantValue := 0 }, { name := "LOG2_ARRAY_SHORT_INDEX_SCALE", type := .int, accessFlags := 25, slot := 5, constantValue := 0 }, { name := "LOG2_ARRAY_INT_INDEX_SCALE", type := .int, accessFlags := 25, slot := 6, constantValue := 0 }, { name := "LOG2_ARRAY_LONG_INDEX_SCALE", type := .int, accessFlags := 25, slot := 7, constantValue := 0 }, { name := "LOG2_ARRAY_FLOAT_INDEX_SCALE", type := .int, accessFlags := 25, slot := 8, constantValue := 0 }, { name := "LOG2_ARRAY_DOUBLE_INDEX_SCALE", type := .int, accessFlags := 25, slot := 9, constantValue := 0 }, { name := "LOG2_BYTE_BIT_SIZE", type := .int, accessFlags := 26, slot := 10, constantValue := 0 }, { name := "T_BOOLEAN", type := .int, accessFlags := 25, slot := 11, constantValue := 0 }, { name := "T_CHAR", type := .int, accessFlags := 25, slot := 12, constantValue := 0 }, { name := "T_FLOAT", type := .int, accessFlags := 25, slot := 13, constantValue := 0 }, { name := "T_DOUBLE", type := .int, accessFlags := 25, slot := 14, constantValue := 0 }, { name := "T_BYTE", type := .int, accessFlags := 25, slot := 15, constantValue := 0 }, { name := "T_SHORT", type := .int, accessFlags := 25, slot := 16, constantValue := 0 }, { name := "T_INT", type := .int, accessFlags := 25, slot := 17, constantValue := 0 }, { name := "T_LONG", type := .int, accessFlags := 25, slot := 18, constantValue := 0 }, { name := "JLA", type := (.object "jdk/internal/access/JavaLangAccess"), accessFlags := 26, slot := 19, constantValue := 0 }, { name := "SOFT_MAX_ARRAY_LENGTH", type := .int, accessFlags := 25, slot := 20, constantValue := 0 }]
  methods := #[k25m0]
  instanceTypes := #[]
  staticTypes := #[(.object "jdk/internal/misc/Unsafe"), .boolean, .int, .int, .int, .int, .int, .int, .int, .int, .int, .int, .int, .int, .int, .int, .int, .int, .int, (.object "jdk/internal/access/JavaLangAccess"), .int]
  resolved := Array.replicate 378 none
  statics := none }

/-- the primitive byte -/
def k26 : Class := { plain "byte" none with kind := .primitive 'B', accessFlags := 0x411 }
/-- [B -/
def k27 : Class := { plain "[B" (some 0) with kind := .array 26 .byte, interfaces := #[22, 2], accessFlags := 1041 }

/-- the primitive char -/
def k28 : Class := { plain "char" none with kind := .primitive 'C', accessFlags := 0x411 }
/-- [C -/
def k29 : Class := { plain "[C" (some 0) with kind := .array 28 .char, interfaces := #[22, 2], accessFlags := 1041 }

/-- the primitive int -/
def k30 : Class := { plain "int" none with kind := .primitive 'I', accessFlags := 0x411 }
/-- [I -/
def k31 : Class := { plain "[I" (some 0) with kind := .array 30 .int, interfaces := #[22, 2], accessFlags := 1041 }

def heap : Heap := #[{ cls := 7, slots := #[.long 0, .int 1, .null, .int 0, .null, .int 0, .int 0], vm := .statics 7 },
  { cls := 16, slots := #[.null, .null, .ref 4, .null, .null, .null], vm := .statics 16 },
  { cls := 20, slots := #[.ref 4, .null], vm := .statics 20 },
  { cls := 24, slots := #[.null, .null, .null], vm := .statics 24 },
  { cls := 20, slots := #[.null, .null, .null], vm := .none }]
def classes : Array Class := #[k0, k1, k2, k3, k4, k5, k6, k7, k8, k9, k10, k11, k12, k13, k14, k15, k16, k17, k18, k19, k20, k21, k22, k23, k24, k25, k26, k27, k28, k29, k30, k31]
def interned : List (Array UInt16 × Addr) := []
def slotsUsed : Nat := 21
def theMethod : MethodId := ⟨1, 1⟩
def args0 : Array Value := #[.int 5, .int 6, .int 7, .int 8]
def aboutOver (below : List Frame) : State where
  vm := { classes := classes, interned := interned.toArray }
  heap := heap
  slotsUsed := slotsUsed
  threads := #[{ frames := .invoking theMethod args0 :: below }]
def below0 : List Frame := [.native { method := ⟨0, 0⟩, args := #[] }]
def about1 : State := aboutOver below0
def p0 : Program := .bare "" "" ""
def e0 : Env := launch0.env 0 0 0
theorem w_frames : about1.frames = Frame.invoking theMethod args0 :: below0 := rfl
set_option maxRecDepth 65536 in
theorem w_args : argsFit about1.vm theMethod args0 = true := by decide +kernel
set_option maxRecDepth 65536 in
theorem w_heap : heapFits about1 = true := by decide +kernel
set_option maxRecDepth 65536 in
theorem w_runnable : about1.curStatus? = some .runnable := by decide +kernel
set_option maxRecDepth 65536 in
theorem w_alone : about1.alone = true := by decide +kernel
set_option maxRecDepth 65536 in
theorem w_named : about1.methodNamed? x = some theMethod := by decide +kernel
set_option maxRecDepth 65536 in
theorem w_hears : about1.hears theMethod below0 = true := by decide +kernel
set_option maxRecDepth 65536 in
theorem w_ripe : about1.ripe theMethod args0 below0 = true := by decide +kernel
theorem w_running : about1.status = .running := rfl
set_option maxRecDepth 65536 in
theorem w_room : about1.hasRoom e0.platform room_1 = true :=
  launch0.hasRoom_least _ room_1 (by decide +kernel) (by decide +kernel) (by decide +kernel) (by decide +kernel) (by decide +kernel) (by decide +kernel)
theorem allAtoms_all (ts : List Jvm.Cond) (a : Array Jvm.Value) (st : Jvm.State) : (allAtoms ts).before a st = ts.all (fun c => c.before a st) := by
  induction ts with
  | nil => rfl
  | cons c t ih =>
    show (Jvm.Cond.and c (allAtoms t)).before a st = _
    rw [Jvm.Cond.before_and, ih, List.all_cons]
def words1 : List Jvm.Cond := Jvm.Cond.code x code maxLocals ret :: tables_1
/-- a 'code' word, met by the world's own term for the bytes: nothing is compared byte by byte -/
theorem code_word {y : MethodName} {bytes : ByteArray} {mx : Nat} {rt : Option FieldType} {a : Array Value} {s : State} {m : MethodId} {meth : Method} {c : Code} (h1 : s.methodNamed? y = some m) (h2 : s.vm.method? m = some meth) (h3 : meth.code = some c) (h4 : c.code = bytes)
    (h5 : (c.maxLocals == mx && c.exceptionTable.isEmpty && decide (c.maxStack ≤ mostOperands) && decide (meth.sig.returnType = rt) && !meth.locks && decide (parseMethodDescriptor y.desc = some meth.sig)) = true) : (Jvm.Cond.code y bytes mx rt).before a s = true := by
  simp only [Bool.and_eq_true, beq_iff_eq, Bool.not_eq_true', decide_eq_true_eq] at h5
  obtain ⟨⟨⟨⟨⟨g1, g2⟩, g3⟩, g4⟩, g5⟩, g6⟩ := h5
  simp [Cond.before, Cond.holds, Cond.value, h1, h2, h3, h4, g1, g2, g3, g4, g5, g6]
def isCode : Jvm.Cond → Bool
  | .code _ _ _ _ => true
  | _ => false
theorem all_split {L : List Jvm.Cond} {P : Jvm.Cond → Bool} (h1 : L.all (fun c => isCode c || P c) = true) (h2 : ∀ c ∈ L.filter isCode, P c = true) : L.all P = true := by
  refine List.all_eq_true.mpr fun c hc => ?_
  have h := List.all_eq_true.mp h1 c hc
  rcases Bool.eq_false_or_eq_true (isCode c) with hi | hi
  · exact h2 c (List.mem_filter.mpr ⟨hc, hi⟩)
  · simpa [hi] using h
set_option maxRecDepth 65536 in
theorem w_c0 : (Jvm.Cond.code x code maxLocals ret).before args0 about1 = true := code_word (m := ⟨1, 1⟩) (meth := k1m1) (c := k1c1) (by decide +kernel) rfl rfl rfl (by decide +kernel)
set_option maxRecDepth 65536 in
theorem w_c1 : (Jvm.Cond.code ({ cls := "com/example/waybill/waybill/board/HtmlClosePinLaw", name := "name", desc := "(II)[C" } : Jvm.MethodName) method_3_code (4 : Nat) (Option.some (Jvm.ClassFile.FieldType.array Jvm.ClassFile.FieldType.char))).before args0 about1 = true := code_word (m := ⟨1, 2⟩) (meth := k1m2) (c := k1c2) (by decide +kernel) rfl rfl rfl (by decide +kernel)
set_option maxRecDepth 65536 in
theorem w_c2 : (Jvm.Cond.code ({ cls := "java/lang/String", name := "<init>", desc := "([C)V" } : Jvm.MethodName) jdk_42_method_3_code (2 : Nat) (Option.none : Option Jvm.ClassFile.FieldType)).before args0 about1 = true := code_word (m := ⟨7, 1⟩) (meth := k7m1) (c := k7c1) (by decide +kernel) rfl rfl rfl (by decide +kernel)
set_option maxRecDepth 65536 in
theorem w_c3 : (Jvm.Cond.code ({ cls := "java/lang/String", name := "<init>", desc := "([CIILjava/lang/Void;)V" } : Jvm.MethodName) jdk_42_method_149_code (6 : Nat) (Option.none : Option Jvm.ClassFile.FieldType)).before args0 about1 = true := code_word (m := ⟨7, 8⟩) (meth := k7m8) (c := k7c8) (by decide +kernel) rfl rfl rfl (by decide +kernel)
set_option maxRecDepth 65536 in
theorem w_c4 : (Jvm.Cond.code ({ cls := "java/lang/Object", name := "<init>", desc := "()V" } : Jvm.MethodName) object_method_1_code (1 : Nat) (Option.none : Option Jvm.ClassFile.FieldType)).before args0 about1 = true := code_word (m := ⟨0, 0⟩) (meth := k0m0) (c := k0c0) (by decide +kernel) rfl rfl rfl (by decide +kernel)
set_option maxRecDepth 65536 in
theorem w_c5 : (Jvm.Cond.code ({ cls := "java/lang/StringUTF16", name := "compress", desc := "([CII)[B" } : Jvm.MethodName) jdk_52_method_16_code (6 : Nat) (Option.some (Jvm.ClassFile.FieldType.array Jvm.ClassFile.FieldType.byte))).before args0 about1 = true := code_word (m := ⟨8, 2⟩) (meth := k8m2) (c := k8c2) (by decide +kernel) rfl rfl rfl (by decide +kernel)
set_option maxRecDepth 65536 in
theorem w_c6 : (Jvm.Cond.code ({ cls := "java/lang/StringUTF16", name := "compress", desc := "([CI[BII)I" } : Jvm.MethodName) jdk_52_method_21_code (7 : Nat) (Option.some Jvm.ClassFile.FieldType.int)).before args0 about1 = true := code_word (m := ⟨8, 3⟩) (meth := k8m3) (c := k8c3) (by decide +kernel) rfl rfl rfl (by decide +kernel)
set_option maxRecDepth 65536 in
theorem w_c7 : (Jvm.Cond.code ({ cls := "java/lang/StringUTF16", name := "coderFromArrayLen", desc := "([BI)B" } : Jvm.MethodName) jdk_52_method_15_code (2 : Nat) (Option.some Jvm.ClassFile.FieldType.byte)).before args0 about1 = true := code_word (m := ⟨8, 1⟩) (meth := k8m1) (c := k8c1) (by decide +kernel) rfl rfl rfl (by decide +kernel)
set_option maxRecDepth 65536 in
theorem w_c8 : (Jvm.Cond.code ({ cls := "com/example/waybill/waybill/board/Html", name := "<init>", desc := "()V" } : Jvm.MethodName) prog_22_method_1_code (1 : Nat) (Option.none : Option Jvm.ClassFile.FieldType)).before args0 about1 = true := code_word (m := ⟨9, 0⟩) (meth := k9m0) (c := k9c0) (by decide +kernel) rfl rfl rfl (by decide +kernel)
set_option maxRecDepth 65536 in
theorem w_c9 : (Jvm.Cond.code ({ cls := "java/lang/StringBuilder", name := "<init>", desc := "(Ljava/lang/String;)V" } : Jvm.MethodName) jdk_67_method_3_code (2 : Nat) (Option.none : Option Jvm.ClassFile.FieldType)).before args0 about1 = true := code_word (m := ⟨12, 1⟩) (meth := k12m1) (c := k12c1) (by decide +kernel) rfl rfl rfl (by decide +kernel)
set_option maxRecDepth 65536 in
theorem w_c10 : (Jvm.Cond.code ({ cls := "java/lang/AbstractStringBuilder", name := "<init>", desc := "(Ljava/lang/String;)V" } : Jvm.MethodName) jdk_68_method_3_code (5 : Nat) (Option.none : Option Jvm.ClassFile.FieldType)).before args0 about1 = true := code_word (m := ⟨11, 1⟩) (meth := k11m1) (c := k11c1) (by decide +kernel) rfl rfl rfl (by decide +kernel)
set_option maxRecDepth 65536 in
theorem w_c11 : (Jvm.Cond.code ({ cls := "java/lang/String", name := "length", desc := "()I" } : Jvm.MethodName) jdk_42_method_54_code (1 : Nat) (Option.some Jvm.ClassFile.FieldType.int)).before args0 about1 = true := code_word (m := ⟨7, 5⟩) (meth := k7m5) (c := k7c5) (by decide +kernel) rfl rfl rfl (by decide +kernel)
set_option maxRecDepth 65536 in
theorem w_c12 : (Jvm.Cond.code ({ cls := "java/lang/String", name := "coder", desc := "()B" } : Jvm.MethodName) jdk_42_method_152_code (1 : Nat) (Option.some Jvm.ClassFile.FieldType.byte)).before args0 about1 = true := code_word (m := ⟨7, 10⟩) (meth := k7m10) (c := k7c10) (by decide +kernel) rfl rfl rfl (by decide +kernel)
set_option maxRecDepth 65536 in
theorem w_c13 : (Jvm.Cond.code ({ cls := "java/lang/StringBuilder", name := "append", desc := "(Ljava/lang/String;)Ljava/lang/AbstractStringBuilder;" } : Jvm.MethodName) jdk_67_method_80_code (2 : Nat) (Option.some (Jvm.ClassFile.FieldType.object "java/lang/AbstractStringBuilder"))).before args0 about1 = true := code_word (m := ⟨12, 4⟩) (meth := k12m4) (c := k12c4) (by decide +kernel) rfl rfl rfl (by decide +kernel)
set_option maxRecDepth 65536 in
theorem w_c14 : (Jvm.Cond.code ({ cls := "java/lang/StringBuilder", name := "append", desc := "(Ljava/lang/String;)Ljava/lang/StringBuilder;" } : Jvm.MethodName) jdk_67_method_7_code (2 : Nat) (Option.some (Jvm.ClassFile.FieldType.object "java/lang/StringBuilder"))).before args0 about1 = true := code_word (m := ⟨12, 2⟩) (meth := k12m2) (c := k12c2) (by decide +kernel) rfl rfl rfl (by decide +kernel)
set_option maxRecDepth 65536 in
theorem w_c15 : (Jvm.Cond.code ({ cls := "java/lang/AbstractStringBuilder", name := "append", desc := "(Ljava/lang/String;)Ljava/lang/AbstractStringBuilder;" } : Jvm.MethodName) jdk_68_method_22_code (3 : Nat) (Option.some (Jvm.ClassFile.FieldType.object "java/lang/AbstractStringBuilder"))).before args0 about1 = true := code_word (m := ⟨11, 4⟩) (meth := k11m4) (c := k11c4) (by decide +kernel) rfl rfl rfl (by decide +kernel)
set_option maxRecDepth 65536 in
theorem w_c16 : (Jvm.Cond.code ({ cls := "java/lang/AbstractStringBuilder", name := "ensureCapacityInternal", desc := "(I)V" } : Jvm.MethodName) jdk_68_method_9_code (3 : Nat) (Option.none : Option Jvm.ClassFile.FieldType)).before args0 about1 = true := code_word (m := ⟨11, 3⟩) (meth := k11m3) (c := k11c3) (by decide +kernel) rfl rfl rfl (by decide +kernel)
set_option maxRecDepth 65536 in
theorem w_c17 : (Jvm.Cond.code ({ cls := "java/lang/AbstractStringBuilder", name := "putStringAt", desc := "(ILjava/lang/String;)V" } : Jvm.MethodName) jdk_68_method_73_code (3 : Nat) (Option.none : Option Jvm.ClassFile.FieldType)).before args0 about1 = true := code_word (m := ⟨11, 8⟩) (meth := k11m8) (c := k11c8) (by decide +kernel) rfl rfl rfl (by decide +kernel)
set_option maxRecDepth 65536 in
theorem w_c18 : (Jvm.Cond.code ({ cls := "java/lang/AbstractStringBuilder", name := "inflateIfNeededFor", desc := "(Ljava/lang/String;)V" } : Jvm.MethodName) jdk_68_method_71_code (2 : Nat) (Option.none : Option Jvm.ClassFile.FieldType)).before args0 about1 = true := code_word (m := ⟨11, 7⟩) (meth := k11m7) (c := k11c7) (by decide +kernel) rfl rfl rfl (by decide +kernel)
set_option maxRecDepth 65536 in
theorem w_c19 : (Jvm.Cond.code ({ cls := "java/lang/String", name := "getBytes", desc := "([BIB)V" } : Jvm.MethodName) jdk_42_method_147_code (4 : Nat) (Option.none : Option Jvm.ClassFile.FieldType)).before args0 about1 = true := code_word (m := ⟨7, 7⟩) (meth := k7m7) (c := k7c7) (by decide +kernel) rfl rfl rfl (by decide +kernel)
set_option maxRecDepth 65536 in
theorem w_c20 : (Jvm.Cond.code ({ cls := "com/example/waybill/waybill/board/Html", name := "close", desc := "(Ljava/lang/String;)Lcom/example/waybill/waybill/board/Html;" } : Jvm.MethodName) prog_22_method_4_code (2 : Nat) (Option.some (Jvm.ClassFile.FieldType.object "com/example/waybill/waybill/board/Html"))).before args0 about1 = true := code_word (m := ⟨9, 1⟩) (meth := k9m1) (c := k9c1) (by decide +kernel) rfl rfl rfl (by decide +kernel)
set_option maxRecDepth 65536 in
theorem w_c21 : (Jvm.Cond.code ({ cls := "com/example/waybill/waybill/board/Html", name := "bytes", desc := "()[B" } : Jvm.MethodName) prog_22_method_8_code (1 : Nat) (Option.some (Jvm.ClassFile.FieldType.array Jvm.ClassFile.FieldType.byte))).before args0 about1 = true := code_word (m := ⟨9, 2⟩) (meth := k9m2) (c := k9c2) (by decide +kernel) rfl rfl rfl (by decide +kernel)
set_option maxRecDepth 65536 in
theorem w_c22 : (Jvm.Cond.code ({ cls := "java/lang/StringBuilder", name := "toString", desc := "()Ljava/lang/String;" } : Jvm.MethodName) jdk_67_method_42_code (1 : Nat) (Option.some (Jvm.ClassFile.FieldType.object "java/lang/String"))).before args0 about1 = true := code_word (m := ⟨12, 3⟩) (meth := k12m3) (c := k12c3) (by decide +kernel) rfl rfl rfl (by decide +kernel)
set_option maxRecDepth 65536 in
theorem w_c23 : (Jvm.Cond.code ({ cls := "java/lang/String", name := "<init>", desc := "(Ljava/lang/StringBuilder;)V" } : Jvm.MethodName) jdk_42_method_53_code (2 : Nat) (Option.none : Option Jvm.ClassFile.FieldType)).before args0 about1 = true := code_word (m := ⟨7, 4⟩) (meth := k7m4) (c := k7c4) (by decide +kernel) rfl rfl rfl (by decide +kernel)
set_option maxRecDepth 65536 in
theorem w_c24 : (Jvm.Cond.code ({ cls := "java/lang/String", name := "<init>", desc := "(Ljava/lang/AbstractStringBuilder;Ljava/lang/Void;)V" } : Jvm.MethodName) jdk_42_method_150_code (5 : Nat) (Option.none : Option Jvm.ClassFile.FieldType)).before args0 about1 = true := code_word (m := ⟨7, 9⟩) (meth := k7m9) (c := k7c9) (by decide +kernel) rfl rfl rfl (by decide +kernel)
set_option maxRecDepth 65536 in
theorem w_c25 : (Jvm.Cond.code ({ cls := "java/lang/AbstractStringBuilder", name := "getValue", desc := "()[B" } : Jvm.MethodName) jdk_68_method_64_code (1 : Nat) (Option.some (Jvm.ClassFile.FieldType.array Jvm.ClassFile.FieldType.byte))).before args0 about1 = true := code_word (m := ⟨11, 5⟩) (meth := k11m5) (c := k11c5) (by decide +kernel) rfl rfl rfl (by decide +kernel)
set_option maxRecDepth 65536 in
theorem w_c26 : (Jvm.Cond.code ({ cls := "java/lang/StringBuilder", name := "length", desc := "()I" } : Jvm.MethodName) jdk_67_method_93_code (1 : Nat) (Option.some Jvm.ClassFile.FieldType.int)).before args0 about1 = true := code_word (m := ⟨12, 5⟩) (meth := k12m5) (c := k12c5) (by decide +kernel) rfl rfl rfl (by decide +kernel)
set_option maxRecDepth 65536 in
theorem w_c27 : (Jvm.Cond.code ({ cls := "java/lang/AbstractStringBuilder", name := "length", desc := "()I" } : Jvm.MethodName) jdk_68_method_6_code (1 : Nat) (Option.some Jvm.ClassFile.FieldType.int)).before args0 about1 = true := code_word (m := ⟨11, 2⟩) (meth := k11m2) (c := k11c2) (by decide +kernel) rfl rfl rfl (by decide +kernel)
set_option maxRecDepth 65536 in
theorem w_c28 : (Jvm.Cond.code ({ cls := "java/lang/AbstractStringBuilder", name := "isLatin1", desc := "()Z" } : Jvm.MethodName) jdk_68_method_68_code (1 : Nat) (Option.some Jvm.ClassFile.FieldType.boolean)).before args0 about1 = true := code_word (m := ⟨11, 6⟩) (meth := k11m6) (c := k11c6) (by decide +kernel) rfl rfl rfl (by decide +kernel)
set_option maxRecDepth 65536 in
theorem w_c29 : (Jvm.Cond.code ({ cls := "java/util/Arrays", name := "copyOfRange", desc := "([BII)[B" } : Jvm.MethodName) jdk_65_method_132_code (3 : Nat) (Option.some (Jvm.ClassFile.FieldType.array Jvm.ClassFile.FieldType.byte))).before args0 about1 = true := code_word (m := ⟨14, 2⟩) (meth := k14m2) (c := k14c2) (by decide +kernel) rfl rfl rfl (by decide +kernel)
set_option maxRecDepth 65536 in
theorem w_c30 : (Jvm.Cond.code ({ cls := "java/util/Arrays", name := "copyOfRangeByte", desc := "([BII)[B" } : Jvm.MethodName) jdk_65_method_133_code (5 : Nat) (Option.some (Jvm.ClassFile.FieldType.array Jvm.ClassFile.FieldType.byte))).before args0 about1 = true := code_word (m := ⟨14, 3⟩) (meth := k14m3) (c := k14c3) (by decide +kernel) rfl rfl rfl (by decide +kernel)
set_option maxRecDepth 65536 in
theorem w_c31 : (Jvm.Cond.code ({ cls := "java/util/Arrays", name := "checkLength", desc := "(II)V" } : Jvm.MethodName) jdk_65_method_131_code (2 : Nat) (Option.none : Option Jvm.ClassFile.FieldType)).before args0 about1 = true := code_word (m := ⟨14, 1⟩) (meth := k14m1) (c := k14c1) (by decide +kernel) rfl rfl rfl (by decide +kernel)
set_option maxRecDepth 65536 in
theorem w_c32 : (Jvm.Cond.code ({ cls := "java/lang/Math", name := "min", desc := "(II)I" } : Jvm.MethodName) jdk_29_method_69_code (2 : Nat) (Option.some Jvm.ClassFile.FieldType.int)).before args0 about1 = true := code_word (m := ⟨15, 1⟩) (meth := k15m1) (c := k15c1) (by decide +kernel) rfl rfl rfl (by decide +kernel)
set_option maxRecDepth 65536 in
theorem w_c33 : (Jvm.Cond.code ({ cls := "java/lang/String", name := "getBytes", desc := "(Ljava/nio/charset/Charset;)[B" } : Jvm.MethodName) jdk_42_method_64_code (2 : Nat) (Option.some (Jvm.ClassFile.FieldType.array Jvm.ClassFile.FieldType.byte))).before args0 about1 = true := code_word (m := ⟨7, 6⟩) (meth := k7m6) (c := k7c6) (by decide +kernel) rfl rfl rfl (by decide +kernel)
set_option maxRecDepth 65536 in
theorem w_c34 : (Jvm.Cond.code ({ cls := "java/lang/String", name := "encode", desc := "(Ljava/nio/charset/Charset;B[B)[B" } : Jvm.MethodName) jdk_42_method_18_code (3 : Nat) (Option.some (Jvm.ClassFile.FieldType.array Jvm.ClassFile.FieldType.byte))).before args0 about1 = true := code_word (m := ⟨7, 2⟩) (meth := k7m2) (c := k7c2) (by decide +kernel) rfl rfl rfl (by decide +kernel)
set_option maxRecDepth 65536 in
theorem w_c35 : (Jvm.Cond.code ({ cls := "java/lang/String", name := "encodeUTF8", desc := "(B[BZ)[B" } : Jvm.MethodName) jdk_42_method_46_code (9 : Nat) (Option.some (Jvm.ClassFile.FieldType.array Jvm.ClassFile.FieldType.byte))).before args0 about1 = true := code_word (m := ⟨7, 3⟩) (meth := k7m3) (c := k7c3) (by decide +kernel) rfl rfl rfl (by decide +kernel)
set_option maxRecDepth 65536 in
theorem w_c36 : (Jvm.Cond.code ({ cls := "java/lang/StringCoding", name := "hasNegatives", desc := "([BII)Z" } : Jvm.MethodName) jdk_123_method_2_code (3 : Nat) (Option.some Jvm.ClassFile.FieldType.boolean)).before args0 about1 = true := code_word (m := ⟨21, 1⟩) (meth := k21m1) (c := k21c1) (by decide +kernel) rfl rfl rfl (by decide +kernel)
set_option maxRecDepth 65536 in
theorem w_c37 : (Jvm.Cond.code ({ cls := "java/lang/StringCoding", name := "countPositives", desc := "([BII)I" } : Jvm.MethodName) jdk_123_method_3_code (5 : Nat) (Option.some Jvm.ClassFile.FieldType.int)).before args0 about1 = true := code_word (m := ⟨21, 2⟩) (meth := k21m2) (c := k21c2) (by decide +kernel) rfl rfl rfl (by decide +kernel)
set_option maxRecDepth 65536 in
theorem w_c38 : (Jvm.Cond.code ({ cls := "com/example/waybill/waybill/board/HtmlClosePinLaw", name := "tail", desc := "([BI[C)Z" } : Jvm.MethodName) method_4_code (5 : Nat) (Option.some Jvm.ClassFile.FieldType.boolean)).before args0 about1 = true := code_word (m := ⟨1, 3⟩) (meth := k1m3) (c := k1c3) (by decide +kernel) rfl rfl rfl (by decide +kernel)
def codes1 : List Jvm.Cond := [Jvm.Cond.code x code maxLocals ret, Jvm.Cond.code ({ cls := "com/example/waybill/waybill/board/HtmlClosePinLaw", name := "name", desc := "(II)[C" } : Jvm.MethodName) method_3_code (4 : Nat) (Option.some (Jvm.ClassFile.FieldType.array Jvm.ClassFile.FieldType.char)), Jvm.Cond.code ({ cls := "java/lang/String", name := "<init>", desc := "([C)V" } : Jvm.MethodName) jdk_42_method_3_code (2 : Nat) (Option.none : Option Jvm.ClassFile.FieldType), Jvm.Cond.code ({ cls := "java/lang/String", name := "<init>", desc := "([CIILjava/lang/Void;)V" } : Jvm.MethodName) jdk_42_method_149_code (6 : Nat) (Option.none : Option Jvm.ClassFile.FieldType), Jvm.Cond.code ({ cls := "java/lang/Object", name := "<init>", desc := "()V" } : Jvm.MethodName) object_method_1_code (1 : Nat) (Option.none : Option Jvm.ClassFile.FieldType), Jvm.Cond.code ({ cls := "java/lang/StringUTF16", name := "compress", desc := "([CII)[B" } : Jvm.MethodName) jdk_52_method_16_code (6 : Nat) (Option.some (Jvm.ClassFile.FieldType.array Jvm.ClassFile.FieldType.byte)), Jvm.Cond.code ({ cls := "java/lang/StringUTF16", name := "compress", desc := "([CI[BII)I" } : Jvm.MethodName) jdk_52_method_21_code (7 : Nat) (Option.some Jvm.ClassFile.FieldType.int), Jvm.Cond.code ({ cls := "java/lang/StringUTF16", name := "coderFromArrayLen", desc := "([BI)B" } : Jvm.MethodName) jdk_52_method_15_code (2 : Nat) (Option.some Jvm.ClassFile.FieldType.byte), Jvm.Cond.code ({ cls := "com/example/waybill/waybill/board/Html", name := "<init>", desc := "()V" } : Jvm.MethodName) prog_22_method_1_code (1 : Nat) (Option.none : Option Jvm.ClassFile.FieldType), Jvm.Cond.code ({ cls := "java/lang/StringBuilder", name := "<init>", desc := "(Ljava/lang/String;)V" } : Jvm.MethodName) jdk_67_method_3_code (2 : Nat) (Option.none : Option Jvm.ClassFile.FieldType), Jvm.Cond.code ({ cls := "java/lang/AbstractStringBuilder", name := "<init>", desc := "(Ljava/lang/String;)V" } : Jvm.MethodName) jdk_68_method_3_code (5 : Nat) (Option.none : Option Jvm.ClassFile.FieldType), Jvm.Cond.code ({ cls := "java/lang/String", name := "length", desc := "()I" } : Jvm.MethodName) jdk_42_method_54_code (1 : Nat) (Option.some Jvm.ClassFile.FieldType.int), Jvm.Cond.code ({ cls := "java/lang/String", name := "coder", desc := "()B" } : Jvm.MethodName) jdk_42_method_152_code (1 : Nat) (Option.some Jvm.ClassFile.FieldType.byte), Jvm.Cond.code ({ cls := "java/lang/StringBuilder", name := "append", desc := "(Ljava/lang/String;)Ljava/lang/AbstractStringBuilder;" } : Jvm.MethodName) jdk_67_method_80_code (2 : Nat) (Option.some (Jvm.ClassFile.FieldType.object "java/lang/AbstractStringBuilder")), Jvm.Cond.code ({ cls := "java/lang/StringBuilder", name := "append", desc := "(Ljava/lang/String;)Ljava/lang/StringBuilder;" } : Jvm.MethodName) jdk_67_method_7_code (2 : Nat) (Option.some (Jvm.ClassFile.FieldType.object "java/lang/StringBuilder")), Jvm.Cond.code ({ cls := "java/lang/AbstractStringBuilder", name := "append", desc := "(Ljava/lang/String;)Ljava/lang/AbstractStringBuilder;" } : Jvm.MethodName) jdk_68_method_22_code (3 : Nat) (Option.some (Jvm.ClassFile.FieldType.object "java/lang/AbstractStringBuilder")), Jvm.Cond.code ({ cls := "java/lang/AbstractStringBuilder", name := "ensureCapacityInternal", desc := "(I)V" } : Jvm.MethodName) jdk_68_method_9_code (3 : Nat) (Option.none : Option Jvm.ClassFile.FieldType), Jvm.Cond.code ({ cls := "java/lang/AbstractStringBuilder", name := "putStringAt", desc := "(ILjava/lang/String;)V" } : Jvm.MethodName) jdk_68_method_73_code (3 : Nat) (Option.none : Option Jvm.ClassFile.FieldType), Jvm.Cond.code ({ cls := "java/lang/AbstractStringBuilder", name := "inflateIfNeededFor", desc := "(Ljava/lang/String;)V" } : Jvm.MethodName) jdk_68_method_71_code (2 : Nat) (Option.none : Option Jvm.ClassFile.FieldType), Jvm.Cond.code ({ cls := "java/lang/String", name := "getBytes", desc := "([BIB)V" } : Jvm.MethodName) jdk_42_method_147_code (4 : Nat) (Option.none : Option Jvm.ClassFile.FieldType), Jvm.Cond.code ({ cls := "com/example/waybill/waybill/board/Html", name := "close", desc := "(Ljava/lang/String;)Lcom/example/waybill/waybill/board/Html;" } : Jvm.MethodName) prog_22_method_4_code (2 : Nat) (Option.some (Jvm.ClassFile.FieldType.object "com/example/waybill/waybill/board/Html")), Jvm.Cond.code ({ cls := "com/example/waybill/waybill/board/Html", name := "bytes", desc := "()[B" } : Jvm.MethodName) prog_22_method_8_code (1 : Nat) (Option.some (Jvm.ClassFile.FieldType.array Jvm.ClassFile.FieldType.byte)), Jvm.Cond.code ({ cls := "java/lang/StringBuilder", name := "toString", desc := "()Ljava/lang/String;" } : Jvm.MethodName) jdk_67_method_42_code (1 : Nat) (Option.some (Jvm.ClassFile.FieldType.object "java/lang/String")), Jvm.Cond.code ({ cls := "java/lang/String", name := "<init>", desc := "(Ljava/lang/StringBuilder;)V" } : Jvm.MethodName) jdk_42_method_53_code (2 : Nat) (Option.none : Option Jvm.ClassFile.FieldType), Jvm.Cond.code ({ cls := "java/lang/String", name := "<init>", desc := "(Ljava/lang/AbstractStringBuilder;Ljava/lang/Void;)V" } : Jvm.MethodName) jdk_42_method_150_code (5 : Nat) (Option.none : Option Jvm.ClassFile.FieldType), Jvm.Cond.code ({ cls := "java/lang/AbstractStringBuilder", name := "getValue", desc := "()[B" } : Jvm.MethodName) jdk_68_method_64_code (1 : Nat) (Option.some (Jvm.ClassFile.FieldType.array Jvm.ClassFile.FieldType.byte)), Jvm.Cond.code ({ cls := "java/lang/StringBuilder", name := "length", desc := "()I" } : Jvm.MethodName) jdk_67_method_93_code (1 : Nat) (Option.some Jvm.ClassFile.FieldType.int), Jvm.Cond.code ({ cls := "java/lang/AbstractStringBuilder", name := "length", desc := "()I" } : Jvm.MethodName) jdk_68_method_6_code (1 : Nat) (Option.some Jvm.ClassFile.FieldType.int), Jvm.Cond.code ({ cls := "java/lang/AbstractStringBuilder", name := "isLatin1", desc := "()Z" } : Jvm.MethodName) jdk_68_method_68_code (1 : Nat) (Option.some Jvm.ClassFile.FieldType.boolean), Jvm.Cond.code ({ cls := "java/util/Arrays", name := "copyOfRange", desc := "([BII)[B" } : Jvm.MethodName) jdk_65_method_132_code (3 : Nat) (Option.some (Jvm.ClassFile.FieldType.array Jvm.ClassFile.FieldType.byte)), Jvm.Cond.code ({ cls := "java/util/Arrays", name := "copyOfRangeByte", desc := "([BII)[B" } : Jvm.MethodName) jdk_65_method_133_code (5 : Nat) (Option.some (Jvm.ClassFile.FieldType.array Jvm.ClassFile.FieldType.byte)), Jvm.Cond.code ({ cls := "java/util/Arrays", name := "checkLength", desc := "(II)V" } : Jvm.MethodName) jdk_65_method_131_code (2 : Nat) (Option.none : Option Jvm.ClassFile.FieldType), Jvm.Cond.code ({ cls := "java/lang/Math", name := "min", desc := "(II)I" } : Jvm.MethodName) jdk_29_method_69_code (2 : Nat) (Option.some Jvm.ClassFile.FieldType.int), Jvm.Cond.code ({ cls := "java/lang/String", name := "getBytes", desc := "(Ljava/nio/charset/Charset;)[B" } : Jvm.MethodName) jdk_42_method_64_code (2 : Nat) (Option.some (Jvm.ClassFile.FieldType.array Jvm.ClassFile.FieldType.byte)), Jvm.Cond.code ({ cls := "java/lang/String", name := "encode", desc := "(Ljava/nio/charset/Charset;B[B)[B" } : Jvm.MethodName) jdk_42_method_18_code (3 : Nat) (Option.some (Jvm.ClassFile.FieldType.array Jvm.ClassFile.FieldType.byte)), Jvm.Cond.code ({ cls := "java/lang/String", name := "encodeUTF8", desc := "(B[BZ)[B" } : Jvm.MethodName) jdk_42_method_46_code (9 : Nat) (Option.some (Jvm.ClassFile.FieldType.array Jvm.ClassFile.FieldType.byte)), Jvm.Cond.code ({ cls := "java/lang/StringCoding", name := "hasNegatives", desc := "([BII)Z" } : Jvm.MethodName) jdk_123_method_2_code (3 : Nat) (Option.some Jvm.ClassFile.FieldType.boolean), Jvm.Cond.code ({ cls := "java/lang/StringCoding", name := "countPositives", desc := "([BII)I" } : Jvm.MethodName) jdk_123_method_3_code (5 : Nat) (Option.some Jvm.ClassFile.FieldType.int), Jvm.Cond.code ({ cls := "com/example/waybill/waybill/board/HtmlClosePinLaw", name := "tail", desc := "([BI[C)Z" } : Jvm.MethodName) method_4_code (5 : Nat) (Option.some Jvm.ClassFile.FieldType.boolean)]
set_option maxRecDepth 65536 in
theorem codes_eq : words1.filter isCode = codes1 := rfl
theorem w_codes : ∀ c ∈ words1.filter isCode, c.before args0 about1 = true := by
  rw [codes_eq]
  intro c hc
  simp only [codes1, List.mem_cons, List.not_mem_nil, or_false] at hc
  rcases hc with rfl | rfl | rfl | rfl | rfl | rfl | rfl | rfl | rfl | rfl | rfl | rfl | rfl | rfl | rfl | rfl | rfl | rfl | rfl | rfl | rfl | rfl | rfl | rfl | rfl | rfl | rfl | rfl | rfl | rfl | rfl | rfl | rfl | rfl | rfl | rfl | rfl | rfl | rfl
  · exact w_c0
  · exact w_c1
  · exact w_c2
  · exact w_c3
  · exact w_c4
  · exact w_c5
  · exact w_c6
  · exact w_c7
  · exact w_c8
  · exact w_c9
  · exact w_c10
  · exact w_c11
  · exact w_c12
  · exact w_c13
  · exact w_c14
  · exact w_c15
  · exact w_c16
  · exact w_c17
  · exact w_c18
  · exact w_c19
  · exact w_c20
  · exact w_c21
  · exact w_c22
  · exact w_c23
  · exact w_c24
  · exact w_c25
  · exact w_c26
  · exact w_c27
  · exact w_c28
  · exact w_c29
  · exact w_c30
  · exact w_c31
  · exact w_c32
  · exact w_c33
  · exact w_c34
  · exact w_c35
  · exact w_c36
  · exact w_c37
  · exact w_c38
set_option maxRecDepth 65536 in
theorem w_t1 : (words1.take 24).all (fun c => isCode c || c.before args0 about1) = true := by decide +kernel
set_option maxRecDepth 65536 in
theorem w_t2 : ((words1.drop 24).take 24).all (fun c => isCode c || c.before args0 about1) = true := by decide +kernel
set_option maxRecDepth 65536 in
theorem w_t3 : (((words1.drop 24).drop 24).take 24).all (fun c => isCode c || c.before args0 about1) = true := by decide +kernel
set_option maxRecDepth 65536 in
theorem w_t4 : ((((words1.drop 24).drop 24).drop 24).take 24).all (fun c => isCode c || c.before args0 about1) = true := by decide +kernel
set_option maxRecDepth 65536 in
theorem w_t5 : (((((words1.drop 24).drop 24).drop 24).drop 24).take 24).all (fun c => isCode c || c.before args0 about1) = true := by decide +kernel
set_option maxRecDepth 65536 in
theorem w_t6 : ((((((words1.drop 24).drop 24).drop 24).drop 24).drop 24).take 24).all (fun c => isCode c || c.before args0 about1) = true := by decide +kernel
set_option maxRecDepth 65536 in
theorem w_t7 : (((((((words1.drop 24).drop 24).drop 24).drop 24).drop 24).drop 24).take 24).all (fun c => isCode c || c.before args0 about1) = true := by decide +kernel
set_option maxRecDepth 65536 in
theorem w_t8 : ((((((((words1.drop 24).drop 24).drop 24).drop 24).drop 24).drop 24).drop 24).take 24).all (fun c => isCode c || c.before args0 about1) = true := by decide +kernel
set_option maxRecDepth 65536 in
theorem w_t9 : ((((((((words1.drop 24).drop 24).drop 24).drop 24).drop 24).drop 24).drop 24).drop 24).all (fun c => isCode c || c.before args0 about1) = true := by decide +kernel
theorem w_tables : (allAtoms (Jvm.Cond.code x code maxLocals ret :: tables_1)).before args0 about1 = true := by
  rw [allAtoms_all]
  show words1.all (fun c => c.before args0 about1) = true
  refine all_split ?_ w_codes
  rw [← List.take_append_drop 24 words1, List.all_append, w_t1, ← List.take_append_drop 24 (words1.drop 24), List.all_append, w_t2, ← List.take_append_drop 24 ((words1.drop 24).drop 24), List.all_append, w_t3, ← List.take_append_drop 24 (((words1.drop 24).drop 24).drop 24), List.all_append, w_t4, ← List.take_append_drop 24 ((((words1.drop 24).drop 24).drop 24).drop 24), List.all_append, w_t5, ← List.take_append_drop 24 (((((words1.drop 24).drop 24).drop 24).drop 24).drop 24), List.all_append, w_t6, ← List.take_append_drop 24 ((((((words1.drop 24).drop 24).drop 24).drop 24).drop 24).drop 24), List.all_append, w_t7, ← List.take_append_drop 24 (((((((words1.drop 24).drop 24).drop 24).drop 24).drop 24).drop 24).drop 24), List.all_append, w_t8, w_t9]
  rfl
set_option maxRecDepth 65536 in
theorem w_rest : rest_1_c.before args0 about1 = true := by decide +kernel
set_option maxRecDepth 65536 in
theorem w_case : (Jvm.Cond.and given_1 narrow_1).before args0 about1 = true := by decide +kernel
set_option maxRecDepth 65536 in
theorem w_consts : constsHeld consts_1 about1 := Jvm.Lit.constsHeldB_iff.mp (by decide +kernel)
theorem w_applies : (headSpec (Jvm.Cond.code x code maxLocals ret :: tables_1) room_1).applies x e0.platform about1 = true :=
  (Spec.applies_iff w_frames).mpr ⟨w_running, w_runnable, w_alone, w_named, w_hears, w_ripe, w_room, w_tables⟩
theorem atStart : AtStart classFile x code maxLocals ret World_1 tables_1 room_1 Calls_1 rest_1 Pre_1 launch0 p0 e0 about1 theMethod args0 below0 :=
  ⟨lists_1, trivial, launch0.admits_env _ _ _, launch0.least_env, fairChoices_fair.cas, fairChoices_fair.clock, w_frames, w_args, w_heap, w_applies, ⟨w_consts, trivial⟩, w_rest, w_case⟩
end start1
theorem witness_1 : WitnessClaimed_1 := ⟨start1.p0, start1.e0, start1.about1, start1.theMethod, start1.args0, start1.below0, start1.atStart⟩
end Jvm.Pilot.@@N@@
