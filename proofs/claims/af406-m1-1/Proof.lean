import JvmDerived
import JvmDerived.Pilot.@@N@@Statement
import JvmDerived.Pilot.@@N@@Code
set_option linter.unusedVariables false
set_option linter.unusedSimpArgs false
@@BLOCK:NumsL.lean.txt@@
namespace Jvm.RoadKit
open Sem ClassFile Op Lib Jvm.Stand Jvm.Free Jvm.LawKit
section New
variable {p : Program} {l : Launch} {e : Env} {R : Room} {s : State} {m : MethodId} {args : Array Value} {below : List Frame} {meth : Method} {c : Code} {T : State} {locs : List Loc} {cells slots : Nat}
theorem retI (X : Stand p l e R s m args below meth c T locs cells slots) (hx : p.tables.exec = Jvm.exec) {pc : Nat} {Ls : Array Slot} {z : Int32} {rest : List Value} (hret : meth.sig.returnType = some .int) (hd : decode c.code pc = .ok (.ireturn, 1)) {fs : List Frame}
    (hl : ∀ (f : JFrame) (acts : List Action), f.method = m → f.locked = none → f.entered = [] → (doReturn e (T.setTop f) acts (some (.int z))).1 = T.setFrames fs) : Steps p.tables e below (T.setTop (mkF m pc Ls (.int z :: rest))) (T.setFrames fs) := by
  have hm' : T.vm.method? m = some meth := X.method'
  have hn : narrow .int (.int z) = .int z := rfl
  show Steps p.tables e below (T.setTop { method := m, pc := pc, locals := Ls, stack := _ :: rest, locked := none }) _
  jvm_step X.here [X.here.top, hx, hd, hm', hret, hn]
  first | (intro acts; rw [hl _ acts rfl rfl rfl]) | rw [hl _ _ rfl rfl rfl]
  exact Steps.refl _
theorem retD (X : Stand p l e R s m args below meth c T locs cells slots) (hx : p.tables.exec = Jvm.exec) {pc : Nat} {Ls : Array Slot} {z : UInt64} {rest : List Value} (hret : meth.sig.returnType = some .double) (hd : decode c.code pc = .ok (.dreturn, 1)) {fs : List Frame}
    (hl : ∀ (f : JFrame) (acts : List Action), f.method = m → f.locked = none → f.entered = [] → (doReturn e (T.setTop f) acts (some (.double z))).1 = T.setFrames fs) : Steps p.tables e below (T.setTop (mkF m pc Ls (.double z :: rest))) (T.setFrames fs) := by
  have hm' : T.vm.method? m = some meth := X.method'
  show Steps p.tables e below (T.setTop { method := m, pc := pc, locals := Ls, stack := _ :: rest, locked := none }) _
  jvm_step X.here [X.here.top, hx, hd, hm', hret, narrow]
  first | (intro acts; rw [hl _ acts rfl rfl rfl]) | (refine ⟨meth, hm', ⟨_, hret, rfl⟩, fun acts => ?_⟩; rw [hl _ acts rfl rfl rfl])
  exact Steps.refl _
theorem retA (X : Stand p l e R s m args below meth c T locs cells slots) (hx : p.tables.exec = Jvm.exec) {pc : Nat} {Ls : Array Slot} {v : Value} {rest : List Value} {t : FieldType} (hret : meth.sig.returnType = some t) (ht : t.isReference = true) (hv : v.isRef = true) (hd : decode c.code pc = .ok (.areturn, 1)) {fs : List Frame}
    (hl : ∀ (f : JFrame) (acts : List Action), f.method = m → f.locked = none → f.entered = [] → (doReturn e (T.setTop f) acts (some v)).1 = T.setFrames fs) : Steps p.tables e below (T.setTop (mkF m pc Ls (v :: rest))) (T.setFrames fs) := by
  have hm' : T.vm.method? m = some meth := X.method'
  show Steps p.tables e below (T.setTop { method := m, pc := pc, locals := Ls, stack := _ :: rest, locked := none }) _
  jvm_step X.here [X.here.top, hx, hd, hm', hret, hv, ht]
  first | (intro acts; rw [hl _ acts rfl rfl rfl]) | (refine ⟨meth, hm', ⟨_, hret, rfl⟩, fun acts => ?_⟩; rw [hl _ acts rfl rfl rfl])
  exact Steps.refl _
end New
end Jvm.RoadKit
namespace Jvm.RoadKit
open Sem ClassFile Op Lib Bundle Jvm.Stand Jvm.Free Jvm.LawKit Jvm.Free.SB Jvm.Free.SBG
theorem own_wsz {h h' : Heap} {a : Addr} {j : Nat} {v : Value} (W : Wr h h' a j v) : h'.size = h.size := by
  obtain ⟨c, -, -, -, rfl⟩ := W; simp
end Jvm.RoadKit
namespace Jvm.RoadKit
open Sem ClassFile Op Lib Bundle Jvm.Stand Jvm.Free Jvm.LawKit
/-- the class of that name is there and no interface -/
def own_NI (Z : State) (C : String) : Prop := ∃ c k, Z.vm.findClass C = some c ∧ Z.vm.classes[c]? = some k ∧ k.isInterface = false
theorem own_NI_of {Z : State} {a0 : Array Value} {C : String} {y : MethodName} (w : (Cond.selects C y y).before a0 Z = true) : own_NI Z y.cls := by
  obtain ⟨c, r, m, -, -, q3, -, k, hk, hi⟩ := Cond.selects_spec w
  exact ⟨m.cls, k, findClass_of_methodNamed q3, hk, hi⟩
theorem own_selself {Z : State} {a0 : Array Value} {C : String} {y : MethodName} (w : (Cond.selects C y y).before a0 Z = true) (wp : (Cond.privateMethod y).before a0 Z = true) (wi : (Cond.instanceMethod y).before a0 Z = true) (hy : y.cls ≠ "java/lang/invoke/MethodHandle" ∧ y.cls ≠ "java/lang/invoke/VarHandle") : (Cond.selects y.cls y y).before a0 Z = true := by
  obtain ⟨c, k, h1, h2, h3⟩ := own_NI_of w
  exact Stand.selects_self_of_private h1 h2 h3 (Cond.privateMethod_at wp) wi hy
end Jvm.RoadKit
namespace Jvm.RoadKit
open Sem ClassFile Op Lib Bundle Jvm.Stand Jvm.Free Jvm.LawKit
section OwnM
variable {p : Program} {l : Launch} {e : Env} {R : Room} {s : State} {m : MethodId} {args : Array Value} {below : List Frame} {meth : Method} {c : Code} {T : State} {locs : List Loc} {cells slots : Nat} {Z : State} {h : Heap} {a : Addr} {C : String}
/-- the Class object of C stands at m -/
def own_Mi (Z : State) (C : String) (m : Addr) : Prop := ∃ (c : ClassId) (k : Class), Z.vm.findClass C = some c ∧ Z.vm.classes[c]? = some k ∧ k.mirror = some m
theorem own_ldcM (X : Stand p l e R s m args below meth c T locs cells slots) (hx : p.tables.exec = Jvm.exec) (hZ : Z.Warmed39 s.vm) {a0 : Array Value} {own : String} {index : Nat} (hown : s.vm.findClass own = some m.cls) (w : (Cond.classLink own index C).before a0 Z = true) (eT : T.heap = h) (M : own_Mi Z C a)
    {g : JFrame} (hg : g.method = m) (hd : decode c.code g.pc = .ok (.ldc index, 2)) : ∃ T', Stand p l e R s m args below meth c T' locs cells slots ∧ T'.heap = h ∧ ∀ target, Steps p.tables e below (T'.setTop { g with pc := g.pc + 2, stack := .ref a :: g.stack }) target → Steps p.tables e below (T.setTop g) target := by
  obtain ⟨cc, kc, m1, m2, m3⟩ := M
  obtain ⟨k', q, ek⟩ := hZ.alike.2.2 _ _ m2
  have hev : (Term.mirror C).eval args s none [] s = some (.ref a) := by
    simp only [Term.eval, Option.bind_eq_bind, Option.bind_eq_some_iff, Option.pure_def, Option.some.injEq]
    exact ⟨cc, by rw [hZ.alike.findClass]; exact m1, k', q, a, by rw [ek]; exact m3, rfl⟩
  obtain ⟨vm', X', st⟩ := X.ldcMirror hx hown (mv hZ w) hev hg hd
  exact ⟨_, X', eT, st⟩
theorem own_gcls (X : Stand p l e R s m args below meth c T locs cells slots) (hx : p.tables.exec = Jvm.exec) (hZ : Z.Warmed39 s.vm) {a0 : Array Value} {own : String} {index : Nat} (hown : s.vm.findClass own = some m.cls)
    (w1 : (Cond.methodLink own index Jvm.Stand.gcN).before a0 Z = true) (w2 : (Cond.declares Jvm.Stand.gcN).before a0 Z = true) (w3 : (Cond.noSuperclass "java/lang/Object").before a0 Z = true) (w4 : (Cond.selects C Jvm.Stand.gcN Jvm.Stand.gcN).before a0 Z = true)
    (w5 : (Cond.instanceMethod Jvm.Stand.gcN).before a0 Z = true) (w6 : (Cond.native Jvm.Stand.gcN).before a0 Z = true) (eT : T.heap = h) (E : Exa Z h a C) {mr : Addr} (M : own_Mi Z C mr)
    {g : JFrame} (hg : g.method = m) (hsize : g.locals.size = c.maxLocals) {rest : List Value} (hs : g.stack = .ref a :: rest) (hd : decode c.code g.pc = .ok (.invokevirtual index, 3)) (hf : 1 ≤ R.frames) {W : Nat} (hW : 2 * g.monitorRoom + (rest.map fun v => v.category).sum ≤ W) (hl : W + (nativeFrameWords "java/lang/Object" "getClass" 1 + 11) ≤ R.locals) :
    ∃ T', Stand p l e R s m args below meth c T' locs cells slots ∧ T'.heap = h ∧ ∀ target, Steps p.tables e below (T'.setTop { g with pc := g.pc + 3, stack := .ref mr :: rest }) target → Steps p.tables e below (T.setTop g) target := by
  obtain ⟨cB, kB, i1, i2, i3⟩ := isOf hZ eT E
  obtain ⟨cc, kc, m1, m2, m3⟩ := M
  rw [hZ.alike.findClass] at i1
  cases i1.symm.trans m1
  obtain ⟨k', q, ek⟩ := hZ.alike.2.2 _ _ m2
  obtain ⟨vm', X', st⟩ := X.getClassOf hx hown (mvT hZ w1) (mvT hZ w2) (nf_top (args := #[]) (mvT hZ w3)) (mvT hZ w4) (mvT hZ w5) (mvT hZ w6) (by rw [hZ.alike.findClass]; exact m1) i3 q (by rw [ek]; exact m3) hg hsize hs hd hf (by omega)
  exact ⟨_, X', eT, st⟩
theorem own_rides {a0 a1 : Array Value} (hZ : Z.Warmed39 s.vm) {ref owner name desc : String} (w : (Cond.interfaceMethod ref owner name desc).before a0 Z = true) : (Cond.interfaceMethod ref owner name desc).before a1 s = true := by
  have hal := hZ.alike
  have h1 : (Cond.interfaceMethod ref owner name desc).before a1 (Z.setVm s.vm) = (Cond.interfaceMethod ref owner name desc).before a0 Z := by
    simp only [Cond.before, Cond.holds, Cond.value, State.vm_setVm, hal.findClass, State.methodFound?_setVm hal, State.methodNamed?_setVm hal, arm_isInterface_setVm hal]
  have h2 : (Cond.interfaceMethod ref owner name desc).before a1 s = (Cond.interfaceMethod ref owner name desc).before a1 (Z.setVm s.vm) := rfl
  rw [h2, h1]; exact w
theorem own_gclsI (X : Stand p l e R s m args below meth c T locs cells slots) (hx : p.tables.exec = Jvm.exec) (hZ : Z.Warmed39 s.vm) {a0 : Array Value} {own I : String} {index count : Nat} (hown : s.vm.findClass own = some m.cls)
    (w1 : (Cond.methodLink own index ⟨I, "getClass", "()Ljava/lang/Class;"⟩).before a0 Z = true) (w2 : (Cond.declares Jvm.Stand.gcN).before a0 Z = true) (w3 : (Cond.interfaceMethod I "java/lang/Object" "getClass" "()Ljava/lang/Class;").before a0 Z = true) (w4 : (Cond.selects C ⟨I, "getClass", "()Ljava/lang/Class;"⟩ Jvm.Stand.gcN).before a0 Z = true)
    (w5 : (Cond.instanceMethod Jvm.Stand.gcN).before a0 Z = true) (w6 : (Cond.native Jvm.Stand.gcN).before a0 Z = true) (w7 : (Cond.publicMethod Jvm.Stand.gcN).before a0 Z = true) (w8 : (Cond.unhidden C "getClass" "()Ljava/lang/Class;").before a0 Z = true) (w9 : (Cond.castable C I).before a0 Z = true) (hI : I ≠ "java/lang/invoke/MethodHandle" ∧ I ≠ "java/lang/invoke/VarHandle") (hI2 : I ≠ "java/lang/Object")
    (eT : T.heap = h) (E : Exa Z h a C) {mr : Addr} (M : own_Mi Z C mr)
    {g : JFrame} (hg : g.method = m) (hsize : g.locals.size = c.maxLocals) {rest : List Value} (hs : g.stack = .ref a :: rest) (hd : decode c.code g.pc = .ok (.invokeinterface index count, 5)) (hf : 1 ≤ R.frames) {W : Nat} (hW : 2 * g.monitorRoom + (rest.map fun v => v.category).sum ≤ W) (hl : W + (nativeFrameWords "java/lang/Object" "getClass" 1 + 11) ≤ R.locals) :
    ∃ T', Stand p l e R s m args below meth c T' locs cells slots ∧ T'.heap = h ∧ ∀ target, Steps p.tables e below (T'.setTop { g with pc := g.pc + 5, stack := .ref mr :: rest }) target → Steps p.tables e below (T.setTop g) target := by
  obtain ⟨cB, kB, i1, i2, i3⟩ := isOf hZ eT E
  obtain ⟨cc, kc, m1, m2, m3⟩ := M
  have i1' := i1
  rw [hZ.alike.findClass] at i1'
  cases i1'.symm.trans m1
  obtain ⟨k', q, ek⟩ := hZ.alike.2.2 _ _ m2
  obtain ⟨vm', X', st⟩ := X.getClassOfI hx hown (mvT hZ w1) (mvT hZ w2) (own_rides hZ w3) (mvT hZ w4) (mvT hZ w5) (mvT hZ w7) (mvT hZ w8) (mvT hZ w9) (mvT hZ w6) hI hI2 rfl rfl i1 q i3 (by rw [ek]; exact m3) hg hsize hs hd hf (by omega)
  exact ⟨_, X', eT, st⟩
end OwnM
end Jvm.RoadKit
namespace Jvm.Pilot.@@N@@
open Jvm Jvm.ClassFile Sem Op Lib Jvm.Free Jvm.Stand Jvm.LawKit Jvm.RoadKit Bundle Jvm.Pilot.@@N@@.Jvm.D
theorem pn0 : plainName "com/example/spanfold/spanfold/Expression" = true := by first | (simp [plainName, overriddenIn]; done) | decide +kernel
theorem pn1 : plainName "com/example/spanfold/spanfold/InputMatchedPinLaw" = true := by first | (simp [plainName, overriddenIn]; done) | decide +kernel
theorem pn2 : plainName "com/example/spanfold/spanfold/Input" = true := by first | (simp [plainName, overriddenIn]; done) | decide +kernel
theorem pd0 : parseMethodDescriptor "()V" = some ⟨[], none⟩ := by decide +kernel
theorem pd1 : parseMethodDescriptor "(Ljava/lang/Object;)Ljava/lang/Object;" = some ⟨[(.object "java/lang/Object")], some (.object "java/lang/Object")⟩ := by decide +kernel
theorem pd2 : parseMethodDescriptor "(II)I" = some ⟨[.int, .int], some .int⟩ := by decide +kernel
theorem pd3 : parseMethodDescriptor "([Ljava/lang/Object;ILjava/lang/Class;)[Ljava/lang/Object;" = some ⟨[(.array (.object "java/lang/Object")), .int, (.object "java/lang/Class")], some (.array (.object "java/lang/Object"))⟩ := by decide +kernel
theorem pd4 : parseMethodDescriptor "([Ljava/lang/Object;I)[Ljava/lang/Object;" = some ⟨[(.array (.object "java/lang/Object")), .int], some (.array (.object "java/lang/Object"))⟩ := by decide +kernel
theorem pd5 : parseMethodDescriptor "(Ljava/lang/Object;)V" = some ⟨[(.object "java/lang/Object")], none⟩ := by decide +kernel
theorem pd6 : parseMethodDescriptor "([Ljava/lang/Object;Z)V" = some ⟨[(.array (.object "java/lang/Object")), .boolean], none⟩ := by decide +kernel
theorem pd7 : parseMethodDescriptor "([Ljava/lang/Object;)Ljava/util/List;" = some ⟨[(.array (.object "java/lang/Object"))], some (.object "java/util/List")⟩ := by decide +kernel
theorem pd8 : parseMethodDescriptor "(Ljava/lang/Object;Ljava/lang/Object;)V" = some ⟨[(.object "java/lang/Object"), (.object "java/lang/Object")], none⟩ := by decide +kernel
theorem pd9 : parseMethodDescriptor "(IILjava/util/function/BiFunction;)I" = some ⟨[.int, .int, (.object "java/util/function/BiFunction")], some .int⟩ := by decide +kernel
theorem pd10 : parseMethodDescriptor "(I)Ljava/lang/Object;" = some ⟨[.int], some (.object "java/lang/Object")⟩ := by decide +kernel
theorem pd11 : parseMethodDescriptor "(III)I" = some ⟨[.int, .int, .int], some .int⟩ := by decide +kernel
theorem pd12 : parseMethodDescriptor "(I)[Ljava/lang/Object;" = some ⟨[.int], some (.array (.object "java/lang/Object"))⟩ := by decide +kernel
theorem pd13 : parseMethodDescriptor "()[Ljava/lang/Object;" = some ⟨[], some (.array (.object "java/lang/Object"))⟩ := by decide +kernel
theorem pd14 : parseMethodDescriptor "(Ljava/lang/Object;[Ljava/lang/Object;I)V" = some ⟨[(.object "java/lang/Object"), (.array (.object "java/lang/Object")), .int], none⟩ := by decide +kernel
theorem pd15 : parseMethodDescriptor "(Ljava/util/ArrayList;)V" = some ⟨[(.object "java/util/ArrayList")], none⟩ := by decide +kernel
theorem pd16 : parseMethodDescriptor "([CI[BII)I" = some ⟨[(.array .char), .int, (.array .byte), .int, .int], some .int⟩ := by decide +kernel
theorem pd17 : parseMethodDescriptor "([CII)[B" = some ⟨[(.array .char), .int, .int], some (.array .byte)⟩ := by decide +kernel
theorem pd18 : parseMethodDescriptor "([BI)B" = some ⟨[(.array .byte), .int], some .byte⟩ := by decide +kernel
theorem pd19 : parseMethodDescriptor "([CIILjava/lang/Void;)V" = some ⟨[(.array .char), .int, .int, (.object "java/lang/Void")], none⟩ := by decide +kernel
theorem pd20 : parseMethodDescriptor "([C)V" = some ⟨[(.array .char)], none⟩ := by decide +kernel
theorem pd21 : parseMethodDescriptor "(I[BII)I" = some ⟨[.int, (.array .byte), .int, .int], some .int⟩ := by decide +kernel
theorem pd22 : parseMethodDescriptor "(Ljava/lang/Object;IIII)I" = some ⟨[(.object "java/lang/Object"), .int, .int, .int, .int], some .int⟩ := by decide +kernel
theorem pd23 : parseMethodDescriptor "()Z" = some ⟨[], some .boolean⟩ := by decide +kernel
theorem pd24 : parseMethodDescriptor "([B)I" = some ⟨[(.array .byte)], some .int⟩ := by decide +kernel
theorem pd25 : parseMethodDescriptor "()I" = some ⟨[], some .int⟩ := by decide +kernel
theorem pd26 : parseMethodDescriptor "(ILjava/lang/Object;Ljava/lang/Object;Ljava/util/HashMap$Node;)V" = some ⟨[.int, (.object "java/lang/Object"), (.object "java/lang/Object"), (.object "java/util/HashMap$Node")], none⟩ := by decide +kernel
theorem pd27 : parseMethodDescriptor "()[Ljava/util/HashMap$Node;" = some ⟨[], some (.array (.object "java/util/HashMap$Node"))⟩ := by decide +kernel
theorem pd28 : parseMethodDescriptor "(ILjava/lang/Object;Ljava/lang/Object;Ljava/util/HashMap$Node;)Ljava/util/HashMap$Node;" = some ⟨[.int, (.object "java/lang/Object"), (.object "java/lang/Object"), (.object "java/util/HashMap$Node")], some (.object "java/util/HashMap$Node")⟩ := by decide +kernel
theorem pd29 : parseMethodDescriptor "(Z)V" = some ⟨[.boolean], none⟩ := by decide +kernel
theorem pd30 : parseMethodDescriptor "(Ljava/lang/Object;)I" = some ⟨[(.object "java/lang/Object")], some .int⟩ := by decide +kernel
theorem pd31 : parseMethodDescriptor "(ILjava/lang/Object;Ljava/lang/Object;ZZ)Ljava/lang/Object;" = some ⟨[.int, (.object "java/lang/Object"), (.object "java/lang/Object"), .boolean, .boolean], some (.object "java/lang/Object")⟩ := by decide +kernel
theorem pd32 : parseMethodDescriptor "(Ljava/lang/Object;Ljava/lang/Object;)Ljava/lang/Object;" = some ⟨[(.object "java/lang/Object"), (.object "java/lang/Object")], some (.object "java/lang/Object")⟩ := by decide +kernel
theorem pd33 : parseMethodDescriptor "(Ljava/util/Collection;)Ljava/util/List;" = some ⟨[(.object "java/util/Collection")], some (.object "java/util/List")⟩ := by decide +kernel
theorem pd34 : parseMethodDescriptor "()Ljava/lang/Object;" = some ⟨[], some (.object "java/lang/Object")⟩ := by decide +kernel
theorem pd35 : parseMethodDescriptor "(Ljava/lang/Object;)Z" = some ⟨[(.object "java/lang/Object")], some .boolean⟩ := by decide +kernel
theorem pd36 : parseMethodDescriptor "(Ljava/lang/Object;Ljava/lang/String;)Ljava/lang/Object;" = some ⟨[(.object "java/lang/Object"), (.object "java/lang/String")], some (.object "java/lang/Object")⟩ := by decide +kernel
theorem pd37 : parseMethodDescriptor "(Ljava/lang/Object;Ljava/lang/Object;Ljava/lang/Object;)Ljava/util/List;" = some ⟨[(.object "java/lang/Object"), (.object "java/lang/Object"), (.object "java/lang/Object")], some (.object "java/util/List")⟩ := by decide +kernel
theorem pd38 : parseMethodDescriptor "(Ljava/util/Collection;)V" = some ⟨[(.object "java/util/Collection")], none⟩ := by decide +kernel
theorem pd39 : parseMethodDescriptor "(Ljava/util/Collection;)Z" = some ⟨[(.object "java/util/Collection")], some .boolean⟩ := by decide +kernel
theorem pd40 : parseMethodDescriptor "()Ljava/util/Iterator;" = some ⟨[], some (.object "java/util/Iterator")⟩ := by decide +kernel
theorem pd41 : parseMethodDescriptor "()Ljava/util/List;" = some ⟨[], some (.object "java/util/List")⟩ := by decide +kernel
theorem pd42 : parseMethodDescriptor "(Ljava/lang/String;Ljava/lang/String;Ljava/lang/String;Ljava/lang/String;Ljava/lang/String;Ljava/util/List;)V" = some ⟨[(.object "java/lang/String"), (.object "java/lang/String"), (.object "java/lang/String"), (.object "java/lang/String"), (.object "java/lang/String"), (.object "java/util/List")], none⟩ := by decide +kernel
theorem pd43 : parseMethodDescriptor "(Ljava/lang/Object;)Ljava/util/List;" = some ⟨[(.object "java/lang/Object")], some (.object "java/util/List")⟩ := by decide +kernel
theorem pd44 : parseMethodDescriptor "(C)Z" = some ⟨[.char], some .boolean⟩ := by decide +kernel
theorem pd45 : parseMethodDescriptor "(C)[B" = some ⟨[.char], some (.array .byte)⟩ := by decide +kernel
theorem pd46 : parseMethodDescriptor "([BB)V" = some ⟨[(.array .byte), .byte], none⟩ := by decide +kernel
theorem pd47 : parseMethodDescriptor "(C)Ljava/lang/String;" = some ⟨[.char], some (.object "java/lang/String")⟩ := by decide +kernel
theorem pd48 : parseMethodDescriptor "(CI)Ljava/lang/String;" = some ⟨[.char, .int], some (.object "java/lang/String")⟩ := by decide +kernel
theorem pd49 : parseMethodDescriptor "(Ljava/lang/String;Ljava/lang/String;Ljava/lang/String;Ljava/lang/String;)Lcom/example/spanfold/spanfold/Input;" = some ⟨[(.object "java/lang/String"), (.object "java/lang/String"), (.object "java/lang/String"), (.object "java/lang/String")], some (.object "com/example/spanfold/spanfold/Input")⟩ := by decide +kernel
theorem pd50 : parseMethodDescriptor "([Ljava/lang/String;)Lcom/example/spanfold/spanfold/Input;" = some ⟨[(.array (.object "java/lang/String"))], some (.object "com/example/spanfold/spanfold/Input")⟩ := by decide +kernel
theorem pd51 : parseMethodDescriptor "(II)Lcom/example/spanfold/spanfold/Input;" = some ⟨[.int, .int], some (.object "com/example/spanfold/spanfold/Input")⟩ := by decide +kernel
theorem pd52 : parseMethodDescriptor "(Ljava/util/List;)Ljava/util/List;" = some ⟨[(.object "java/util/List")], some (.object "java/util/List")⟩ := by decide +kernel
theorem own_wS {a0 : Array Value} {Z : State} (hw : ∀ d ∈ tables_1, d.before a0 Z = true) : ∀ d ∈ Bundle.stringAtoms, d.before a0 Z = true := by
  intro d hd
  simp only [Bundle.stringAtoms, List.mem_cons, List.not_mem_nil, or_false] at hd
  rcases hd with rfl | rfl | rfl | rfl | rfl | rfl | rfl
  · exact hw _ (List.mem_of_getElem? (i := 7) rfl)
  · exact hw _ (List.mem_of_getElem? (i := 15) rfl)
  · exact hw _ (List.mem_of_getElem? (i := 19) rfl)
  · exact hw _ (List.mem_of_getElem? (i := 28) rfl)
  · exact hw _ (List.mem_of_getElem? (i := 30) rfl)
  · exact hw _ (List.mem_of_getElem? (i := 57) rfl)
  · exact hw _ (List.mem_of_getElem? (i := 58) rfl)
theorem own_rem (x y : Int32) (hx : 0 ≤ x.toInt) (hy : 0 < y.toInt) : (x - x / y * y).toInt = x.toInt % y.toInt := by
  have h1 := Int32.toInt_lt x
  have h2 := Int32.toInt_lt y
  have hd0 : 0 ≤ x.toInt / y.toInt := Int.ediv_nonneg hx (by omega)
  have hd1 : x.toInt / y.toInt ≤ x.toInt := Int.ediv_le_self _ hx
  have hq : (x / y).toInt = x.toInt / y.toInt := by
    rw [Int32.toInt_div, Int.tdiv_eq_ediv_of_nonneg hx]
    exact Int.bmod_eq_of_le (by omega) (by omega)
  have hm : x.toInt / y.toInt * y.toInt ≤ x.toInt := Int.ediv_mul_le _ (by omega)
  have hm0 : 0 ≤ x.toInt / y.toInt * y.toInt := Int.mul_nonneg hd0 (by omega)
  have hmu : (x / y * y).toInt = x.toInt / y.toInt * y.toInt := by
    rw [Int32.toInt_mul, hq]
    exact Int.bmod_eq_of_le (by omega) (by omega)
  rw [Int32.toInt_sub, hmu, Int.bmod_eq_of_le (by omega) (by omega)]
  have := Int.emod_add_mul_ediv x.toInt y.toInt
  rw [Int.mul_comm] at this
  omega
theorem own_root {Z : State} {a0 : Array Value} {O K : String} {n : Nat} (w : (Cond.noSuperclass O).before a0 Z = true) (wk : (Cond.instantiable K n).before a0 Z = true) (hn : O ≠ K) : NS Z O K := by
  obtain ⟨c, k, h1, h2, h3, -, -⟩ := Cond.noSuperclass_spec w
  obtain ⟨t, kt, g1, -⟩ := Cond.instantiable_spec wk
  have ne := ids_ne h1 g1 hn
  refine ⟨c, t, h1, g1, fun fuel => ?_⟩
  cases fuel with
  | zero => rfl
  | succ f => simp [Vm.isSubclassAux, ne, h2, h3]
theorem own_no {Z : State} {a0 : Array Value} {C S K : String} {n : Nat} (w : (Cond.superclass C S).before a0 Z = true) (wk : (Cond.instantiable K n).before a0 Z = true) (n : NS Z C K) (hn : C ≠ K) : ∃ c t, Z.vm.findClass C = some c ∧ Z.vm.findClass K = some t ∧ Z.vm.assignable c t = false := by
  obtain ⟨c, t, h0, g0, n3⟩ := n
  obtain ⟨p, k, kp, h1, h2, h3, h4, h5, -, h7⟩ := Cond.superclass_spec h0 w
  obtain ⟨t', kt, g1, g2, g3, g4, -⟩ := Cond.instantiable_spec wk
  cases g0.symm.trans g1
  have ne := ids_ne h0 g0 hn
  have g5 : kt.isInterface = false := by
    cases hi : kt.isInterface with
    | false => rfl
    | true => rw [hi] at g4; simp at g4
  refine ⟨c, t, h0, g0, ?_⟩
  show Z.vm.assignableAux (255 + 1) c t = false
  simp [Vm.assignableAux, ne, h2, g2, h5, g3, g5, Vm.isSubclass, n3]
theorem own_nar (y : Int32) : nar .char ((y &&& (255 : Int32)).toUInt32.toUInt16.toUInt32.toInt32) = y &&& 255 := by
  rw [i2c_mask]; show (y &&& 255).toUInt32.toUInt16.toUInt32.toInt32 = _; exact i2c_mask y
theorem own_nar8 (c : Int32) : nar .byte (c.toInt8.toInt32) = c.toInt8.toInt32 := by
  show c.toInt8.toInt32.toInt8.toInt32 = _
  rw [Int8.toInt8_toInt32]
abbrev own_ST : String := "java/lang/String"
/-- r is a String of the chars cs (each 0 to 255), its bytes at t -/
def own_Str (Z : State) (h : Heap) (r t : Addr) (cs : List Int32) : Prop := Exa Z h r own_ST ∧ Fld Z h r own_ST "coder" "B" (.int 0) ∧ Fld Z h r own_ST "value" "[B" (.ref t) ∧ (∃ k, Arv Z h t k .byte (Int32.ofNat cs.length) ((cs.map fun c => c.toInt8.toInt32).map Value.int) (.int 0)) ∧ (∀ c ∈ cs, ¬ c < 0 ∧ ¬ (255 : Int32) < c) ∧ cs.length ≤ 4000
theorem own_Str.ext {Z : State} {h h' : Heap} {r t : Addr} {cs : List Int32} (S : own_Str Z h r t cs) (E : Ext h h') : own_Str Z h' r t cs := by
  obtain ⟨a, b, c, ⟨k, d⟩, e⟩ := S
  exact ⟨a.ext E, b.ext E, c.ext E, ⟨k, d.ext E⟩, e⟩
theorem own_Str.keep {Z : State} {h h' : Heap} {r t : Addr} {cs : List Int32} {ws : List Addr} (S : own_Str Z h r t cs) (K : Keep h h' ws) (h1 : r ∉ ws) (h2 : t ∉ ws) : own_Str Z h' r t cs := by
  obtain ⟨a, b, c, ⟨k, d⟩, e⟩ := S
  exact ⟨a.keep K, b.keep K h1, c.keep K h1, ⟨k, d.keep K h2⟩, e⟩
theorem own_Str.keep0 {Z : State} {h h' : Heap} {r t : Addr} {cs : List Int32} (S : own_Str Z h r t cs) (K : Keep h h' []) : own_Str Z h' r t cs := S.keep K (fun q => by cases q) (fun q => by cases q)
abbrev own_SBN : String := "java/lang/StringBuilder"
abbrev own_ASB : String := "java/lang/AbstractStringBuilder"
abbrev own_by (cs : List Int32) : List Value := (cs.map fun c => c.toInt8.toInt32).map Value.int
/-- b is a StringBuilder of the chars cs over the byte[] t of cap places -/
def own_SB (Z : State) (h : Heap) (b t : Addr) (cap : Nat) (cs : List Int32) : Prop := Exa Z h b own_SBN ∧ Fld Z h b own_ASB "coder" "B" (.int 0) ∧ Fld Z h b own_ASB "count" "I" (.int (Int32.ofNat cs.length)) ∧ Fld Z h b own_ASB "value" "[B" (.ref t) ∧ (∃ k, Arv Z h t k .byte (Int32.ofNat cap) (own_by cs) (.int 0) ∧ Exa Z h t "[B") ∧ (∀ c ∈ cs, ¬ c < 0 ∧ ¬ (255 : Int32) < c) ∧ cs.length ≤ cap ∧ cap ≤ 1000
theorem own_SB.ext {Z : State} {h h' : Heap} {b t : Addr} {cap : Nat} {cs : List Int32} (S : own_SB Z h b t cap cs) (E : Ext h h') : own_SB Z h' b t cap cs := by
  obtain ⟨a1, a2, a3, a4, ⟨k, a5, a7⟩, a6⟩ := S
  exact ⟨a1.ext E, a2.ext E, a3.ext E, a4.ext E, ⟨k, a5.ext E, a7.ext E⟩, a6⟩
theorem own_SB.keep0 {Z : State} {h h' : Heap} {b t : Addr} {cap : Nat} {cs : List Int32} (S : own_SB Z h b t cap cs) (K : Keep h h' []) : own_SB Z h' b t cap cs := by
  obtain ⟨a1, a2, a3, a4, ⟨k, a5, a7⟩, a6⟩ := S
  exact ⟨a1.keep K, a2.keep K (fun q => by cases q), a3.keep K (fun q => by cases q), a4.keep K (fun q => by cases q), ⟨k, a5.keep K (fun q => by cases q), a7.keep K⟩, a6⟩
theorem own_SB.keep {Z : State} {h h' : Heap} {b t : Addr} {cap : Nat} {cs : List Int32} {ws : List Addr} (S : own_SB Z h b t cap cs) (K : Keep h h' ws) (h1 : b ∉ ws) (h2 : t ∉ ws) : own_SB Z h' b t cap cs := by
  obtain ⟨a1, a2, a3, a4, ⟨k, a5, a7⟩, a6⟩ := S
  exact ⟨a1.keep K, a2.keep K h1, a3.keep K h1, a4.keep K h1, ⟨k, a5.keep K h2, a7.keep K⟩, a6⟩
theorem own_Kmono {h h' : Heap} {ws ws' : List Addr} (K : Keep h h' ws) (q : ∀ x ∈ ws, x ∈ ws') : Keep h h' ws' := ⟨K.1, fun x c a r => K.2.1 x c a (fun z => r (q x z)), K.2.2⟩
theorem own_i32 {n : Nat} (h : n ≤ 2000) : (Int32.ofNat n).toInt = (n : Int) := Int32.toInt_ofNat_of_lt (by omega)
theorem own_nat {n : Nat} (h : n ≤ 2000) : (Int32.ofNat n).toNatClampNeg = n := by
  show (Int32.ofNat n).toInt.toNat = n
  rw [own_i32 h]; omega
theorem own_nn {n : Nat} (h : n ≤ 2000) : ¬ Int32.ofNat n < 0 := by
  rw [Int32.lt_iff_toInt_lt, own_i32 h, show (0 : Int32).toInt = 0 from rfl]; omega
theorem own_addn {a b : Nat} (h : a + b ≤ 2000) : Int32.ofNat a + Int32.ofNat b = Int32.ofNat (a + b) := by
  rw [← Int32.toInt_inj, Jvm.Kit.i32_add (by rw [own_i32 (by omega), own_i32 (by omega)]; omega) (by rw [own_i32 (by omega), own_i32 (by omega)]; omega), own_i32 (by omega), own_i32 (by omega), own_i32 h]; omega
theorem own_sub2 {a b : Int32} (low : -2 ^ 31 ≤ a.toInt - b.toInt) (high : a.toInt - b.toInt < 2 ^ 31) : (a - b).toInt = a.toInt - b.toInt := by
  rw [Int32.toInt_sub]; exact Int.bmod_eq_of_le (by omega) (by omega)
theorem own_subn {a b : Nat} (h : a ≤ 2000) (hb : b ≤ a) : Int32.ofNat a - Int32.ofNat b = Int32.ofNat (a - b) := by
  rw [← Int32.toInt_inj, own_sub2 (by rw [own_i32 h, own_i32 (by omega)]; omega) (by rw [own_i32 h, own_i32 (by omega)]; omega), own_i32 h, own_i32 (by omega), own_i32 (by omega)]; omega
theorem own_rangeget (vs : List Value) (d : Value) : (List.range vs.length).map (fun i => vs.getD (0 + i) d) = vs := by
  apply List.ext_getElem?
  intro i
  by_cases h : i < vs.length
  · simp [h]
  · simp [h]
theorem own_gt {a b : Nat} (ha : a ≤ 2000) (hb : b ≤ 2000) (h : a ≤ b) : ¬ 0 < Int32.ofNat a - Int32.ofNat b := by
  rw [Int32.lt_iff_toInt_lt, own_sub2 (by rw [own_i32 ha, own_i32 hb]; omega) (by rw [own_i32 ha, own_i32 hb]; omega), own_i32 ha, own_i32 hb, show (0 : Int32).toInt = 0 from rfl]; omega
theorem own_gt' {a b : Nat} (ha : a ≤ 2000) (hb : b ≤ 2000) (h : ¬ a ≤ b) : 0 < Int32.ofNat a - Int32.ofNat b := by
  rw [Int32.lt_iff_toInt_lt, own_sub2 (by rw [own_i32 ha, own_i32 hb]; omega) (by rw [own_i32 ha, own_i32 hb]; omega), own_i32 ha, own_i32 hb, show (0 : Int32).toInt = 0 from rfl]; omega
theorem own_ltn {a b : Nat} (ha : a ≤ 2000) (hb : b ≤ 2000) : Int32.ofNat a < Int32.ofNat b ↔ a < b := by
  rw [Int32.lt_iff_toInt_lt, own_i32 ha, own_i32 hb]; omega
theorem own_eqn {a b : Nat} (ha : a ≤ 2000) (hb : b ≤ 2000) : Int32.ofNat a = Int32.ofNat b ↔ a = b := by
  rw [← Int32.toInt_inj, own_i32 ha, own_i32 hb]; omega
theorem own_soft {n : Nat} (h : n ≤ 2000) : ¬ (2147483639 : Int32) < Int32.ofNat n := by
  rw [Int32.lt_iff_toInt_lt, own_i32 h, show (2147483639 : Int32).toInt = 2147483639 from rfl]; omega
theorem own_ld {Z : State} {h : Heap} {a : Addr} {k : ClassId} {ty : FieldType} {N : Nat} {vs : List Value} {d v : Value} (A : Arv Z h a k ty (Int32.ofNat N) vs d) (hN : N ≤ 2000) {i : Nat} (hi : i < N) {j : Int32} (hj : j = Int32.ofNat i) (hv : vs.getD i d = v) :
    ∃ cl : Cell, Arr Z h a cl ty ∧ ¬ (j < 0 ∨ cl.slots.size ≤ j.toNatClampNeg) ∧ cl.slots[j.toNatClampNeg]? = some v := by
  obtain ⟨cl, Ar, -, S, -, H, -⟩ := A
  subst hj
  rw [own_nat hN] at S
  refine ⟨cl, Ar, ?_, ?_⟩
  · rw [own_nat (by omega), S]
    exact fun q => q.elim (own_nn (by omega)) (by omega)
  · rw [own_nat (by omega), H i (by omega), hv]
abbrev own_OB : String := "java/lang/Object"
abbrev own_OAn : String := "[Ljava/lang/Object;"
abbrev own_L12 : String := "java/util/ImmutableCollections$List12"
abbrev own_LN : String := "java/util/ImmutableCollections$ListN"
abbrev own_AL : String := "java/util/ArrayList"
/-- t is an Object[] of N places: the objects xs, then nulls -/
def own_OA (Z : State) (h : Heap) (t : Addr) (xs : List Addr) (N : Nat) : Prop := (∃ k, Arv Z h t k (.object own_OB) (Int32.ofNat N) (xs.map Value.ref) .null ∧ Ovr Z k own_OB) ∧ Exa Z h t own_OAn ∧ xs.length ≤ N ∧ N ≤ 1000
theorem own_OA.ext {Z : State} {h h' : Heap} {t : Addr} {xs : List Addr} {N : Nat} (S : own_OA Z h t xs N) (E : Ext h h') : own_OA Z h' t xs N := by
  obtain ⟨⟨k, a, b⟩, c, d⟩ := S
  exact ⟨⟨k, a.ext E, b⟩, c.ext E, d⟩
theorem own_OA.keep {Z : State} {h h' : Heap} {t : Addr} {xs : List Addr} {N : Nat} {ws : List Addr} (S : own_OA Z h t xs N) (K : Keep h h' ws) (q : t ∉ ws) : own_OA Z h' t xs N := by
  obtain ⟨⟨k, a, b⟩, c, d⟩ := S
  exact ⟨⟨k, a.keep K q, b⟩, c.keep K, d⟩
theorem own_OA.keep0 {Z : State} {h h' : Heap} {t : Addr} {xs : List Addr} {N : Nat} (S : own_OA Z h t xs N) (K : Keep h h' []) : own_OA Z h' t xs N := S.keep K nin0
theorem own_OA.other {Z : State} {h h' : Heap} {t b : Addr} {xs : List Addr} {N j : Nat} {v : Value} (S : own_OA Z h t xs N) (W : Wr h h' b j v) (q : t ≠ b) : own_OA Z h' t xs N := S.keep (Keep.of_wr W) (ninS q nin0)
theorem own_insK {Z : State} {h h' : Heap} {y : Addr} {C : String} {ws : List Addr} (F : Ins Z h y C true) (K : Keep h h' ws) : Ins Z h' y C true := by
  obtain ⟨c, cT, h1, h2, h3⟩ := F
  obtain ⟨c', q, r1, r2, r3⟩ := K.2.2 y c h1
  exact ⟨c', cT, q, h2, by rw [r1, r2]; exact h3⟩
/-- objects all -/
def own_El (Z : State) (h : Heap) (xs : List Addr) : Prop := ∀ x ∈ xs, Ins Z h x own_OB true
theorem own_El.keep {Z : State} {h h' : Heap} {xs ws : List Addr} (F : own_El Z h xs) (K : Keep h h' ws) : own_El Z h' xs := fun x hx => own_insK (F x hx) K
theorem own_El.ext {Z : State} {h h' : Heap} {xs : List Addr} (F : own_El Z h xs) (E : Ext h h') : own_El Z h' xs := fun x hx => (F x hx).ext E
theorem own_stol {Z : State} {h : Heap} {b : Addr} {k : ClassId} {z : Int32} {vs : List Value} {d : Value} {ty : FieldType} (A : Arv Z h b k ty z vs d) (O : Ovr Z k own_OB) : ∀ (xs : List Addr) (n : Nat), own_El Z h xs → StoL Z h b (xs.map Value.ref ++ List.replicate n .null)
  | [], 0, _ => trivial
  | [], n + 1, F => ⟨Or.inl rfl, own_stol A O [] n F⟩
  | x :: xs, n, F => by
    obtain ⟨c, A', q, -⟩ := id A
    exact ⟨Sto.ofV A' q O (F x List.mem_cons_self), own_stol A O xs n (fun y hy => F y (List.mem_cons_of_mem _ hy))⟩
theorem own_rangepad (vs : List Value) (q : Nat) (h : vs.length ≤ q) : (List.range q).map (fun i => vs.getD (0 + i) .null) = vs ++ List.replicate (q - vs.length) .null := by
  apply List.ext_getElem?
  intro i
  by_cases h1 : i < vs.length
  · simp [h1, List.getElem?_append_left, Nat.lt_of_lt_of_le h1 h]
  · rw [List.getElem?_append_right (by omega), List.getElem?_map, List.getElem?_replicate]
    by_cases h2 : i < q
    · simp [h2, h1]; omega
    · simp [h2]; omega
theorem own_padpad (vs : List Value) (n r : Nat) : ∀ i, vs.getD i Value.null = ((vs ++ List.replicate n Value.null) ++ List.replicate r Value.null).getD i Value.null := fun i => by
  rw [pad_rep, pad_rep]
theorem own_min {a b : Nat} (ha : a ≤ 2000) (hb : b ≤ 2000) : (if Int32.ofNat b < Int32.ofNat a then Int32.ofNat b else Int32.ofNat a) = Int32.ofNat (min a b) := by
  by_cases h : b < a
  · rw [if_pos ((own_ltn hb ha).mpr h), Nat.min_eq_right (by omega)]
  · rw [if_neg (fun q => h ((own_ltn hb ha).mp q)), Nat.min_eq_left (by omega)]
abbrev own_G : Type := Int32 × Addr × Addr × Addr × Addr × Addr × Addr × Addr × Addr × Addr
abbrev own_G.G1 (g : own_G) : Int32 := g.1
abbrev own_G.em (g : own_G) : Addr := g.2.1
abbrev own_G.el (g : own_G) : Addr := g.2.2.1
abbrev own_G.et (g : own_G) : Addr := g.2.2.2.1
abbrev own_G.pr (g : own_G) : Addr := g.2.2.2.2.1
abbrev own_G.dc (g : own_G) : Addr := g.2.2.2.2.2.1
abbrev own_G.mo (g : own_G) : Addr := g.2.2.2.2.2.2.1
abbrev own_G.ma (g : own_G) : Addr := g.2.2.2.2.2.2.2.1
abbrev own_G.mn (g : own_G) : Addr := g.2.2.2.2.2.2.2.2.1
abbrev own_G.m2 (g : own_G) : Addr := g.2.2.2.2.2.2.2.2.2
/-- a List.of of the objects xs -/
def own_Lst (Z : State) (gg : own_G) (h : Heap) (r : Addr) (xs : List Addr) : Prop :=
  (Exa Z h r own_L12 ∧ ∃ x, Fld Z h r own_L12 "e0" "Ljava/lang/Object;" (.ref x) ∧ ((xs = [x] ∧ Fld Z h r own_L12 "e1" "Ljava/lang/Object;" (.ref gg.em)) ∨ ∃ y, xs = [x, y] ∧ Fld Z h r own_L12 "e1" "Ljava/lang/Object;" (.ref y) ∧ y ≠ gg.em)) ∨
  (Exa Z h r own_LN ∧ ∃ t, Fld Z h r own_LN "elements" "[Ljava/lang/Object;" (.ref t) ∧ Fld Z h r own_LN "allowNulls" "Z" (.int 0) ∧ own_OA Z h t xs xs.length)
theorem own_Lst.keep {Z : State} {gg : own_G} {h h' : Heap} {r : Addr} {xs ws : List Addr} (S : own_Lst Z gg h r xs) (K : Keep h h' ws) (q : r ∉ ws) (q2 : ∀ x ∈ ws, ¬ Exa Z h x own_OAn) : own_Lst Z gg h' r xs := by
  rcases S with ⟨E, x, F, D⟩ | ⟨E, t, F, A, O⟩
  · refine Or.inl ⟨E.keep K, x, F.keep K q, ?_⟩
    rcases D with ⟨h1, h2⟩ | ⟨y, h1, h2, h3⟩
    · exact Or.inl ⟨h1, h2.keep K q⟩
    · exact Or.inr ⟨y, h1, h2.keep K q, h3⟩
  · exact Or.inr ⟨E.keep K, t, F.keep K q, A.keep K q, O.keep K (fun z => q2 t z O.2.1)⟩
theorem own_Lst.keep0 {Z : State} {gg : own_G} {h h' : Heap} {r : Addr} {xs : List Addr} (S : own_Lst Z gg h r xs) (K : Keep h h' []) : own_Lst Z gg h' r xs := S.keep K nin0 all0
theorem own_Lst.ext {Z : State} {gg : own_G} {h h' : Heap} {r : Addr} {xs : List Addr} (S : own_Lst Z gg h r xs) (E : Ext h h') : own_Lst Z gg h' r xs := S.keep0 ((Keep.refl h []).ext E)
theorem own_Lst.lt {Z : State} {gg : own_G} {h : Heap} {r : Addr} {xs : List Addr} (S : own_Lst Z gg h r xs) : r < h.size := by
  rcases S with ⟨E, -⟩ | ⟨E, -⟩ <;> exact E.lt
theorem own_Lst.not {Z : State} {gg : own_G} {h : Heap} {r a : Addr} {xs : List Addr} {C : String} (S : own_Lst Z gg h r xs) (E : Exa Z h a C) (h1 : C ≠ own_L12) (h2 : C ≠ own_LN) : r ≠ a := by
  rcases S with ⟨F, -⟩ | ⟨F, -⟩
  · exact F.ne E (Ne.symm h1)
  · exact F.ne E (Ne.symm h2)
theorem nX {Z : State} {h : Heap} {a : Addr} {C D : String} (E : Exa Z h a C) (hn : C ≠ D) : ¬ Exa Z h a D := fun F => (E.ne F hn) rfl
/-- what the run's past gives -/
def own_Env (Z : State) (gg : own_G) : Prop := (Sta Z Z.heap "java/lang/String" "COMPACT_STRINGS" "Z" (.int gg.G1)) ∧ (¬ gg.G1 = 0) ∧ (Sta Z Z.heap "java/util/ImmutableCollections" "EMPTY" "Ljava/lang/Object;" (.ref gg.em)) ∧ (Exa Z Z.heap gg.em own_OB) ∧ (Sta Z Z.heap "java/util/ImmutableCollections" "EMPTY_LIST" "Ljava/util/ImmutableCollections$ListN;" (.ref gg.el)) ∧ (own_Lst Z gg Z.heap gg.el []) ∧ (Sta Z Z.heap "java/util/ImmutableCollections" "$assertionsDisabled" "Z" (.int 1)) ∧ (Sta Z Z.heap "java/util/HashSet" "PRESENT" "Ljava/lang/Object;" (.ref gg.pr)) ∧ (Sta Z Z.heap "java/util/ArrayList" "DEFAULTCAPACITY_EMPTY_ELEMENTDATA" "[Ljava/lang/Object;" (.ref gg.dc)) ∧ (own_OA Z Z.heap gg.dc [] 0) ∧ (own_Mi Z "[Ljava/lang/Object;" gg.mo) ∧ (own_Mi Z "java/util/ArrayList" gg.ma) ∧ (own_Mi Z "java/util/ImmutableCollections$ListN" gg.mn) ∧ (own_Mi Z "java/util/ImmutableCollections$List12" gg.m2)
theorem own_Env.cs {Z : State} {gg : own_G} (E : own_Env Z gg) : Sta Z Z.heap "java/lang/String" "COMPACT_STRINGS" "Z" (.int gg.G1) := E.1
theorem own_Env.nz {Z : State} {gg : own_G} (E : own_Env Z gg) : ¬ gg.G1 = 0 := E.2.1
theorem own_Env.em {Z : State} {gg : own_G} (E : own_Env Z gg) : Sta Z Z.heap "java/util/ImmutableCollections" "EMPTY" "Ljava/lang/Object;" (.ref gg.em) := E.2.2.1
theorem own_Env.eme {Z : State} {gg : own_G} (E : own_Env Z gg) : Exa Z Z.heap gg.em own_OB := E.2.2.2.1
theorem own_Env.el {Z : State} {gg : own_G} (E : own_Env Z gg) : Sta Z Z.heap "java/util/ImmutableCollections" "EMPTY_LIST" "Ljava/util/ImmutableCollections$ListN;" (.ref gg.el) := E.2.2.2.2.1
theorem own_Env.ell {Z : State} {gg : own_G} (E : own_Env Z gg) : own_Lst Z gg Z.heap gg.el [] := E.2.2.2.2.2.1
theorem own_Env.ad {Z : State} {gg : own_G} (E : own_Env Z gg) : Sta Z Z.heap "java/util/ImmutableCollections" "$assertionsDisabled" "Z" (.int 1) := E.2.2.2.2.2.2.1
theorem own_Env.pr {Z : State} {gg : own_G} (E : own_Env Z gg) : Sta Z Z.heap "java/util/HashSet" "PRESENT" "Ljava/lang/Object;" (.ref gg.pr) := E.2.2.2.2.2.2.2.1
theorem own_Env.dc {Z : State} {gg : own_G} (E : own_Env Z gg) : Sta Z Z.heap "java/util/ArrayList" "DEFAULTCAPACITY_EMPTY_ELEMENTDATA" "[Ljava/lang/Object;" (.ref gg.dc) := E.2.2.2.2.2.2.2.2.1
theorem own_Env.dca {Z : State} {gg : own_G} (E : own_Env Z gg) : own_OA Z Z.heap gg.dc [] 0 := E.2.2.2.2.2.2.2.2.2.1
theorem own_Env.mo {Z : State} {gg : own_G} (E : own_Env Z gg) : own_Mi Z "[Ljava/lang/Object;" gg.mo := E.2.2.2.2.2.2.2.2.2.2.1
theorem own_Env.ma {Z : State} {gg : own_G} (E : own_Env Z gg) : own_Mi Z "java/util/ArrayList" gg.ma := E.2.2.2.2.2.2.2.2.2.2.2.1
theorem own_Env.mn {Z : State} {gg : own_G} (E : own_Env Z gg) : own_Mi Z "java/util/ImmutableCollections$ListN" gg.mn := E.2.2.2.2.2.2.2.2.2.2.2.2.1
theorem own_Env.m2 {Z : State} {gg : own_G} (E : own_Env Z gg) : own_Mi Z "java/util/ImmutableCollections$List12" gg.m2 := E.2.2.2.2.2.2.2.2.2.2.2.2.2
/-- a is an ArrayList of the objects xs over the array ed of N places -/
def own_ALs (Z : State) (h : Heap) (a ed : Addr) (xs : List Addr) (N : Nat) (mc : Int32) : Prop := Exa Z h a own_AL ∧ Fld Z h a "java/util/AbstractList" "modCount" "I" (.int mc) ∧ Fld Z h a own_AL "size" "I" (.int (Int32.ofNat xs.length)) ∧ Fld Z h a own_AL "elementData" "[Ljava/lang/Object;" (.ref ed) ∧ own_OA Z h ed xs N
theorem own_ALs.keep {Z : State} {h h' : Heap} {a ed : Addr} {xs ws : List Addr} {N : Nat} {mc : Int32} (S : own_ALs Z h a ed xs N mc) (K : Keep h h' ws) (q : a ∉ ws) (q2 : ed ∉ ws) : own_ALs Z h' a ed xs N mc := by
  obtain ⟨e1, e2, e3, e4, e5⟩ := S
  exact ⟨e1.keep K, e2.keep K q, e3.keep K q, e4.keep K q, e5.keep K q2⟩
theorem own_ALs.keep0 {Z : State} {h h' : Heap} {a ed : Addr} {xs : List Addr} {N : Nat} {mc : Int32} (S : own_ALs Z h a ed xs N mc) (K : Keep h h' []) : own_ALs Z h' a ed xs N mc := S.keep K nin0 nin0
theorem own_ALs.ext {Z : State} {h h' : Heap} {a ed : Addr} {xs : List Addr} {N : Nat} {mc : Int32} (S : own_ALs Z h a ed xs N mc) (E : Ext h h') : own_ALs Z h' a ed xs N mc := S.keep0 ((Keep.refl h []).ext E)
theorem own_get {xs : List Addr} {i : Nat} {x : Addr} (q : xs[i]? = some x) : (xs.map Value.ref).getD i .null = .ref x := by
  rw [List.getD_eq_getElem?_getD, List.getElem?_map, q]; rfl
theorem own_setend (xs : List Addr) (u : Addr) : (xs.map Value.ref ++ List.replicate 1 Value.null).set xs.length (.ref u) = (xs ++ [u]).map Value.ref := by
  rw [List.set_append_right _ _ (by simp)]
  simp
theorem own_half {n : Nat} (h : n ≤ 3) : Int32.ofNat n >>> ((1 : Int32) &&& 31) = Int32.ofNat (n / 2) := by
  match n, h with
  | 0, _ => decide
  | 1, _ => decide
  | 2, _ => decide
  | 3, _ => decide
abbrev own_ITR : String := "java/util/ArrayList$Itr"
def own_It (Z : State) (h : Heap) (t a : Addr) (cur : Nat) (mc : Int32) : Prop := Exa Z h t own_ITR ∧ Fld Z h t own_ITR "this$0" "Ljava/util/ArrayList;" (.ref a) ∧ Fld Z h t own_ITR "cursor" "I" (.int (Int32.ofNat cur)) ∧ (∃ lr : Int32, Fld Z h t own_ITR "lastRet" "I" (.int lr)) ∧ Fld Z h t own_ITR "expectedModCount" "I" (.int mc)
theorem own_It.keep {Z : State} {h h' : Heap} {t a : Addr} {cur : Nat} {mc : Int32} {ws : List Addr} (S : own_It Z h t a cur mc) (K : Keep h h' ws) (q : t ∉ ws) : own_It Z h' t a cur mc := by
  obtain ⟨e1, e2, e3, ⟨lr, e4⟩, e5⟩ := S
  exact ⟨e1.keep K, e2.keep K q, e3.keep K q, ⟨lr, e4.keep K q⟩, e5.keep K q⟩
abbrev own_STn : String := "java/lang/String"
/-- the hash of the String of two chars -/
abbrev own_hv (tg ch : Nat) : Int32 := Int32.ofNat (31 * tg + ch)
abbrev own_b2 (tg ch : Nat) : List Value := [(.int ((Int32.ofNat tg).toInt8.toInt32)), (.int ((Int32.ofNat ch).toInt8.toInt32))]
/-- r is a String of the two chars tg, ch; its hash is there or not yet -/
def own_S2 (Z : State) (h : Heap) (r : Addr) (tg ch : Nat) : Prop := ∃ (t : Addr) (hx : Int32), Exa Z h r own_STn ∧ Fld Z h r own_STn "coder" "B" (.int 0) ∧ Fld Z h r own_STn "value" "[B" (.ref t) ∧ Fld Z h r own_STn "hash" "I" (.int hx) ∧ Fld Z h r own_STn "hashIsZero" "Z" (.int 0) ∧ (∃ k, Arv Z h t k .byte (2 : Int32) (own_b2 tg ch) (.int 0)) ∧ Exa Z h t "[B" ∧ (hx = 0 ∨ hx = own_hv tg ch)
theorem own_S2.exa {Z : State} {h : Heap} {r : Addr} {tg ch : Nat} (S : own_S2 Z h r tg ch) : Exa Z h r own_STn := by
  obtain ⟨t, hx, e1, -⟩ := S; exact e1
theorem own_S2.keep {Z : State} {h h' : Heap} {r : Addr} {tg ch : Nat} {ws : List Addr} (S : own_S2 Z h r tg ch) (K : Keep h h' ws) (q : r ∉ ws) (q2 : ∀ x ∈ ws, ¬ Exa Z h x "[B") : own_S2 Z h' r tg ch := by
  obtain ⟨t, hx, e1, e2, e3, e4, e5, ⟨k, e6⟩, e7, e8⟩ := S
  exact ⟨t, hx, e1.keep K, e2.keep K q, e3.keep K q, e4.keep K q, e5.keep K q, ⟨k, e6.keep K (fun z => q2 t z e7)⟩, e7.keep K, e8⟩
theorem own_S2.keep0 {Z : State} {h h' : Heap} {r : Addr} {tg ch : Nat} (S : own_S2 Z h r tg ch) (K : Keep h h' []) : own_S2 Z h' r tg ch := S.keep K nin0 all0
theorem own_S2.ext {Z : State} {h h' : Heap} {r : Addr} {tg ch : Nat} (S : own_S2 Z h r tg ch) (E : Ext h h') : own_S2 Z h' r tg ch := S.keep0 ((Keep.refl h []).ext E)
theorem own_b255 : ∀ n : Nat, n < 256 → (Int32.ofNat n).toInt8.toInt32 &&& (255 : Int32) = Int32.ofNat n := by decide +kernel
theorem own_S2.ne {Z : State} {h : Heap} {r r' : Addr} {tg tg' ch ch' : Nat} (S : own_S2 Z h r tg ch) (S' : own_S2 Z h r' tg' ch') (h1 : tg < 256) (h2 : tg' < 256) (hn : tg ≠ tg') : r ≠ r' := by
  obtain ⟨t, hx, e1, e2, e3, e4, e5, ⟨k, e6⟩, e7, e8⟩ := S
  obtain ⟨t', hx', f1, f2, f3, f4, f5, ⟨k', f6⟩, f7, f8⟩ := S'
  by_cases q : t = t'
  · exfalso
    subst q
    obtain ⟨c, A, -, s1, -, H, -⟩ := e6
    obtain ⟨c', A', -, s2, -, H', -⟩ := f6
    cases A.1.symm.trans A'.1
    have u := H 0 (by rw [s1]; decide)
    have u' := H' 0 (by rw [s1]; decide)
    have e := Option.some.inj (u.symm.trans u')
    simp only [List.getD_cons_zero, Value.int.injEq] at e
    have e2 := congrArg (fun z : Int32 => z &&& (255 : Int32)) e
    simp only [own_b255 tg h1, own_b255 tg' h2] at e2
    exact hn ((own_eqn (by omega) (by omega)).mp e2)
  · exact e3.ne f3 (fun z => q (by cases z; rfl))
theorem own_xor16' : ∀ a : Nat, a < 64 → ∀ b : Nat, b < 64 → Int32.ofNat (64 * a + b) ^^^ ((Int32.ofNat (64 * a + b)).toUInt32 >>> ((16 : Int32) &&& 31).toUInt32).toInt32 = Int32.ofNat (64 * a + b) := by decide +kernel
theorem own_xor16 (n : Nat) (h : n < 4096) : Int32.ofNat n ^^^ ((Int32.ofNat n).toUInt32 >>> ((16 : Int32) &&& 31).toUInt32).toInt32 = Int32.ofNat n := by
  have := own_xor16' (n / 64) (by omega) (n % 64) (by omega)
  rw [show 64 * (n / 64) + n % 64 = n from by omega] at this
  exact this
theorem own_and15' : ∀ a : Nat, a < 64 → ∀ b : Nat, b < 64 → ((16 : Int32) - (1 : Int32)) &&& Int32.ofNat (64 * a + b) = Int32.ofNat ((64 * a + b) % 16) := by decide +kernel
theorem own_and15 (n : Nat) (h : n < 4096) : ((16 : Int32) - (1 : Int32)) &&& Int32.ofNat n = Int32.ofNat (n % 16) := by
  have := own_and15' (n / 64) (by omega) (n % 64) (by omega)
  rw [show 64 * (n / 64) + n % 64 = n from by omega] at this
  exact this
theorem own_hash {tg ch : Nat} (h1 : tg < 128) (h2 : ch < 256) : ((31 : Int32) * (((31 : Int32) * (0 : Int32)) + ((Int32.ofNat tg).toInt8.toInt32 &&& (255 : Int32)))) + ((Int32.ofNat ch).toInt8.toInt32 &&& (255 : Int32)) = own_hv tg ch := by
  rw [own_b255 tg (by omega), own_b255 ch h2, show (31 : Int32) * (0 : Int32) = 0 from by decide, Int32.zero_add]
  have e : ∀ n : Nat, n < 128 → (31 : Int32) * Int32.ofNat n = Int32.ofNat (31 * n) := by decide +kernel
  rw [e tg h1]
  rw [← Int32.toInt_inj]
  have a1 : (Int32.ofNat (31 * tg)).toInt = ((31 * tg : Nat) : Int) := Int32.toInt_ofNat_of_lt (by omega)
  have a2 : (Int32.ofNat ch).toInt = (ch : Int) := Int32.toInt_ofNat_of_lt (by omega)
  have a3 : (own_hv tg ch).toInt = ((31 * tg + ch : Nat) : Int) := Int32.toInt_ofNat_of_lt (by omega)
  rw [Jvm.Kit.i32_add (by omega) (by omega), a1, a2, a3]; omega
theorem own_hv0 {tg ch : Nat} (h0 : 0 < tg) (h1 : tg < 128) (h2 : ch < 256) : ¬ own_hv tg ch = 0 := fun q => by
  have a3 : (own_hv tg ch).toInt = ((31 * tg + ch : Nat) : Int) := Int32.toInt_ofNat_of_lt (by omega)
  rw [q] at a3
  have : (0 : Int32).toInt = 0 := rfl
  omega
theorem own_le255 {n : Nat} (h : n < 256) : ¬ (255 : Int32) < Int32.ofNat n := by
  rw [Int32.lt_iff_toInt_lt, own_i32 (by omega), show (255 : Int32).toInt = 255 from rfl]; omega
theorem own_narc : ∀ n : Nat, n < 256 → nar .char (Int32.ofNat n) = Int32.ofNat n := by decide +kernel
abbrev own_HMn : String := "java/util/HashMap"
abbrev own_NOn : String := "java/util/HashMap$Node"
abbrev own_NAn : String := "[Ljava/util/HashMap$Node;"
/-- a HashMap that holds nothing yet -/
def own_H0 (Z : State) (h : Heap) (m : Addr) : Prop := Exa Z h m own_HMn ∧ Fld Z h m own_HMn "table" "[Ljava/util/HashMap$Node;" .null ∧ Fld Z h m own_HMn "threshold" "I" (.int 0) ∧ Fld Z h m own_HMn "size" "I" (.int 0) ∧ ∃ mc : Int32, Fld Z h m own_HMn "modCount" "I" (.int mc)
/-- a HashMap of 16 buckets of which those in occ are taken -/
def own_H1 (Z : State) (h : Heap) (m tb : Addr) (occ : List Nat) : Prop := Exa Z h m own_HMn ∧ Fld Z h m own_HMn "table" "[Ljava/util/HashMap$Node;" (.ref tb) ∧ Fld Z h m own_HMn "threshold" "I" (.int 12) ∧ Fld Z h m own_HMn "size" "I" (.int (Int32.ofNat occ.length)) ∧ (∃ mc : Int32, Fld Z h m own_HMn "modCount" "I" (.int mc)) ∧ Exa Z h tb own_NAn ∧ ∃ (k : ClassId) (vs : List Value), Arv Z h tb k (.object own_NOn) (16 : Int32) vs .null ∧ Ovr Z k own_NOn ∧ vs.length = 16 ∧ ∀ i, i ∉ occ → vs.getD i .null = .null
def own_HMp (Z : State) (h : Heap) (m tb : Addr) (occ : List Nat) : Prop := (occ = [] ∧ tb = m ∧ own_H0 Z h m) ∨ own_H1 Z h m tb occ
theorem own_H1.keep {Z : State} {h h' : Heap} {m tb : Addr} {occ : List Nat} {ws : List Addr} (S : own_H1 Z h m tb occ) (K : Keep h h' ws) (q : m ∉ ws) (q2 : tb ∉ ws) : own_H1 Z h' m tb occ := by
  obtain ⟨e1, e2, e3, e4, ⟨mc, e5⟩, e6, k, vs, e7, e8⟩ := S
  exact ⟨e1.keep K, e2.keep K q, e3.keep K q, e4.keep K q, ⟨mc, e5.keep K q⟩, e6.keep K, k, vs, e7.keep K q2, e8⟩
theorem own_HMp.keep {Z : State} {h h' : Heap} {m tb : Addr} {occ : List Nat} {ws : List Addr} (S : own_HMp Z h m tb occ) (K : Keep h h' ws) (q : m ∉ ws) (q2 : tb ∉ ws) : own_HMp Z h' m tb occ := by
  rcases S with ⟨h1, h2, e1, e2, e3, e4, mc, e5⟩ | S
  · exact Or.inl ⟨h1, h2, e1.keep K, e2.keep K q, e3.keep K q, e4.keep K q, mc, e5.keep K q⟩
  · exact Or.inr (S.keep K q q2)
theorem own_HMp.exa {Z : State} {h : Heap} {m tb : Addr} {occ : List Nat} (S : own_HMp Z h m tb occ) : Exa Z h m own_HMn := by
  rcases S with ⟨-, -, e1, -⟩ | ⟨e1, -⟩ <;> exact e1
theorem own_HMp.ne {Z : State} {h : Heap} {m tb r : Addr} {occ : List Nat} {C : String} (S : own_HMp Z h m tb occ) (E : Exa Z h r C) (h1 : own_HMn ≠ C) (h2 : own_NAn ≠ C) : tb ≠ r := by
  rcases S with ⟨-, rfl, e1, -⟩ | ⟨-, -, -, -, -, e6, -⟩
  · exact e1.ne E h1
  · exact e6.ne E h2
theorem own_HMp.notb {Z : State} {h : Heap} {m tb : Addr} {occ : List Nat} {C : String} (S : own_HMp Z h m tb occ) (h1 : own_HMn ≠ C) (h2 : own_NAn ≠ C) : ¬ Exa Z h tb C := by
  rcases S with ⟨-, rfl, e1, -⟩ | ⟨-, -, -, -, -, e6, -⟩
  · exact nX e1 h1
  · exact nX e6 h2
theorem own_vset {vs : List Value} {bk : Nat} {v : Value} {occ : List Nat} (H : ∀ i, i ∉ occ → vs.getD i .null = .null) : ∀ i, i ∉ bk :: occ → (vs.set bk v).getD i .null = .null := fun i hi => by
  have h1 : bk ≠ i := fun q => hi (by simp [q])
  have h2 : i ∉ occ := fun q => hi (List.mem_cons_of_mem _ q)
  have := H i h2
  simp only [List.getD_eq_getElem?_getD] at this ⊢
  rw [List.getElem?_set_ne h1]; exact this
abbrev own_INn : String := "com/example/spanfold/spanfold/Input"
theorem own_El.nil {Z : State} {h : Heap} : own_El Z h [] := fun _ q => nomatch q
theorem own_El.cons {Z : State} {h : Heap} {x : Addr} {xs : List Addr} (I : Ins Z h x own_OB true) (F : own_El Z h xs) : own_El Z h (x :: xs) := fun y hy => (List.mem_cons.mp hy).elim (fun q => q ▸ I) (F y)
theorem own_It.ext {Z : State} {h h' : Heap} {t a : Addr} {cur : Nat} {mc : Int32} (S : own_It Z h t a cur mc) (E : Ext h h') : own_It Z h' t a cur mc := S.keep ((Keep.refl h []).ext E) nin0
theorem own_HMp.ext {Z : State} {h h' : Heap} {m tb : Addr} {occ : List Nat} (S : own_HMp Z h m tb occ) (E : Ext h h') : own_HMp Z h' m tb occ := S.keep ((Keep.refl h []).ext E) nin0 nin0
/-- an Input with k attributes -/
def own_In (Z : State) (gg : own_G) (h : Heap) (i : Addr) (k : Nat) : Prop := Exa Z h i own_INn ∧ ∃ (ky al : Addr) (xs : List Addr), Fld Z h i own_INn "key" "Ljava/lang/String;" (.ref ky) ∧ Ins Z h ky own_OB true ∧ Fld Z h i own_INn "attributes" "Ljava/util/List;" (.ref al) ∧ own_Lst Z gg h al xs ∧ xs.length = k ∧ own_El Z h xs
theorem own_In.keep0 {Z : State} {gg : own_G} {h h' : Heap} {i : Addr} {k : Nat} (S : own_In Z gg h i k) (K : Keep h h' []) : own_In Z gg h' i k := by
  obtain ⟨e1, ky, al, xs, e2, e3, e4, e5, e6, e7⟩ := S
  exact ⟨e1.keep K, ky, al, xs, e2.keep K nin0, own_insK e3 K, e4.keep K nin0, e5.keep0 K, e6, e7.keep K⟩
theorem own_In.ext {Z : State} {gg : own_G} {h h' : Heap} {i : Addr} {k : Nat} (S : own_In Z gg h i k) (E : Ext h h') : own_In Z gg h' i k := S.keep0 ((Keep.refl h []).ext E)
theorem own_ch (y : Int32) : ∃ ch : Nat, y &&& (255 : Int32) = Int32.ofNat ch ∧ ch < 256 := by
  have e1 : (y &&& 255).toInt = y.toInt % 2 ^ 8 := Jvm.Kit.i32_mask y 255 (k := 8) (by decide) (by decide)
  refine ⟨(y &&& 255).toInt.toNat, ?_, by rw [e1]; omega⟩
  rw [← Int32.toInt_inj, own_i32 (by rw [e1]; omega)]
  rw [e1]; omega
theorem own_m3 (y : Int32) : ∃ n : Nat, (y &&& (2147483647 : Int32)) - (y &&& (2147483647 : Int32)) / (3 : Int32) * (3 : Int32) = Int32.ofNat n ∧ n ≤ 2 := by
  have e1 : (y &&& 2147483647).toInt = y.toInt % 2 ^ 31 := Jvm.Kit.i32_mask y 2147483647 (k := 31) (by decide) (by decide)
  have e2 := own_rem (y &&& (2147483647 : Int32)) (3 : Int32) (by rw [e1]; omega) (by decide)
  rw [show (3 : Int32).toInt = 3 from rfl] at e2
  refine ⟨((y &&& (2147483647 : Int32)).toInt % 3).toNat, ?_, by omega⟩
  rw [← Int32.toInt_inj, e2, own_i32 (by omega)]; omega
theorem own_OA.neN {Z : State} {h : Heap} {t u : Addr} {xs ys : List Addr} {N M : Nat} (S : own_OA Z h t xs N) (S' : own_OA Z h u ys M) (hn : N ≠ M) : t ≠ u := fun q => by
  subst q
  obtain ⟨⟨k, ⟨c, A, -, s1, -⟩, -⟩, -, -, l1⟩ := S
  obtain ⟨⟨k', ⟨c', A', -, s2, -⟩, -⟩, -, -, l2⟩ := S'
  cases A.1.symm.trans A'.1
  rw [own_nat (by omega)] at s1 s2
  exact hn (s1.symm.trans s2)
theorem own_ob1 (ch : Nat) : ((31 * 115 + ch) % 16) ∉ [((31 * 107 + ch) % 16)] := fun q => by
  simp only [List.mem_cons, List.not_mem_nil, or_false] at q
  omega
theorem own_ob2 (ch : Nat) : ((31 * 101 + ch) % 16) ∉ [((31 * 115 + ch) % 16), ((31 * 107 + ch) % 16)] := fun q => by
  simp only [List.mem_cons, List.not_mem_nil, or_false] at q
  omega
theorem own_ob3 (ch : Nat) : ((31 * 97 + ch) % 16) ∉ [((31 * 101 + ch) % 16), ((31 * 115 + ch) % 16), ((31 * 107 + ch) % 16)] := fun q => by
  simp only [List.mem_cons, List.not_mem_nil, or_false] at q
  omega
theorem own_ob4 (ch : Nat) : ((31 * 98 + ch) % 16) ∉ [((31 * 97 + ch) % 16), ((31 * 101 + ch) % 16), ((31 * 115 + ch) % 16), ((31 * 107 + ch) % 16)] := fun q => by
  simp only [List.mem_cons, List.not_mem_nil, or_false] at q
  omega
/-- an Input's fields -/
def own_If (Z : State) (h : Heap) (i tn ky sy ey al : Addr) : Prop := Exa Z h i own_INn ∧ Fld Z h i own_INn "table" "Ljava/lang/String;" (.ref tn) ∧ Fld Z h i own_INn "query" "Ljava/lang/String;" .null ∧ Fld Z h i own_INn "key" "Ljava/lang/String;" (.ref ky) ∧ Fld Z h i own_INn "start" "Ljava/lang/String;" (.ref sy) ∧ Fld Z h i own_INn "end" "Ljava/lang/String;" (.ref ey) ∧ Fld Z h i own_INn "attributes" "Ljava/util/List;" (.ref al)
theorem own_If.keep {Z : State} {h h' : Heap} {i tn ky sy ey al : Addr} {ws : List Addr} (S : own_If Z h i tn ky sy ey al) (K : Keep h h' ws) (q : i ∉ ws) : own_If Z h' i tn ky sy ey al := by
  obtain ⟨e1, e2, e3, e4, e5, e6, e7⟩ := S
  exact ⟨e1.keep K, e2.keep K q, e3.keep K q, e4.keep K q, e5.keep K q, e6.keep K q, e7.keep K q⟩
theorem own_If.ext {Z : State} {h h' : Heap} {i tn ky sy ey al : Addr} (S : own_If Z h i tn ky sy ey al) (E : Ext h h') : own_If Z h' i tn ky sy ey al := S.keep ((Keep.refl h []).ext E) nin0
theorem kST_IN : own_STn ≠ own_INn := by decide
theorem kIN_BA : own_INn ≠ "[B" := by decide
theorem kST_AL : own_STn ≠ own_AL := by decide
theorem kAL_BA : own_AL ≠ "[B" := by decide
theorem kIN_AL : own_INn ≠ own_AL := by decide
theorem kST_HS : own_STn ≠ "java/util/HashSet" := by decide
theorem kHS_BA : "java/util/HashSet" ≠ "[B" := by decide
theorem kIN_HS : own_INn ≠ "java/util/HashSet" := by decide
theorem kAL_HS : own_AL ≠ "java/util/HashSet" := by decide
theorem kOA_HS : own_OAn ≠ "java/util/HashSet" := by decide
theorem kST_HM : own_STn ≠ own_HMn := by decide
theorem kST_IT : own_STn ≠ own_ITR := by decide
theorem kHM_BA : own_HMn ≠ "[B" := by decide
theorem kST_BA : own_STn ≠ "[B" := by decide
theorem kIT_BA : own_ITR ≠ "[B" := by decide
theorem kIN_HM : own_INn ≠ own_HMn := by decide
theorem kIN_ST : own_INn ≠ own_STn := by decide
theorem kIN_IT : own_INn ≠ own_ITR := by decide
theorem kAL_HM : own_AL ≠ own_HMn := by decide
theorem kAL_ST : own_AL ≠ own_STn := by decide
theorem kAL_IT : own_AL ≠ own_ITR := by decide
theorem kOA_HM : own_OAn ≠ own_HMn := by decide
theorem kOA_ST : own_OAn ≠ own_STn := by decide
theorem kOA_IT : own_OAn ≠ own_ITR := by decide
theorem kHS_HM : "java/util/HashSet" ≠ own_HMn := by decide
theorem kHS_ST : "java/util/HashSet" ≠ own_STn := by decide
theorem kHS_IT : "java/util/HashSet" ≠ own_ITR := by decide
theorem kHM_ST : own_HMn ≠ own_STn := by decide
theorem kNA_ST : own_NAn ≠ own_STn := by decide
theorem kNA_BA : own_NAn ≠ "[B" := by decide
theorem kHM_IN : own_HMn ≠ own_INn := by decide
theorem kNA_IN : own_NAn ≠ own_INn := by decide
theorem kHM_AL : own_HMn ≠ own_AL := by decide
theorem kNA_AL : own_NAn ≠ own_AL := by decide
theorem kHM_OA : own_HMn ≠ own_OAn := by decide
theorem kNA_OA : own_NAn ≠ own_OAn := by decide
theorem kHM_HS : own_HMn ≠ "java/util/HashSet" := by decide
theorem kNA_HS : own_NAn ≠ "java/util/HashSet" := by decide

abbrev HW (a0 : Array Value) (Z : State) : Prop := ∀ d ∈ tables_1, d.before a0 Z = true
set_option maxRecDepth 65536
set_option maxHeartbeats 40000000
theorem own_sn {Z : State} {a0 : Array Value} {C O n d O' n' d' : String} {a b : Addr} (L : Jvm.RoadKit.Laid Z a0 C O n d) (L' : Jvm.RoadKit.Laid Z a0 C O' n' d') (t t' : FieldType) (hn : n ≠ n' := by decide) (ht : parseFieldDescriptor d = some t := by decide) (ht' : parseFieldDescriptor d' = some t' := by decide) : b ≠ a ∨ Jvm.RoadKit.slotOf Z O n d ≠ Jvm.RoadKit.slotOf Z O' n' d' := Or.inr (Jvm.RoadKit.slot_ne L L' hn ht ht')
theorem qA {p : Program} {l : Launch} {e : Env} {R : Room} {s : State} {m : MethodId} {args : Array Value} {below : List Frame} {meth : Method} {c : ClassFile.Code} {T : State} {locs : List Loc} {cells slots : Nat} (X : Stand p l e R s m args below meth c T locs cells slots) (hx : p.tables.exec = Jvm.exec) {target : State} {g : JFrame} (hg : g.method = m) {k : Fin 4} {v : Value} (hd : decode c.code g.pc = .ok (.aload_n k, 1)) (hl : g.locals[k.val]? = some (.val v)) (hv : v.isRef = true) (hr : Steps p.tables e below (T.setTop { g with pc := g.pc + 1, stack := v :: g.stack }) target) : Steps p.tables e below (T.setTop g) target := XS.aloadN X.here hx hg hd hl hv hr
theorem qa {p : Program} {l : Launch} {e : Env} {R : Room} {s : State} {m : MethodId} {args : Array Value} {below : List Frame} {meth : Method} {c : ClassFile.Code} {T : State} {locs : List Loc} {cells slots : Nat} (X : Stand p l e R s m args below meth c T locs cells slots) (hx : p.tables.exec = Jvm.exec) {target : State} {g : JFrame} (hg : g.method = m) {k : Nat} {v : Value} (hd : decode c.code g.pc = .ok (.aload k, 2)) (hl : g.locals[k]? = some (.val v)) (hv : v.isRef = true) (hr : Steps p.tables e below (T.setTop { g with pc := g.pc + 2, stack := v :: g.stack }) target) : Steps p.tables e below (T.setTop g) target := XS.aload X.here hx hg hd hl hv hr
theorem qI {p : Program} {l : Launch} {e : Env} {R : Room} {s : State} {m : MethodId} {args : Array Value} {below : List Frame} {meth : Method} {c : ClassFile.Code} {T : State} {locs : List Loc} {cells slots : Nat} (X : Stand p l e R s m args below meth c T locs cells slots) (hx : p.tables.exec = Jvm.exec) {target : State} {g : JFrame} (hg : g.method = m) {k : Fin 4} {v : Int32} (hd : decode c.code g.pc = .ok (.iload_n k, 1)) (hl : g.locals[k.val]? = some (.val (.int v))) (hr : Steps p.tables e below (T.setTop { g with pc := g.pc + 1, stack := .int v :: g.stack }) target) : Steps p.tables e below (T.setTop g) target := XS.iloadN X.here hx hg hd hl hr
theorem qi {p : Program} {l : Launch} {e : Env} {R : Room} {s : State} {m : MethodId} {args : Array Value} {below : List Frame} {meth : Method} {c : ClassFile.Code} {T : State} {locs : List Loc} {cells slots : Nat} (X : Stand p l e R s m args below meth c T locs cells slots) (hx : p.tables.exec = Jvm.exec) {target : State} {g : JFrame} (hg : g.method = m) {k : Nat} {v : Int32} (hd : decode c.code g.pc = .ok (.iload k, 2)) (hl : g.locals[k]? = some (.val (.int v))) (hr : Steps p.tables e below (T.setTop { g with pc := g.pc + 2, stack := .int v :: g.stack }) target) : Steps p.tables e below (T.setTop g) target := XS.iload X.here hx hg hd hl hr
theorem qc {p : Program} {l : Launch} {e : Env} {R : Room} {s : State} {m : MethodId} {args : Array Value} {below : List Frame} {meth : Method} {c : ClassFile.Code} {T : State} {locs : List Loc} {cells slots : Nat} (X : Stand p l e R s m args below meth c T locs cells slots) (hx : p.tables.exec = Jvm.exec) {target : State} {g : JFrame} (hg : g.method = m) {i : Int} (hd : decode c.code g.pc = .ok (.iconst i, 1)) (hr : Steps p.tables e below (T.setTop { g with pc := g.pc + 1, stack := .int (Int32.ofInt i) :: g.stack }) target) : Steps p.tables e below (T.setTop g) target := XS.iconst X.here hx hg hd hr
theorem nT {n m k : Nat} (h1 : n ≤ m) (h2 : m ≤ k) : n ≤ k := Nat.le_trans h1 h2
theorem nE {n m : Nat} (h : n = m) : n ≤ m := Nat.le_of_eq h
theorem mI {l : List Addr} {x : Addr} (i : Nat) (h : l[i]? = some x) {P : Prop} : x ∈ l ∨ P := Or.inl (List.mem_of_getElem? h)
theorem nV {r : Option FieldType} {t : FieldType} {v : Option Value} (h : r = some t) : r = none → v = none := fun q => by rw [h] at q; cases q
abbrev J0 : Int32 := 0
abbrev J1 : Int32 := 1
abbrev J2 : Int32 := 2
abbrev J3 : Int32 := 3
abbrev J4 : Int32 := 4
abbrev vR (a : Addr) : Slot := .val (.ref a)
abbrev vI (i : Int32) : Slot := .val (.int i)
abbrev uU : Slot := .unset
abbrev rK (f c s l : Nat) : Room := { frames := f, cells := c, slots := s, locals := l }
abbrev Sx (p : Program) (e : Env) (b : List Frame) (S T : State) (f : JFrame) : Prop := Steps p.tables e b S (T.setTop f)
theorem own_Hw {a0 : Array Value} {Z : State} (hw : ∀ d ∈ tables_1, d.before a0 Z = true) (i : Nat) {d : Jvm.Cond} (h : tables_1[i]? = some d) : d.before a0 Z = true := hw d (List.mem_of_getElem? h)
theorem own_dec {c : ClassFile.Code} {B : ByteArray} {t : List (Nat × Instr × Nat)} (H : ∀ x ∈ t, decode B x.1 = .ok x.2) (hby : c.code = B) (i : Nat) {pc : Nat} {r : Instr × Nat} (h : t[i]? = some (pc, r)) : decode c.code pc = .ok r := by
  have q : decode B pc = .ok r := H (pc, r) (List.mem_of_getElem? h)
  rw [hby]; exact q
theorem own_gen {tb : Tables} {e : Env} {below : List Frame} {T : State} {f g : JFrame} {P : State → Outcome → Prop} (q : f = g) (k : ∀ S0, Steps tb e below S0 (T.setTop g) → ∃ s₂ oo, Steps tb e below S0 s₂ ∧ P s₂ oo) : ∃ s₂ oo, Steps tb e below (T.setTop f) s₂ ∧ P s₂ oo := by
  subst q; exact k _ (Steps.refl _)
abbrev own_M (l : Launch) (y : MethodName) (B : ByteArray) (n : Nat) (rt : Option FieldType) (ws : List Jvm.Cond) (rm : Room) (A : Array Value) (Z : State) (h0 : Heap) (Q : Option Value → Heap → List Loc → Prop) : Prop :=
  MetFree l y (head1 (Jvm.Cond.code y B n rt :: ws) rm) (fun aa UU => aa = A ∧ Z.Warmed39 UU.vm ∧ UU.heap = h0) (fun _ _ _ _ _ => True) (fun _ UU oo UT => ∃ vv LL, oo = .returned vv ∧ Q vv UT.heap LL ∧ FrameEnd UU oo UT LL rm.cells rm.slots)
abbrev own_MW (l : Launch) (y : MethodName) (B : ByteArray) (n : Nat) (rt : Option FieldType) (ws : List Jvm.Cond) (rm : Room) (A : Array Value) (Z : State) (h0 : Heap) (Q : Option Value → Heap → List Loc → Prop) : Prop :=
  MetFree l y (head1 (Jvm.Cond.code y B n rt :: ws) rm) (fun aa UU => aa = A ∧ Z.Warmed39 UU.vm ∧ UU.heap = h0) (fun _ _ _ _ _ => True) (fun _ UU oo UT => ∃ vv LL, oo = .returned vv ∧ Q vv UT.heap LL ∧ ReturnedEndW UU oo UT LL rm.cells rm.slots)
theorem own_open {l : Launch} {y : MethodName} {B : ByteArray} {n : Nat} {rt : Option FieldType} {ws : List Jvm.Cond} {rm : Room} {A : Array Value} {Z : State} {h0 : Heap} {Q : Option Value → Heap → List Loc → Prop} {t : List (Nat × Instr × Nat)} (hpf : plainFor y = true) (H : ∀ x ∈ t, decode B x.1 = .ok x.2)
    (k : ∀ (p : Program) (e : Env) (s : State) (m : MethodId) (below : List Frame) (meth : Method) (c : ClassFile.Code) (s₁ S0 : State), p.tables.exec = Jvm.exec → (∀ (i : Nat) {pc : Nat} {r : Instr × Nat}, t[i]? = some (pc, r) → decode c.code pc = .ok r) → c.code = B → c.maxLocals = n → s.vm.findClass y.cls = some m.cls → meth.name = y.name → meth.sig.returnType = rt → meth.locks = false → Z.Warmed39 s.vm → Stand p l e rm s m A below meth c s₁ [] 0 0 → s₁.heap = h0 → Steps p.tables e below S0 (s₁.setTop (entryFrame m A n)) →
      ∃ s₂ o, Steps p.tables e below S0 s₂ ∧ s₂.status = .running ∧ Ended s₂ below o ∧ (∃ vv LL, o = .returned vv ∧ Q vv s₂.heap LL ∧ FrameEnd s o s₂ LL rm.cells rm.slots)) : own_M l y B n rt ws rm A Z h0 Q := by
  refine MetFree.of_bodySF hpf hisR ?_
  intro p e s m args below meth c s₁ Bd hml0 hP hK
  obtain ⟨rfl, hZ, hh⟩ := hP
  exact k p e s m below meth c s₁ _ Bd.exec (@own_dec _ _ _ H Bd.bytes) Bd.bytes hml0 (findClass_of_methodNamed Bd.named) (name_of_methodNamed Bd.named Bd.method).1 Bd.returns Bd.notSynchronized hZ (Stand.of_body Bd) (by rw [← hh, Bd.state]; rfl) (Steps.refl _)
theorem own_openW {l : Launch} {y : MethodName} {B : ByteArray} {n : Nat} {rt : Option FieldType} {ws : List Jvm.Cond} {rm : Room} {A : Array Value} {Z : State} {h0 : Heap} {Q : Option Value → Heap → List Loc → Prop} {t : List (Nat × Instr × Nat)} (hpf : plainFor y = true) (H : ∀ x ∈ t, decode B x.1 = .ok x.2)
    (k : ∀ (p : Program) (e : Env) (s : State) (m : MethodId) (below : List Frame) (meth : Method) (c : ClassFile.Code) (s₁ S0 : State), p.tables.exec = Jvm.exec → (∀ (i : Nat) {pc : Nat} {r : Instr × Nat}, t[i]? = some (pc, r) → decode c.code pc = .ok r) → c.code = B → c.maxLocals = n → s.vm.findClass y.cls = some m.cls → meth.name = y.name → meth.sig.returnType = rt → meth.locks = false → Z.Warmed39 s.vm → Stand p l e rm s m A below meth c s₁ [] 0 0 → s₁.heap = h0 → Steps p.tables e below S0 (s₁.setTop (entryFrame m A n)) →
      ∃ s₂ o, Steps p.tables e below S0 s₂ ∧ s₂.status = .running ∧ Ended s₂ below o ∧ (∃ vv LL, o = .returned vv ∧ Q vv s₂.heap LL ∧ ReturnedEndW s o s₂ LL rm.cells rm.slots)) : own_MW l y B n rt ws rm A Z h0 Q := by
  refine MetFree.of_bodySF hpf hisR ?_
  intro p e s m args below meth c s₁ Bd hml0 hP hK
  obtain ⟨rfl, hZ, hh⟩ := hP
  exact k p e s m below meth c s₁ _ Bd.exec (@own_dec _ _ _ H Bd.bytes) Bd.bytes hml0 (findClass_of_methodNamed Bd.named) (name_of_methodNamed Bd.named Bd.method).1 Bd.returns Bd.notSynchronized hZ (Stand.of_body Bd) (by rw [← hh, Bd.state]; rfl) (Steps.refl _)
def lB0 : List (Nat × Instr × Nat) := [(0, .aload_n 0, 1), (1, .ifnonnull 11, 3), (12, .aload_n 0, 1), (13, .areturn, 1)]
theorem dB0 : ∀ x ∈ lB0, decode jdk_31_method_10_code x.1 = .ok x.2 := by decide +kernel
def lB1 : List (Nat × Instr × Nat) := [(0, .aload_n 0, 1), (1, .ifnonnull 12, 3), (13, .aload_n 0, 1), (14, .areturn, 1)]
theorem dB1 : ∀ x ∈ lB1, decode jdk_31_method_11_code x.1 = .ok x.2 := by decide +kernel
def lB2 : List (Nat × Instr × Nat) := [(0, .aload_n 0, 1), (1, .invokespecial 1, 3), (4, .return_, 1)]
theorem dB2 : ∀ x ∈ lB2, decode jdk_22_method_1_code x.1 = .ok x.2 := by decide +kernel
def lB3 : List (Nat × Instr × Nat) := [(0, .aload_n 0, 1), (1, .invokespecial 1, 3), (4, .return_, 1)]
theorem dB3 : ∀ x ∈ lB3, decode jdk_47_method_1_code x.1 = .ok x.2 := by decide +kernel
def lB4 : List (Nat × Instr × Nat) := [(0, .aload_n 0, 1), (1, .invokespecial 1, 3), (4, .return_, 1)]
theorem dB4 : ∀ x ∈ lB4, decode jdk_46_method_1_code x.1 = .ok x.2 := by decide +kernel
def lB5 : List (Nat × Instr × Nat) := [(0, .aload_n 0, 1), (1, .invokespecial 1, 3), (4, .return_, 1)]
theorem dB5 : ∀ x ∈ lB5, decode jdk_91_method_1_code x.1 = .ok x.2 := by decide +kernel
def lB6 : List (Nat × Instr × Nat) := [(0, .aload_n 0, 1), (1, .invokespecial 1, 3), (4, .return_, 1)]
theorem dB6 : ∀ x ∈ lB6, decode jdk_71_method_1_code x.1 = .ok x.2 := by decide +kernel
def lB7 : List (Nat × Instr × Nat) := [(0, .aload_n 0, 1), (1, .invokespecial 1, 3), (4, .return_, 1)]
theorem dB7 : ∀ x ∈ lB7, decode prog_10_method_1_code x.1 = .ok x.2 := by decide +kernel
def lB8 : List (Nat × Instr × Nat) := [(0, .aload_n 0, 1), (1, .invokespecial 1, 3), (4, .aload_n 0, 1), (5, .iconst 0, 1), (6, .putfield 7, 3), (9, .return_, 1)]
theorem dB8 : ∀ x ∈ lB8, decode jdk_39_method_1_code x.1 = .ok x.2 := by decide +kernel
def lB9 : List (Nat × Instr × Nat) := [(0, .aload_n 0, 1), (1, .invokespecial 1, 3), (4, .aload_n 0, 1), (5, .aload_n 1, 1), (6, .putfield 7, 3), (9, .aload_n 0, 1), (10, .iload_n 2, 1), (11, .putfield 13, 3), (14, .return_, 1)]
theorem dB9 : ∀ x ∈ lB9, decode jdk_45_method_1_code x.1 = .ok x.2 := by decide +kernel
def lB10 : List (Nat × Instr × Nat) := [(0, .aload_n 0, 1), (1, .invokespecial 1, 3), (4, .aload_n 0, 1), (5, .aload_n 1, 1), (6, .invokestatic 7, 3), (9, .putfield 13, 3), (12, .aload_n 0, 1), (13, .getstatic 19, 3), (16, .putfield 24, 3), (19, .return_, 1)]
theorem dB10 : ∀ x ∈ lB10, decode jdk_44_method_1_code x.1 = .ok x.2 := by decide +kernel
def lB11 : List (Nat × Instr × Nat) := [(0, .aload_n 0, 1), (1, .invokespecial 1, 3), (4, .aload_n 0, 1), (5, .aload_n 1, 1), (6, .invokestatic 7, 3), (9, .putfield 13, 3), (12, .aload_n 0, 1), (13, .aload_n 2, 1), (14, .invokestatic 7, 3), (17, .putfield 24, 3), (20, .return_, 1)]
theorem dB11 : ∀ x ∈ lB11, decode jdk_44_method_2_code x.1 = .ok x.2 := by decide +kernel
def lB12 : List (Nat × Instr × Nat) := [(0, .iload_n 0, 1), (1, .iload_n 1, 1), (2, .if_icmp .gt 7, 3), (5, .iload_n 0, 1), (6, .goto 4, 3), (9, .iload_n 1, 1), (10, .ireturn, 1)]
theorem dB12 : ∀ x ∈ lB12, decode jdk_29_method_69_code x.1 = .ok x.2 := by decide +kernel
def lB13 : List (Nat × Instr × Nat) := [(0, .iload_n 0, 1), (1, .iload_n 1, 1), (2, .if_icmp .lt 7, 3), (5, .iload_n 0, 1), (6, .goto 4, 3), (9, .iload_n 1, 1), (10, .ireturn, 1)]
theorem dB13 : ∀ x ∈ lB13, decode jdk_29_method_65_code x.1 = .ok x.2 := by decide +kernel
def lB14 : List (Nat × Instr × Nat) := [(0, .aload_n 2, 1), (1, .ldc 110, 2), (3, .if_acmp .ne 10, 3), (6, .iload_n 1, 1), (7, .anewarray 2, 3), (10, .goto 14, 3), (24, .astore_n 3, 1), (25, .aload_n 0, 1), (26, .iconst 0, 1), (27, .aload_n 3, 1), (28, .iconst 0, 1), (29, .aload_n 0, 1), (30, .arraylength, 1), (31, .iload_n 1, 1), (32, .invokestatic 304, 3), (35, .invokestatic 150, 3), (38, .aload_n 3, 1), (39, .areturn, 1)]
theorem dB14 : ∀ x ∈ lB14, decode jdk_65_method_120_code x.1 = .ok x.2 := by decide +kernel
def lB15 : List (Nat × Instr × Nat) := [(0, .aload_n 0, 1), (1, .iload_n 1, 1), (2, .aload_n 0, 1), (3, .invokevirtual 86, 3), (6, .invokestatic 300, 3), (9, .areturn, 1)]
theorem dB15 : ∀ x ∈ lB15, decode jdk_65_method_119_code x.1 = .ok x.2 := by decide +kernel
def lB16 : List (Nat × Instr × Nat) := [(0, .aload_n 0, 1), (1, .getfield 7, 3), (4, .aload_n 0, 1), (5, .getfield 7, 3), (8, .arraylength, 1), (9, .invokestatic 29, 3), (12, .areturn, 1)]
theorem dB16 : ∀ x ∈ lB16, decode jdk_45_method_7_code x.1 = .ok x.2 := by decide +kernel
def lB17 : List (Nat × Instr × Nat) := [(0, .aload_n 0, 1), (1, .getfield 7, 3), (4, .arraylength, 1), (5, .ireturn, 1)]
theorem dB17 : ∀ x ∈ lB17, decode jdk_45_method_3_code x.1 = .ok x.2 := by decide +kernel
def lB18 : List (Nat × Instr × Nat) := [(0, .aload_n 0, 1), (1, .getfield 7, 3), (4, .iload_n 1, 1), (5, .aaload, 1), (6, .areturn, 1)]
theorem dB18 : ∀ x ∈ lB18, decode jdk_45_method_4_code x.1 = .ok x.2 := by decide +kernel
def lB19 : List (Nat × Instr × Nat) := [(0, .aload_n 0, 1), (1, .getfield 24, 3), (4, .getstatic 19, 3), (7, .if_acmp .ne 15, 3), (10, .iconst 1, 1), (11, .anewarray 32, 3), (14, .dup, 1), (15, .iconst 0, 1), (16, .aload_n 0, 1), (17, .getfield 13, 3), (20, .aastore, 1), (21, .areturn, 1), (22, .iconst 2, 1), (23, .anewarray 32, 3), (26, .dup, 1), (27, .iconst 0, 1), (28, .aload_n 0, 1), (29, .getfield 13, 3), (32, .aastore, 1), (33, .dup, 1), (34, .iconst 1, 1), (35, .aload_n 0, 1), (36, .getfield 24, 3), (39, .aastore, 1), (40, .areturn, 1)]
theorem dB19 : ∀ x ∈ lB19, decode jdk_44_method_10_code x.1 = .ok x.2 := by decide +kernel
def lB20 : List (Nat × Instr × Nat) := [(0, .aload_n 0, 1), (1, .getfield 24, 3), (4, .getstatic 19, 3), (7, .if_acmp .eq 7, 3), (10, .iconst 2, 1), (11, .goto 4, 3), (14, .iconst 1, 1), (15, .ireturn, 1)]
theorem dB20 : ∀ x ∈ lB20, decode jdk_44_method_3_code x.1 = .ok x.2 := by decide +kernel
def lB21 : List (Nat × Instr × Nat) := [(0, .iload_n 1, 1), (1, .ifCond .ne 8, 3), (4, .aload_n 0, 1), (5, .getfield 13, 3), (8, .areturn, 1), (9, .iload_n 1, 1), (10, .iconst 1, 1), (11, .if_icmp .ne 18, 3), (14, .aload_n 0, 1), (15, .getfield 24, 3), (18, .getstatic 19, 3), (21, .if_acmp .eq 8, 3), (24, .aload_n 0, 1), (25, .getfield 24, 3), (28, .areturn, 1)]
theorem dB21 : ∀ x ∈ lB21, decode jdk_44_method_5_code x.1 = .ok x.2 := by decide +kernel
def lB22 : List (Nat × Instr × Nat) := [(0, .getstatic 90, 3), (3, .areturn, 1)]
theorem dB22 : ∀ x ∈ lB22, decode jdk_40_method_36_code x.1 = .ok x.2 := by decide +kernel
def lB23 : List (Nat × Instr × Nat) := [(0, .new 96, 3), (3, .dup, 1), (4, .aload_n 0, 1), (5, .invokespecial 98, 3), (8, .areturn, 1)]
theorem dB23 : ∀ x ∈ lB23, decode jdk_40_method_37_code x.1 = .ok x.2 := by decide +kernel
def lB24 : List (Nat × Instr × Nat) := [(0, .getstatic 46, 3), (3, .ifCond .ne 20, 3), (23, .aload_n 0, 1), (24, .astore_n 1, 1), (25, .aload_n 1, 1), (26, .arraylength, 1), (27, .istore_n 2, 1), (28, .iconst 0, 1), (29, .istore_n 3, 1), (30, .iload_n 3, 1), (31, .iload_n 2, 1), (32, .if_icmp .ge 20, 3), (35, .aload_n 1, 1), (36, .iload_n 3, 1), (37, .aaload, 1), (38, .astore 4, 2), (40, .aload 4, 2), (42, .invokestatic 37, 3), (45, .pop, 1), (46, .iinc 3 1, 3), (49, .goto (-19), 3), (52, .aload_n 0, 1), (53, .arraylength, 1), (54, .tableswitch 61 0 2 #[26, 32, 45], 26), (115, .new 12, 3), (118, .dup, 1), (119, .aload_n 0, 1), (120, .iconst 0, 1), (121, .invokespecial 43, 3), (124, .areturn, 1)]
theorem dB24 : ∀ x ∈ lB24, decode jdk_56_method_5_code x.1 = .ok x.2 := by decide +kernel
def lB25 : List (Nat × Instr × Nat) := [(0, .iconst 3, 1), (1, .anewarray 103, 3), (4, .dup, 1), (5, .iconst 0, 1), (6, .aload_n 0, 1), (7, .aastore, 1), (8, .dup, 1), (9, .iconst 1, 1), (10, .aload_n 1, 1), (11, .aastore, 1), (12, .dup, 1), (13, .iconst 2, 1), (14, .aload_n 2, 1), (15, .aastore, 1), (16, .invokestatic 105, 3), (19, .areturn, 1)]
theorem dB25 : ∀ x ∈ lB25, decode jdk_40_method_39_code x.1 = .ok x.2 := by decide +kernel
def lB26 : List (Nat × Instr × Nat) := [(0, .aload_n 0, 1), (1, .arraylength, 1), (2, .anewarray 2, 3), (5, .astore_n 1, 1), (6, .iconst 0, 1), (7, .istore_n 2, 1), (8, .iload_n 2, 1), (9, .aload_n 0, 1), (10, .arraylength, 1), (11, .if_icmp .ge 18, 3), (14, .aload_n 1, 1), (15, .iload_n 2, 1), (16, .aload_n 0, 1), (17, .iload_n 2, 1), (18, .aaload, 1), (19, .invokestatic 37, 3), (22, .aastore, 1), (23, .iinc 2 1, 3), (26, .goto (-18), 3), (29, .new 12, 3), (32, .dup, 1), (33, .aload_n 1, 1), (34, .iconst 0, 1), (35, .invokespecial 43, 3), (38, .areturn, 1)]
theorem dB26 : ∀ x ∈ lB26, decode jdk_56_method_4_code x.1 = .ok x.2 := by decide +kernel
def lB27 : List (Nat × Instr × Nat) := [(0, .aload_n 0, 1), (1, .arraylength, 1), (2, .tableswitch 57 0 2 #[26, 32, 43], 26), (34, .new 96, 3), (37, .dup, 1), (38, .aload_n 0, 1), (39, .iconst 0, 1), (40, .aaload, 1), (41, .invokespecial 98, 3), (44, .areturn, 1), (45, .new 96, 3), (48, .dup, 1), (49, .aload_n 0, 1), (50, .iconst 0, 1), (51, .aaload, 1), (52, .aload_n 0, 1), (53, .iconst 1, 1), (54, .aaload, 1), (55, .invokespecial 100, 3), (58, .areturn, 1), (59, .aload_n 0, 1), (60, .invokestatic 109, 3), (63, .areturn, 1)]
theorem dB27 : ∀ x ∈ lB27, decode jdk_40_method_47_code x.1 = .ok x.2 := by decide +kernel
def lB28 : List (Nat × Instr × Nat) := [(0, .aload_n 0, 1), (1, .getfield 48, 3), (4, .ireturn, 1)]
theorem dB28 : ∀ x ∈ lB28, decode jdk_38_method_8_code x.1 = .ok x.2 := by decide +kernel
def lB29 : List (Nat × Instr × Nat) := [(0, .aload_n 0, 1), (1, .getfield 48, 3), (4, .ifCond .ne 7, 3), (11, .iconst 0, 1), (12, .ireturn, 1)]
theorem dB29 : ∀ x ∈ lB29, decode jdk_38_method_9_code x.1 = .ok x.2 := by decide +kernel
def lB30 : List (Nat × Instr × Nat) := [(0, .aload_n 0, 1), (1, .getfield 9, 3), (4, .iload_n 1, 1), (5, .aaload, 1), (6, .areturn, 1)]
theorem dB30 : ∀ x ∈ lB30, decode jdk_38_method_18_code x.1 = .ok x.2 := by decide +kernel
def lB31 : List (Nat × Instr × Nat) := [(0, .iload_n 0, 1), (1, .ifCond .lt 8, 3), (4, .iload_n 0, 1), (5, .iload_n 1, 1), (6, .if_icmp .lt 10, 3), (16, .iload_n 0, 1), (17, .ireturn, 1)]
theorem dB31 : ∀ x ∈ lB31, decode jdk_41_method_11_code x.1 = .ok x.2 := by decide +kernel
def lB32 : List (Nat × Instr × Nat) := [(0, .iload_n 0, 1), (1, .iload_n 1, 1), (2, .aconst_null, 1), (3, .invokestatic 105, 3), (6, .ireturn, 1)]
theorem dB32 : ∀ x ∈ lB32, decode jdk_31_method_17_code x.1 = .ok x.2 := by decide +kernel
def lB33 : List (Nat × Instr × Nat) := [(0, .iload_n 1, 1), (1, .aload_n 0, 1), (2, .getfield 48, 3), (5, .invokestatic 118, 3), (8, .pop, 1), (9, .aload_n 0, 1), (10, .iload_n 1, 1), (11, .invokevirtual 123, 3), (14, .areturn, 1)]
theorem dB33 : ∀ x ∈ lB33, decode jdk_38_method_20_code x.1 = .ok x.2 := by decide +kernel
def lB34 : List (Nat × Instr × Nat) := [(0, .aload_n 0, 1), (1, .getfield 9, 3), (4, .aload_n 0, 1), (5, .getfield 48, 3), (8, .invokestatic 66, 3), (11, .areturn, 1)]
theorem dB34 : ∀ x ∈ lB34, decode jdk_38_method_16_code x.1 = .ok x.2 := by decide +kernel
def lB35 : List (Nat × Instr × Nat) := [(0, .aload_n 0, 1), (1, .invokespecial 1, 3), (4, .aload_n 0, 1), (5, .getstatic 39, 3), (8, .putfield 9, 3), (11, .return_, 1)]
theorem dB35 : ∀ x ∈ lB35, decode jdk_38_method_2_code x.1 = .ok x.2 := by decide +kernel
def lB36 : List (Nat × Instr × Nat) := [(0, .iload_n 0, 1), (1, .iload_n 1, 1), (2, .iload_n 2, 1), (3, .invokestatic 194, 3), (6, .iadd, 1), (7, .istore_n 3, 1), (8, .iconst 0, 1), (9, .iload_n 3, 1), (10, .if_icmp .ge 11, 3), (13, .iload_n 3, 1), (14, .ldc 200, 2), (16, .if_icmp .gt 5, 3), (19, .iload_n 3, 1), (20, .ireturn, 1)]
theorem dB36 : ∀ x ∈ lB36, decode jdk_48_method_27_code x.1 = .ok x.2 := by decide +kernel
def lB37 : List (Nat × Instr × Nat) := [(0, .aload_n 0, 1), (1, .getfield 9, 3), (4, .arraylength, 1), (5, .istore_n 2, 1), (6, .iload_n 2, 1), (7, .ifCond .gt 13, 3), (10, .aload_n 0, 1), (11, .getfield 9, 3), (14, .getstatic 39, 3), (17, .if_acmp .eq 28, 3), (20, .iload_n 2, 1), (21, .iload_n 1, 1), (22, .iload_n 2, 1), (23, .isub, 1), (24, .iload_n 2, 1), (25, .iconst 1, 1), (26, .ishr, 1), (27, .invokestatic 73, 3), (30, .istore_n 3, 1), (31, .aload_n 0, 1), (32, .aload_n 0, 1), (33, .getfield 9, 3), (36, .iload_n 3, 1), (37, .invokestatic 66, 3), (40, .dup_x1, 1), (41, .putfield 9, 3), (44, .areturn, 1), (45, .aload_n 0, 1), (46, .bipush 10, 2), (48, .iload_n 1, 1), (49, .invokestatic 79, 3), (52, .anewarray 7, 3), (55, .dup_x1, 1), (56, .putfield 9, 3), (59, .areturn, 1)]
theorem dB37 : ∀ x ∈ lB37, decode jdk_38_method_6_code x.1 = .ok x.2 := by decide +kernel
def lB38 : List (Nat × Instr × Nat) := [(0, .aload_n 0, 1), (1, .aload_n 0, 1), (2, .getfield 48, 3), (5, .iconst 1, 1), (6, .iadd, 1), (7, .invokevirtual 69, 3), (10, .areturn, 1)]
theorem dB38 : ∀ x ∈ lB38, decode jdk_38_method_7_code x.1 = .ok x.2 := by decide +kernel
def lB39 : List (Nat × Instr × Nat) := [(0, .iload_n 3, 1), (1, .aload_n 2, 1), (2, .arraylength, 1), (3, .if_icmp .ne 8, 3), (6, .aload_n 0, 1), (7, .invokevirtual 129, 3), (10, .astore_n 2, 1), (11, .aload_n 2, 1), (12, .iload_n 3, 1), (13, .aload_n 1, 1), (14, .aastore, 1), (15, .aload_n 0, 1), (16, .iload_n 3, 1), (17, .iconst 1, 1), (18, .iadd, 1), (19, .putfield 48, 3), (22, .return_, 1)]
theorem dB39 : ∀ x ∈ lB39, decode jdk_38_method_24_code x.1 = .ok x.2 := by decide +kernel
def lB40 : List (Nat × Instr × Nat) := [(0, .aload_n 0, 1), (1, .dup, 1), (2, .getfield 63, 3), (5, .iconst 1, 1), (6, .iadd, 1), (7, .putfield 63, 3), (10, .aload_n 0, 1), (11, .aload_n 1, 1), (12, .aload_n 0, 1), (13, .getfield 9, 3), (16, .aload_n 0, 1), (17, .getfield 48, 3), (20, .invokevirtual 131, 3), (23, .iconst 1, 1), (24, .ireturn, 1)]
theorem dB40 : ∀ x ∈ lB40, decode jdk_38_method_25_code x.1 = .ok x.2 := by decide +kernel
def lB41 : List (Nat × Instr × Nat) := [(0, .aload_n 0, 1), (1, .invokespecial 1, 3), (4, .aload_n 1, 1), (5, .invokeinterface 42 1, 5), (10, .astore_n 2, 1), (11, .aload_n 0, 1), (12, .aload_n 2, 1), (13, .arraylength, 1), (14, .dup_x1, 1), (15, .putfield 48, 3), (18, .ifCond .eq 39, 3), (21, .aload_n 1, 1), (22, .invokeinterface 52 1, 5), (27, .ldc 10, 2), (29, .if_acmp .ne 11, 3), (32, .aload_n 0, 1), (33, .aload_n 2, 1), (34, .putfield 9, 3), (37, .goto 27, 3), (40, .aload_n 0, 1), (41, .aload_n 2, 1), (42, .aload_n 0, 1), (43, .getfield 48, 3), (46, .ldc 56, 2), (48, .invokestatic 57, 3), (51, .putfield 9, 3), (54, .goto 10, 3), (64, .return_, 1)]
theorem dB41 : ∀ x ∈ lB41, decode jdk_38_method_3_code x.1 = .ok x.2 := by decide +kernel
def lB42 : List (Nat × Instr × Nat) := [(0, .aload_n 1, 1), (1, .invokeinterface 42 1, 5), (6, .astore_n 2, 1), (7, .aload_n 0, 1), (8, .dup, 1), (9, .getfield 63, 3), (12, .iconst 1, 1), (13, .iadd, 1), (14, .putfield 63, 3), (17, .aload_n 2, 1), (18, .arraylength, 1), (19, .istore_n 3, 1), (20, .iload_n 3, 1), (21, .ifCond .ne 5, 3), (24, .iconst 0, 1), (25, .ireturn, 1), (26, .iload_n 3, 1), (27, .aload_n 0, 1), (28, .getfield 9, 3), (31, .dup, 1), (32, .astore 4, 2), (34, .arraylength, 1), (35, .aload_n 0, 1), (36, .getfield 48, 3), (39, .dup, 1), (40, .istore 5, 2), (42, .isub, 1), (43, .if_icmp .le 13, 3), (46, .aload_n 0, 1), (47, .iload 5, 2), (49, .iload_n 3, 1), (50, .iadd, 1), (51, .invokevirtual 69, 3), (54, .astore 4, 2), (56, .aload_n 2, 1), (57, .iconst 0, 1), (58, .aload 4, 2), (60, .iload 5, 2), (62, .iload_n 3, 1), (63, .invokestatic 112, 3), (66, .aload_n 0, 1), (67, .iload 5, 2), (69, .iload_n 3, 1), (70, .iadd, 1), (71, .putfield 48, 3), (74, .iconst 1, 1), (75, .ireturn, 1)]
theorem dB42 : ∀ x ∈ lB42, decode jdk_38_method_41_code x.1 = .ok x.2 := by decide +kernel
def lB43 : List (Nat × Instr × Nat) := [(0, .aload_n 0, 1), (1, .aload_n 1, 1), (2, .putfield 1, 3), (5, .aload_n 0, 1), (6, .invokespecial 7, 3), (9, .aload_n 0, 1), (10, .iconst (-1), 1), (11, .putfield 13, 3), (14, .aload_n 0, 1), (15, .aload_n 0, 1), (16, .getfield 1, 3), (19, .getfield 17, 3), (22, .putfield 22, 3), (25, .return_, 1)]
theorem dB43 : ∀ x ∈ lB43, decode jdk_49_method_1_code x.1 = .ok x.2 := by decide +kernel
def lB44 : List (Nat × Instr × Nat) := [(0, .new 267, 3), (3, .dup, 1), (4, .aload_n 0, 1), (5, .invokespecial 269, 3), (8, .areturn, 1)]
theorem dB44 : ∀ x ∈ lB44, decode jdk_38_method_55_code x.1 = .ok x.2 := by decide +kernel
def lB45 : List (Nat × Instr × Nat) := [(0, .aload_n 0, 1), (1, .getfield 25, 3), (4, .aload_n 0, 1), (5, .getfield 1, 3), (8, .getfield 28, 3), (11, .if_icmp .eq 7, 3), (14, .iconst 1, 1), (15, .goto 4, 3), (18, .iconst 0, 1), (19, .ireturn, 1)]
theorem dB45 : ∀ x ∈ lB45, decode jdk_49_method_2_code x.1 = .ok x.2 := by decide +kernel
def lB46 : List (Nat × Instr × Nat) := [(0, .aload_n 0, 1), (1, .getfield 1, 3), (4, .getfield 17, 3), (7, .aload_n 0, 1), (8, .getfield 22, 3), (11, .if_icmp .eq 11, 3), (22, .return_, 1)]
theorem dB46 : ∀ x ∈ lB46, decode jdk_49_method_6_code x.1 = .ok x.2 := by decide +kernel
def lB47 : List (Nat × Instr × Nat) := [(0, .aload_n 0, 1), (1, .invokevirtual 31, 3), (4, .aload_n 0, 1), (5, .getfield 25, 3), (8, .istore_n 1, 1), (9, .iload_n 1, 1), (10, .aload_n 0, 1), (11, .getfield 1, 3), (14, .getfield 28, 3), (17, .if_icmp .lt 11, 3), (28, .aload_n 0, 1), (29, .getfield 1, 3), (32, .getfield 37, 3), (35, .astore_n 2, 1), (36, .iload_n 1, 1), (37, .aload_n 2, 1), (38, .arraylength, 1), (39, .if_icmp .lt 11, 3), (50, .aload_n 0, 1), (51, .iload_n 1, 1), (52, .iconst 1, 1), (53, .iadd, 1), (54, .putfield 25, 3), (57, .aload_n 2, 1), (58, .aload_n 0, 1), (59, .iload_n 1, 1), (60, .dup_x1, 1), (61, .putfield 13, 3), (64, .aaload, 1), (65, .areturn, 1)]
theorem dB47 : ∀ x ∈ lB47, decode jdk_49_method_3_code x.1 = .ok x.2 := by decide +kernel
def lB48 : List (Nat × Instr × Nat) := [(0, .iconst 0, 1), (1, .istore 5, 2), (3, .iload 5, 2), (5, .iload 4, 2), (7, .if_icmp .ge 37, 3), (10, .aload_n 0, 1), (11, .iload_n 1, 1), (12, .caload, 1), (13, .istore 6, 2), (15, .iload 6, 2), (17, .sipush 255, 3), (20, .if_icmp .le 6, 3), (26, .aload_n 2, 1), (27, .iload_n 3, 1), (28, .iload 6, 2), (30, .i2b, 1), (31, .bastore, 1), (32, .iinc 1 1, 3), (35, .iinc 3 1, 3), (38, .iinc 5 1, 3), (41, .goto (-38), 3), (44, .iload 4, 2), (46, .ireturn, 1)]
theorem dB48 : ∀ x ∈ lB48, decode jdk_52_method_21_code x.1 = .ok x.2 := by decide +kernel
def lB49 : List (Nat × Instr × Nat) := [(0, .iload_n 2, 1), (1, .newarray .byte, 2), (3, .astore_n 3, 1), (4, .aload_n 0, 1), (5, .iload_n 1, 1), (6, .aload_n 3, 1), (7, .iconst 0, 1), (8, .iload_n 2, 1), (9, .invokestatic 115, 3), (12, .istore 4, 2), (14, .iload 4, 2), (16, .iload_n 2, 1), (17, .if_icmp .eq 40, 3), (57, .aload_n 3, 1), (58, .areturn, 1)]
theorem dB49 : ∀ x ∈ lB49, decode jdk_52_method_16_code x.1 = .ok x.2 := by decide +kernel
def lB50 : List (Nat × Instr × Nat) := [(0, .iload_n 1, 1), (1, .aload_n 0, 1), (2, .arraylength, 1), (3, .isub, 1), (4, .bipush 31, 2), (6, .iushr, 1), (7, .i2b, 1), (8, .ireturn, 1)]
theorem dB50 : ∀ x ∈ lB50, decode jdk_52_method_15_code x.1 = .ok x.2 := by decide +kernel
def lB51 : List (Nat × Instr × Nat) := [(0, .aload_n 0, 1), (1, .invokespecial 1, 3), (4, .iload_n 3, 1), (5, .ifCond .ne 22, 3), (27, .getstatic 38, 3), (30, .ifCond .eq 28, 3), (33, .aload_n 1, 1), (34, .iload_n 2, 1), (35, .iload_n 3, 1), (36, .invokestatic 177, 3), (39, .astore 5, 2), (41, .aload_n 0, 1), (42, .aload 5, 2), (44, .iload_n 3, 1), (45, .invokestatic 47, 3), (48, .putfield 15, 3), (51, .aload_n 0, 1), (52, .aload 5, 2), (54, .putfield 9, 3), (57, .return_, 1)]
theorem dB51 : ∀ x ∈ lB51, decode jdk_42_method_149_code x.1 = .ok x.2 := by decide +kernel
def lB52 : List (Nat × Instr × Nat) := [(0, .aload_n 0, 1), (1, .aload_n 1, 1), (2, .iconst 0, 1), (3, .aload_n 1, 1), (4, .arraylength, 1), (5, .aconst_null, 1), (6, .invokespecial 27, 3), (9, .return_, 1)]
theorem dB52 : ∀ x ∈ lB52, decode jdk_42_method_3_code x.1 = .ok x.2 := by decide +kernel
def lB53 : List (Nat × Instr × Nat) := [(0, .new 7, 3), (3, .dup, 1), (4, .iconst 2, 1), (5, .newarray .char, 2), (7, .dup, 1), (8, .iconst 0, 1), (9, .iload_n 0, 1), (10, .castore, 1), (11, .dup, 1), (12, .iconst 1, 1), (13, .iload_n 1, 1), (14, .sipush 255, 3), (17, .iand, 1), (18, .i2c, 1), (19, .castore, 1), (20, .invokespecial 9, 3), (23, .areturn, 1)]
theorem dB53 : ∀ x ∈ lB53, decode method_2_code x.1 = .ok x.2 := by decide +kernel
def lB54 : List (Nat × Instr × Nat) := [(0, .iload_n 2, 1), (1, .iload_n 3, 1), (2, .iadd, 1), (3, .istore 4, 2), (5, .iload_n 2, 1), (6, .istore 5, 2), (8, .iload 5, 2), (10, .iload 4, 2), (12, .if_icmp .ge 23, 3), (15, .bipush 31, 2), (17, .iload_n 0, 1), (18, .imul, 1), (19, .aload_n 1, 1), (20, .iload 5, 2), (22, .baload, 1), (23, .sipush 255, 3), (26, .iand, 1), (27, .iadd, 1), (28, .istore_n 0, 1), (29, .iinc 5 1, 3), (32, .goto (-24), 3), (35, .iload_n 0, 1), (36, .ireturn, 1)]
theorem dB54 : ∀ x ∈ lB54, decode jdk_48_method_5_code x.1 = .ok x.2 := by decide +kernel
def lB55 : List (Nat × Instr × Nat) := [(0, .iload 4, 2), (2, .tableswitch 127 4 10 #[42, 55, 127, 127, 88, 101, 114], 42), (44, .iload_n 3, 1), (45, .aload_n 0, 1), (46, .checkcast 60, 3), (49, .iload_n 1, 1), (50, .iload_n 2, 1), (51, .invokestatic 62, 3), (54, .goto 103, 3), (157, .ireturn, 1)]
theorem dB55 : ∀ x ∈ lB55, decode jdk_48_method_4_code x.1 = .ok x.2 := by decide +kernel
def lB56 : List (Nat × Instr × Nat) := [(0, .aload_n 0, 1), (1, .arraylength, 1), (2, .lookupswitch 40 #[(0, 26), (1, 30)], 26), (42, .aload_n 0, 1), (43, .iconst 0, 1), (44, .aload_n 0, 1), (45, .arraylength, 1), (46, .iconst 0, 1), (47, .iconst 4, 1), (48, .invokestatic 84, 3), (51, .ireturn, 1)]
theorem dB56 : ∀ x ∈ lB56, decode jdk_43_method_21_code x.1 = .ok x.2 := by decide +kernel
def lB57 : List (Nat × Instr × Nat) := [(0, .getstatic 38, 3), (3, .ifCond .eq 14, 3), (6, .aload_n 0, 1), (7, .getfield 15, 3), (10, .ifCond .ne 7, 3), (13, .iconst 1, 1), (14, .goto 4, 3), (18, .ireturn, 1)]
theorem dB57 : ∀ x ∈ lB57, decode jdk_42_method_154_code x.1 = .ok x.2 := by decide +kernel
def lB58 : List (Nat × Instr × Nat) := [(0, .aload_n 0, 1), (1, .getfield 19, 3), (4, .istore_n 1, 1), (5, .iload_n 1, 1), (6, .ifCond .ne 52, 3), (9, .aload_n 0, 1), (10, .getfield 23, 3), (13, .ifCond .ne 45, 3), (16, .aload_n 0, 1), (17, .invokevirtual 492, 3), (20, .ifCond .eq 13, 3), (23, .aload_n 0, 1), (24, .getfield 9, 3), (27, .invokestatic 628, 3), (30, .goto 10, 3), (40, .istore_n 1, 1), (41, .iload_n 1, 1), (42, .ifCond .ne 11, 3), (53, .aload_n 0, 1), (54, .iload_n 1, 1), (55, .putfield 19, 3), (58, .iload_n 1, 1), (59, .ireturn, 1)]
theorem dB58 : ∀ x ∈ lB58, decode jdk_42_method_78_code x.1 = .ok x.2 := by decide +kernel
def lB59 : List (Nat × Instr × Nat) := [(0, .aload_n 0, 1), (1, .ifnonnull 7, 3), (8, .aload_n 0, 1), (9, .invokevirtual 1, 3), (12, .dup, 1), (13, .istore_n 1, 1), (14, .iload_n 1, 1), (15, .bipush 16, 2), (17, .iushr, 1), (18, .ixor, 1), (19, .ireturn, 1)]
theorem dB59 : ∀ x ∈ lB59, decode jdk_69_method_1_code x.1 = .ok x.2 := by decide +kernel
def lB60 : List (Nat × Instr × Nat) := [(0, .aload_n 0, 1), (1, .invokespecial 1, 3), (4, .aload_n 0, 1), (5, .iload_n 1, 1), (6, .putfield 7, 3), (9, .aload_n 0, 1), (10, .aload_n 2, 1), (11, .putfield 13, 3), (14, .aload_n 0, 1), (15, .aload_n 3, 1), (16, .putfield 17, 3), (19, .aload_n 0, 1), (20, .aload 4, 2), (22, .putfield 20, 3), (25, .return_, 1)]
theorem dB60 : ∀ x ∈ lB60, decode jdk_70_method_1_code x.1 = .ok x.2 := by decide +kernel
def lB61 : List (Nat × Instr × Nat) := [(0, .new 163, 3), (3, .dup, 1), (4, .iload_n 1, 1), (5, .aload_n 2, 1), (6, .aload_n 3, 1), (7, .aload 4, 2), (9, .invokespecial 375, 3), (12, .areturn, 1)]
theorem dB61 : ∀ x ∈ lB61, decode jdk_69_method_46_code x.1 = .ok x.2 := by decide +kernel
def lB62 : List (Nat × Instr × Nat) := [(0, .return_, 1)]
theorem dB62 : ∀ x ∈ lB62, decode jdk_69_method_52_code x.1 = .ok x.2 := by decide +kernel
def lB63 : List (Nat × Instr × Nat) := [(0, .aload_n 0, 1), (1, .getfield 105, 3), (4, .astore_n 1, 1), (5, .aload_n 1, 1), (6, .ifnonnull 7, 3), (9, .iconst 0, 1), (10, .goto 5, 3), (15, .istore_n 2, 1), (16, .aload_n 0, 1), (17, .getfield 88, 3), (20, .istore_n 3, 1), (21, .iconst 0, 1), (22, .istore 5, 2), (24, .iload_n 2, 1), (25, .ifCond .le 42, 3), (67, .iload_n 3, 1), (68, .ifCond .le 9, 3), (77, .bipush 16, 2), (79, .istore 4, 2), (81, .bipush 12, 2), (83, .istore 5, 2), (85, .iload 5, 2), (87, .ifCond .ne 38, 3), (125, .aload_n 0, 1), (126, .iload 5, 2), (128, .putfield 88, 3), (131, .iload 4, 2), (133, .anewarray 163, 3), (136, .astore 6, 2), (138, .aload_n 0, 1), (139, .aload 6, 2), (141, .putfield 105, 3), (144, .aload_n 1, 1), (145, .ifnull 208, 3), (353, .aload 6, 2), (355, .areturn, 1)]
theorem dB63 : ∀ x ∈ lB63, decode jdk_69_method_17_code x.1 = .ok x.2 := by decide +kernel
def lB64 : List (Nat × Instr × Nat) := [(0, .aload_n 0, 1), (1, .getfield 105, 3), (4, .dup, 1), (5, .astore 6, 2), (7, .ifnull 12, 3), (10, .aload 6, 2), (12, .arraylength, 1), (13, .dup, 1), (14, .istore 8, 2), (16, .ifCond .ne 13, 3), (19, .aload_n 0, 1), (20, .invokevirtual 117, 3), (23, .dup, 1), (24, .astore 6, 2), (26, .arraylength, 1), (27, .istore 8, 2), (29, .aload 6, 2), (31, .iload 8, 2), (33, .iconst 1, 1), (34, .isub, 1), (35, .iload_n 1, 1), (36, .iand, 1), (37, .dup, 1), (38, .istore 9, 2), (40, .aaload, 1), (41, .dup, 1), (42, .astore 7, 2), (44, .ifnonnull 19, 3), (47, .aload 6, 2), (49, .iload 9, 2), (51, .aload_n 0, 1), (52, .iload_n 1, 1), (53, .aload_n 2, 1), (54, .aload_n 3, 1), (55, .aconst_null, 1), (56, .invokevirtual 186, 3), (59, .aastore, 1), (60, .goto 199, 3), (259, .aload_n 0, 1), (260, .dup, 1), (261, .getfield 202, 3), (264, .iconst 1, 1), (265, .iadd, 1), (266, .putfield 202, 3), (269, .aload_n 0, 1), (270, .dup, 1), (271, .getfield 156, 3), (274, .iconst 1, 1), (275, .iadd, 1), (276, .dup_x1, 1), (277, .putfield 156, 3), (280, .aload_n 0, 1), (281, .getfield 88, 3), (284, .if_icmp .le 8, 3), (292, .aload_n 0, 1), (293, .iload 5, 2), (295, .invokevirtual 205, 3), (298, .aconst_null, 1), (299, .areturn, 1)]
theorem dB64 : ∀ x ∈ lB64, decode jdk_69_method_16_code x.1 = .ok x.2 := by decide +kernel
def lB65 : List (Nat × Instr × Nat) := [(0, .aload_n 0, 1), (1, .aload_n 1, 1), (2, .invokestatic 149, 3), (5, .aload_n 1, 1), (6, .aload_n 2, 1), (7, .iconst 0, 1), (8, .iconst 1, 1), (9, .invokevirtual 152, 3), (12, .areturn, 1)]
theorem dB65 : ∀ x ∈ lB65, decode jdk_69_method_15_code x.1 = .ok x.2 := by decide +kernel
def lB66 : List (Nat × Instr × Nat) := [(0, .aload_n 0, 1), (1, .getfield 10, 3), (4, .aload_n 1, 1), (5, .getstatic 64, 3), (8, .invokevirtual 68, 3), (11, .ifnonnull 7, 3), (14, .iconst 1, 1), (15, .goto 4, 3), (19, .ireturn, 1)]
theorem dB66 : ∀ x ∈ lB66, decode jdk_93_method_10_code x.1 = .ok x.2 := by decide +kernel
def lB67 : List (Nat × Instr × Nat) := [(0, .aload_n 0, 1), (1, .invokespecial 43, 3), (4, .aload_n 0, 1), (5, .ldc 92, 2), (7, .putfield 81, 3), (10, .return_, 1)]
theorem dB67 : ∀ x ∈ lB67, decode jdk_69_method_7_code x.1 = .ok x.2 := by decide +kernel
def lB68 : List (Nat × Instr × Nat) := [(0, .aload_n 0, 1), (1, .invokespecial 1, 3), (4, .aload_n 0, 1), (5, .new 7, 3), (8, .dup, 1), (9, .invokespecial 9, 3), (12, .putfield 10, 3), (15, .return_, 1)]
theorem dB68 : ∀ x ∈ lB68, decode jdk_93_method_1_code x.1 = .ok x.2 := by decide +kernel
def lB69 : List (Nat × Instr × Nat) := [(0, .aload_n 0, 1), (1, .instanceof 10, 3), (4, .ifCond .ne 22, 3), (7, .aload_n 0, 1), (8, .instanceof 12, 3), (11, .ifCond .eq 20, 3), (14, .aload_n 0, 1), (15, .checkcast 12, 3), (18, .astore_n 1, 1), (19, .aload_n 1, 1), (20, .getfield 14, 3), (23, .ifCond .ne 8, 3), (26, .aload_n 0, 1), (27, .checkcast 18, 3), (30, .areturn, 1), (31, .aload_n 0, 1), (32, .invokeinterface 20 1, 5), (37, .ifCond .eq 7, 3), (44, .aload_n 0, 1), (45, .invokeinterface 30 1, 5), (50, .invokestatic 34, 3), (53, .areturn, 1)]
theorem dB69 : ∀ x ∈ lB69, decode jdk_56_method_3_code x.1 = .ok x.2 := by decide +kernel
def lB70 : List (Nat × Instr × Nat) := [(0, .aload_n 0, 1), (1, .invokestatic 112, 3), (4, .areturn, 1)]
theorem dB70 : ∀ x ∈ lB70, decode jdk_40_method_48_code x.1 = .ok x.2 := by decide +kernel
def lB71 : List (Nat × Instr × Nat) := [(0, .aload_n 0, 1), (1, .invokespecial 1, 3), (4, .aload_n 0, 1), (5, .aload_n 1, 1), (6, .putfield 7, 3), (9, .aload_n 0, 1), (10, .aload_n 2, 1), (11, .putfield 13, 3), (14, .aload_n 0, 1), (15, .aload_n 3, 1), (16, .ldc 16, 2), (18, .invokestatic 18, 3), (21, .checkcast 24, 3), (24, .putfield 26, 3), (27, .aload_n 0, 1), (28, .aload 4, 2), (30, .ldc 28, 2), (32, .invokestatic 18, 3), (35, .checkcast 24, 3), (38, .putfield 30, 3), (41, .aload_n 0, 1), (42, .aload 5, 2), (44, .ldc 32, 2), (46, .invokestatic 18, 3), (49, .checkcast 24, 3), (52, .putfield 34, 3), (55, .aload_n 0, 1), (56, .aload 6, 2), (58, .invokestatic 36, 3), (61, .putfield 42, 3), (64, .new 46, 3), (67, .dup, 1), (68, .aload_n 3, 1), (69, .aload 4, 2), (71, .aload 5, 2), (73, .invokestatic 48, 3), (76, .invokespecial 52, 3), (79, .astore 7, 2), (81, .aload 7, 2), (83, .aload_n 0, 1), (84, .getfield 42, 3), (87, .invokevirtual 55, 3), (90, .pop, 1), (91, .new 59, 3), (94, .dup, 1), (95, .invokespecial 61, 3), (98, .astore 8, 2), (100, .aload 7, 2), (102, .invokevirtual 62, 3), (105, .astore 9, 2), (107, .aload 9, 2), (109, .invokeinterface 66 1, 5), (114, .ifCond .eq 43, 3), (117, .aload 9, 2), (119, .invokeinterface 72 1, 5), (124, .checkcast 24, 3), (127, .astore 10, 2), (129, .aload 8, 2), (131, .aload 10, 2), (133, .invokevirtual 76, 3), (136, .ifCond .ne 18, 3), (154, .goto (-47), 3), (157, .return_, 1)]
theorem dB71 : ∀ x ∈ lB71, decode prog_11_method_1_code x.1 = .ok x.2 := by decide +kernel
def lB72 : List (Nat × Instr × Nat) := [(0, .aload_n 0, 1), (1, .ldc 89, 2), (3, .invokestatic 18, 3), (6, .pop, 1), (7, .new 8, 3), (10, .dup, 1), (11, .aload_n 0, 1), (12, .aconst_null, 1), (13, .aload_n 1, 1), (14, .aload_n 2, 1), (15, .aload_n 3, 1), (16, .invokestatic 90, 3), (19, .invokespecial 93, 3), (22, .areturn, 1)]
theorem dB72 : ∀ x ∈ lB72, decode prog_11_method_2_code x.1 = .ok x.2 := by decide +kernel
def lB73 : List (Nat × Instr × Nat) := [(0, .aload_n 1, 1), (1, .ldc 102, 2), (3, .invokestatic 18, 3), (6, .pop, 1), (7, .new 8, 3), (10, .dup, 1), (11, .aload_n 0, 1), (12, .getfield 7, 3), (15, .aload_n 0, 1), (16, .getfield 13, 3), (19, .aload_n 0, 1), (20, .getfield 26, 3), (23, .aload_n 0, 1), (24, .getfield 30, 3), (27, .aload_n 0, 1), (28, .getfield 34, 3), (31, .aload_n 1, 1), (32, .invokestatic 103, 3), (35, .invokespecial 93, 3), (38, .areturn, 1)]
theorem dB73 : ∀ x ∈ lB73, decode prog_11_method_4_code x.1 = .ok x.2 := by decide +kernel
def lB74 : List (Nat × Instr × Nat) := [(0, .new 46, 3), (3, .dup, 1), (4, .aload_n 0, 1), (5, .getfield 26, 3), (8, .invokestatic 178, 3), (11, .invokespecial 52, 3), (14, .astore_n 1, 1), (15, .aload_n 1, 1), (16, .aload_n 0, 1), (17, .getfield 42, 3), (20, .invokevirtual 55, 3), (23, .pop, 1), (24, .aload_n 1, 1), (25, .areturn, 1)]
theorem dB74 : ∀ x ∈ lB74, decode prog_11_method_14_code x.1 = .ok x.2 := by decide +kernel
def lB75 : List (Nat × Instr × Nat) := [(0, .aload_n 0, 1), (1, .iconst 0, 1), (2, .invokeinterface 106 2, 5), (7, .checkcast 8, 3), (10, .invokevirtual 110, 3), (13, .invokeinterface 113 1, 5), (18, .istore_n 1, 1), (19, .iconst 1, 1), (20, .istore_n 2, 1), (21, .iload_n 2, 1), (22, .aload_n 0, 1), (23, .invokeinterface 113 1, 5), (28, .if_icmp .ge 77, 3), (31, .aload_n 0, 1), (32, .iload_n 2, 1), (33, .invokeinterface 106 2, 5), (38, .checkcast 8, 3), (41, .invokevirtual 110, 3), (44, .invokeinterface 113 1, 5), (49, .istore_n 3, 1), (50, .iload_n 3, 1), (51, .iload_n 1, 1), (52, .if_icmp .eq 47, 3), (99, .iinc 2 1, 3), (102, .goto (-81), 3), (105, .aload_n 0, 1), (106, .invokestatic 36, 3), (109, .areturn, 1)]
theorem dB75 : ∀ x ∈ lB75, decode prog_11_method_5_code x.1 = .ok x.2 := by decide +kernel
def lB76 : List (Nat × Instr × Nat) := [(0, .iload_n 0, 1), (1, .sipush 255, 3), (4, .if_icmp .gt 7, 3), (7, .iconst 1, 1), (8, .goto 4, 3), (12, .ireturn, 1)]
theorem dB76 : ∀ x ∈ lB76, decode jdk_43_method_3_code x.1 = .ok x.2 := by decide +kernel
def lB77 : List (Nat × Instr × Nat) := [(0, .iconst 1, 1), (1, .newarray .byte, 2), (3, .dup, 1), (4, .iconst 0, 1), (5, .iload_n 0, 1), (6, .i2b, 1), (7, .bastore, 1), (8, .areturn, 1)]
theorem dB77 : ∀ x ∈ lB77, decode jdk_43_method_46_code x.1 = .ok x.2 := by decide +kernel
def lB78 : List (Nat × Instr × Nat) := [(0, .aload_n 0, 1), (1, .invokespecial 1, 3), (4, .aload_n 0, 1), (5, .aload_n 1, 1), (6, .putfield 9, 3), (9, .aload_n 0, 1), (10, .iload_n 2, 1), (11, .putfield 15, 3), (14, .return_, 1)]
theorem dB78 : ∀ x ∈ lB78, decode jdk_42_method_151_code x.1 = .ok x.2 := by decide +kernel
def lB79 : List (Nat × Instr × Nat) := [(0, .getstatic 38, 3), (3, .ifCond .eq 23, 3), (6, .iload_n 0, 1), (7, .invokestatic 1015, 3), (10, .ifCond .eq 16, 3), (13, .new 10, 3), (16, .dup, 1), (17, .iload_n 0, 1), (18, .invokestatic 1018, 3), (21, .iconst 0, 1), (22, .invokespecial 209, 3), (25, .areturn, 1)]
theorem dB79 : ∀ x ∈ lB79, decode jdk_42_method_139_code x.1 = .ok x.2 := by decide +kernel
def lB80 : List (Nat × Instr × Nat) := [(0, .iload_n 1, 1), (1, .sipush 255, 3), (4, .iand, 1), (5, .i2c, 1), (6, .invokestatic 12, 3), (9, .bipush 107, 2), (11, .iload_n 1, 1), (12, .invokestatic 16, 3), (15, .bipush 115, 2), (17, .iload_n 1, 1), (18, .invokestatic 16, 3), (21, .bipush 101, 2), (23, .iload_n 1, 1), (24, .invokestatic 16, 3), (27, .invokestatic 22, 3), (30, .astore_n 2, 1), (31, .iload_n 0, 1), (32, .ifCond .ne 5, 3), (35, .aload_n 2, 1), (36, .areturn, 1), (37, .iload_n 0, 1), (38, .iconst 1, 1), (39, .if_icmp .ne 21, 3), (42, .aload_n 2, 1), (43, .iconst 1, 1), (44, .anewarray 7, 3), (47, .dup, 1), (48, .iconst 0, 1), (49, .bipush 97, 2), (51, .iload_n 1, 1), (52, .invokestatic 16, 3), (55, .aastore, 1), (56, .invokevirtual 28, 3), (59, .areturn, 1), (60, .aload_n 2, 1), (61, .iconst 2, 1), (62, .anewarray 7, 3), (65, .dup, 1), (66, .iconst 0, 1), (67, .bipush 97, 2), (69, .iload_n 1, 1), (70, .invokestatic 16, 3), (73, .aastore, 1), (74, .dup, 1), (75, .iconst 1, 1), (76, .bipush 98, 2), (78, .iload_n 1, 1), (79, .invokestatic 16, 3), (82, .aastore, 1), (83, .invokevirtual 28, 3), (86, .areturn, 1)]
theorem dB80 : ∀ x ∈ lB80, decode method_3_code x.1 = .ok x.2 := by decide +kernel
abbrev yM0 : MethodName := ⟨"java/util/Objects", "requireNonNull", "(Ljava/lang/Object;)Ljava/lang/Object;"⟩
abbrev yM1 : MethodName := ⟨"java/util/Objects", "requireNonNull", "(Ljava/lang/Object;Ljava/lang/String;)Ljava/lang/Object;"⟩
abbrev yM2 : MethodName := ⟨"java/util/AbstractCollection", "<init>", "()V"⟩
abbrev yM3 : MethodName := ⟨"java/util/ImmutableCollections$AbstractImmutableCollection", "<init>", "()V"⟩
abbrev yM4 : MethodName := ⟨"java/util/ImmutableCollections$AbstractImmutableList", "<init>", "()V"⟩
abbrev yM5 : MethodName := ⟨"java/util/AbstractSet", "<init>", "()V"⟩
abbrev yM6 : MethodName := ⟨"java/util/AbstractMap", "<init>", "()V"⟩
abbrev yM7 : MethodName := ⟨"com/example/spanfold/spanfold/Expression", "<init>", "()V"⟩
abbrev yM8 : MethodName := ⟨"java/util/AbstractList", "<init>", "()V"⟩
abbrev yM9 : MethodName := ⟨"java/util/ImmutableCollections$ListN", "<init>", "([Ljava/lang/Object;Z)V"⟩
abbrev yM10 : MethodName := ⟨"java/util/ImmutableCollections$List12", "<init>", "(Ljava/lang/Object;)V"⟩
abbrev yM11 : MethodName := ⟨"java/util/ImmutableCollections$List12", "<init>", "(Ljava/lang/Object;Ljava/lang/Object;)V"⟩
abbrev yM12 : MethodName := ⟨"java/lang/Math", "min", "(II)I"⟩
abbrev yM13 : MethodName := ⟨"java/lang/Math", "max", "(II)I"⟩
abbrev yM14 : MethodName := ⟨"java/util/Arrays", "copyOf", "([Ljava/lang/Object;ILjava/lang/Class;)[Ljava/lang/Object;"⟩
abbrev yM15 : MethodName := ⟨"java/util/Arrays", "copyOf", "([Ljava/lang/Object;I)[Ljava/lang/Object;"⟩
abbrev yM16 : MethodName := ⟨"java/util/ImmutableCollections$ListN", "toArray", "()[Ljava/lang/Object;"⟩
abbrev yM17 : MethodName := ⟨"java/util/ImmutableCollections$ListN", "size", "()I"⟩
abbrev yM18 : MethodName := ⟨"java/util/ImmutableCollections$ListN", "get", "(I)Ljava/lang/Object;"⟩
abbrev yM19 : MethodName := ⟨"java/util/ImmutableCollections$List12", "toArray", "()[Ljava/lang/Object;"⟩
abbrev yM20 : MethodName := ⟨"java/util/ImmutableCollections$List12", "size", "()I"⟩
abbrev yM21 : MethodName := ⟨"java/util/ImmutableCollections$List12", "get", "(I)Ljava/lang/Object;"⟩
abbrev yM22 : MethodName := ⟨"java/util/List", "of", "()Ljava/util/List;"⟩
abbrev yM23 : MethodName := ⟨"java/util/List", "of", "(Ljava/lang/Object;)Ljava/util/List;"⟩
abbrev yM24 : MethodName := ⟨"java/util/ImmutableCollections", "listFromTrustedArray", "([Ljava/lang/Object;)Ljava/util/List;"⟩
abbrev yM25 : MethodName := ⟨"java/util/List", "of", "(Ljava/lang/Object;Ljava/lang/Object;Ljava/lang/Object;)Ljava/util/List;"⟩
abbrev yM26 : MethodName := ⟨"java/util/ImmutableCollections", "listFromArray", "([Ljava/lang/Object;)Ljava/util/List;"⟩
abbrev yM27 : MethodName := ⟨"java/util/List", "of", "([Ljava/lang/Object;)Ljava/util/List;"⟩
abbrev yM28 : MethodName := ⟨"java/util/ArrayList", "size", "()I"⟩
abbrev yM29 : MethodName := ⟨"java/util/ArrayList", "isEmpty", "()Z"⟩
abbrev yM30 : MethodName := ⟨"java/util/ArrayList", "elementData", "(I)Ljava/lang/Object;"⟩
abbrev yM31 : MethodName := ⟨"jdk/internal/util/Preconditions", "checkIndex", "(IILjava/util/function/BiFunction;)I"⟩
abbrev yM32 : MethodName := ⟨"java/util/Objects", "checkIndex", "(II)I"⟩
abbrev yM33 : MethodName := ⟨"java/util/ArrayList", "get", "(I)Ljava/lang/Object;"⟩
abbrev yM34 : MethodName := ⟨"java/util/ArrayList", "toArray", "()[Ljava/lang/Object;"⟩
abbrev yM35 : MethodName := ⟨"java/util/ArrayList", "<init>", "()V"⟩
abbrev yM36 : MethodName := ⟨"jdk/internal/util/ArraysSupport", "newLength", "(III)I"⟩
abbrev yM37 : MethodName := ⟨"java/util/ArrayList", "grow", "(I)[Ljava/lang/Object;"⟩
abbrev yM38 : MethodName := ⟨"java/util/ArrayList", "grow", "()[Ljava/lang/Object;"⟩
abbrev yM39 : MethodName := ⟨"java/util/ArrayList", "add", "(Ljava/lang/Object;[Ljava/lang/Object;I)V"⟩
abbrev yM40 : MethodName := ⟨"java/util/ArrayList", "add", "(Ljava/lang/Object;)Z"⟩
abbrev yM41 : MethodName := ⟨"java/util/ArrayList", "<init>", "(Ljava/util/Collection;)V"⟩
abbrev yM42 : MethodName := ⟨"java/util/Collection", "toArray", "()[Ljava/lang/Object;"⟩
abbrev yM43 : MethodName := ⟨"java/util/ArrayList", "addAll", "(Ljava/util/Collection;)Z"⟩
abbrev yM44 : MethodName := ⟨"java/util/ArrayList$Itr", "<init>", "(Ljava/util/ArrayList;)V"⟩
abbrev yM45 : MethodName := ⟨"java/util/ArrayList", "iterator", "()Ljava/util/Iterator;"⟩
abbrev yM46 : MethodName := ⟨"java/util/ArrayList$Itr", "hasNext", "()Z"⟩
abbrev yM47 : MethodName := ⟨"java/util/ArrayList$Itr", "checkForComodification", "()V"⟩
abbrev yM48 : MethodName := ⟨"java/util/ArrayList$Itr", "next", "()Ljava/lang/Object;"⟩
abbrev yM49 : MethodName := ⟨"java/lang/StringUTF16", "compress", "([CI[BII)I"⟩
abbrev yM50 : MethodName := ⟨"java/lang/StringUTF16", "compress", "([CII)[B"⟩
abbrev yM51 : MethodName := ⟨"java/lang/StringUTF16", "coderFromArrayLen", "([BI)B"⟩
abbrev yM52 : MethodName := ⟨"java/lang/String", "<init>", "([CIILjava/lang/Void;)V"⟩
abbrev yM53 : MethodName := ⟨"java/lang/String", "<init>", "([C)V"⟩
abbrev yM54 : MethodName := ⟨"com/example/spanfold/spanfold/InputMatchedPinLaw", "name", "(CI)Ljava/lang/String;"⟩
abbrev yM55 : MethodName := ⟨"jdk/internal/util/ArraysSupport", "signedHashCode", "(I[BII)I"⟩
abbrev yM56 : MethodName := ⟨"jdk/internal/util/ArraysSupport", "vectorizedHashCode", "(Ljava/lang/Object;IIII)I"⟩
abbrev yM57 : MethodName := ⟨"java/lang/StringLatin1", "hashCode", "([B)I"⟩
abbrev yM58 : MethodName := ⟨"java/lang/String", "isLatin1", "()Z"⟩
abbrev yM59 : MethodName := ⟨"java/lang/String", "hashCode", "()I"⟩
abbrev yM60 : MethodName := ⟨"java/util/HashMap", "hash", "(Ljava/lang/Object;)I"⟩
abbrev yM61 : MethodName := ⟨"java/lang/Object", "hashCode", "()I"⟩
abbrev yM62 : MethodName := ⟨"java/util/HashMap$Node", "<init>", "(ILjava/lang/Object;Ljava/lang/Object;Ljava/util/HashMap$Node;)V"⟩
abbrev yM63 : MethodName := ⟨"java/util/HashMap", "newNode", "(ILjava/lang/Object;Ljava/lang/Object;Ljava/util/HashMap$Node;)Ljava/util/HashMap$Node;"⟩
abbrev yM64 : MethodName := ⟨"java/util/HashMap", "afterNodeInsertion", "(Z)V"⟩
abbrev yM65 : MethodName := ⟨"java/util/HashMap", "resize", "()[Ljava/util/HashMap$Node;"⟩
abbrev yM66 : MethodName := ⟨"java/util/HashMap", "putVal", "(ILjava/lang/Object;Ljava/lang/Object;ZZ)Ljava/lang/Object;"⟩
abbrev yM67 : MethodName := ⟨"java/util/HashMap", "put", "(Ljava/lang/Object;Ljava/lang/Object;)Ljava/lang/Object;"⟩
abbrev yM68 : MethodName := ⟨"java/util/HashSet", "add", "(Ljava/lang/Object;)Z"⟩
abbrev yM69 : MethodName := ⟨"java/util/HashMap", "<init>", "()V"⟩
abbrev yM70 : MethodName := ⟨"java/util/HashSet", "<init>", "()V"⟩
abbrev yM71 : MethodName := ⟨"java/util/ImmutableCollections", "listCopy", "(Ljava/util/Collection;)Ljava/util/List;"⟩
abbrev yM72 : MethodName := ⟨"java/util/List", "copyOf", "(Ljava/util/Collection;)Ljava/util/List;"⟩
abbrev yM73 : MethodName := ⟨"java/util/Iterator", "hasNext", "()Z"⟩
abbrev yM74 : MethodName := ⟨"java/util/Iterator", "next", "()Ljava/lang/Object;"⟩
abbrev yM75 : MethodName := ⟨"com/example/spanfold/spanfold/Input", "<init>", "(Ljava/lang/String;Ljava/lang/String;Ljava/lang/String;Ljava/lang/String;Ljava/lang/String;Ljava/util/List;)V"⟩
abbrev yM76 : MethodName := ⟨"com/example/spanfold/spanfold/Input", "table", "(Ljava/lang/String;Ljava/lang/String;Ljava/lang/String;Ljava/lang/String;)Lcom/example/spanfold/spanfold/Input;"⟩
abbrev yM77 : MethodName := ⟨"com/example/spanfold/spanfold/Input", "withAttributes", "([Ljava/lang/String;)Lcom/example/spanfold/spanfold/Input;"⟩
abbrev yM78 : MethodName := ⟨"com/example/spanfold/spanfold/Input", "groups", "()Ljava/util/List;"⟩
abbrev yM79 : MethodName := ⟨"java/util/Collection", "isEmpty", "()Z"⟩
abbrev yM80 : MethodName := ⟨"com/example/spanfold/spanfold/Input", "matched", "(Ljava/util/List;)Ljava/util/List;"⟩
abbrev yM81 : MethodName := ⟨"java/util/List", "get", "(I)Ljava/lang/Object;"⟩
abbrev yM82 : MethodName := ⟨"java/util/List", "size", "()I"⟩
abbrev yM83 : MethodName := ⟨"java/lang/StringLatin1", "canEncode", "(C)Z"⟩
abbrev yM84 : MethodName := ⟨"java/lang/StringLatin1", "toBytes", "(C)[B"⟩
abbrev yM85 : MethodName := ⟨"java/lang/String", "<init>", "([BB)V"⟩
abbrev yM86 : MethodName := ⟨"java/lang/String", "valueOf", "(C)Ljava/lang/String;"⟩
abbrev yM87 : MethodName := ⟨"com/example/spanfold/spanfold/InputMatchedPinLaw", "make", "(II)Lcom/example/spanfold/spanfold/Input;"⟩
abbrev a100 (x0 x1 : Addr) (x2 : Int32) : Array Slot := #[vR x0, vR x1, vI x2]
abbrev a101 (x0 x1 x2 : Addr) : Array Slot := #[vR x0, vR x1, vR x2]
abbrev a102 (x0 : Addr) (x1 : Int32) (x2 : Addr) : Array Slot := #[vR x0, vI x1, vR x2, uU]
abbrev a103 (x0 : Addr) (x1 : Int32) (x2 x3 : Addr) : Array Slot := #[vR x0, vI x1, vR x2, vR x3]
abbrev a104 (x0 : Addr) : Array Slot := #[vR x0, uU, uU, uU, uU]
abbrev a105 (x0 x1 : Addr) : Array Slot := #[vR x0, vR x1, uU, uU, uU]
abbrev a106 (x0 x1 : Addr) (x2 x3 : Int32) (x4 : Addr) : Array Slot := #[vR x0, vR x1, vI x2, vI x3, vR x4]
abbrev a107 (x0 x1 : Addr) (x2 : Int32) : Array Slot := #[vR x0, vR x1, vI x2, uU, uU]
abbrev a108 (x0 x1 : Addr) (x2 x3 : Int32) : Array Slot := #[vR x0, vR x1, vI x2, vI x3, uU]
abbrev a109 (x0 : Addr) : Array Slot := #[vR x0, uU, uU]
abbrev a110 (x0 x1 : Addr) : Array Slot := #[vR x0, vR x1, uU]
abbrev a111 (x0 x1 : Int32) : Array Slot := #[vI x0, vI x1, .val .null]
abbrev a112 (x0 x1 x2 : Int32) : Array Slot := #[vI x0, vI x1, vI x2, uU]
abbrev a113 (x0 x1 x2 x3 : Int32) : Array Slot := #[vI x0, vI x1, vI x2, vI x3]
abbrev a114 (x0 : Addr) (x1 : Int32) : Array Slot := #[vR x0, vI x1, uU, uU]
abbrev a115 (x0 : Addr) (x1 x2 : Int32) : Array Slot := #[vR x0, vI x1, vI x2, uU]
abbrev a116 (x0 : Addr) (x1 x2 x3 : Int32) : Array Slot := #[vR x0, vI x1, vI x2, vI x3]
abbrev a117 (x0 x1 x2 : Addr) (x3 : Int32) : Array Slot := #[vR x0, vR x1, vR x2, vI x3]
abbrev a118 (x0 x1 : Addr) : Array Slot := #[vR x0, vR x1, uU, uU, uU, uU]
abbrev a119 (x0 x1 x2 : Addr) : Array Slot := #[vR x0, vR x1, vR x2, uU, uU, uU]
abbrev a120 (x0 x1 x2 : Addr) (x3 : Int32) : Array Slot := #[vR x0, vR x1, vR x2, vI x3, uU, uU]
abbrev a121 (x0 x1 x2 : Addr) (x3 : Int32) (x4 : Addr) : Array Slot := #[vR x0, vR x1, vR x2, vI x3, vR x4, uU]
abbrev a122 (x0 x1 x2 : Addr) (x3 : Int32) (x4 : Addr) (x5 : Int32) : Array Slot := #[vR x0, vR x1, vR x2, vI x3, vR x4, vI x5]
abbrev a123 (x0 : Addr) (x1 : Int32) : Array Slot := #[vR x0, vI x1, uU]
abbrev a124 (x0 : Addr) (x1 : Int32) (x2 : Addr) : Array Slot := #[vR x0, vI x1, vR x2]
abbrev a125 (x0 : Addr) (x1 : Int32) (x2 : Addr) (x3 x4 : Int32) : Array Slot := #[vR x0, vI x1, vR x2, vI x3, vI x4, uU, uU]
abbrev a126 (x0 : Addr) (x1 : Int32) (x2 : Addr) (x3 x4 x5 x6 : Int32) : Array Slot := #[vR x0, vI x1, vR x2, vI x3, vI x4, vI x5, vI x6]
abbrev a127 (x0 : Addr) (x1 : Int32) (x2 : Addr) (x3 x4 x5 : Int32) : Array Slot := #[vR x0, vI x1, vR x2, vI x3, vI x4, vI x5, uU]
abbrev a128 (x0 : Addr) (x1 x2 : Int32) : Array Slot := #[vR x0, vI x1, vI x2, uU, uU, uU]
abbrev a129 (x0 : Addr) (x1 x2 : Int32) (x3 : Addr) : Array Slot := #[vR x0, vI x1, vI x2, vR x3, uU, uU]
abbrev a130 (x0 : Addr) (x1 x2 : Int32) (x3 : Addr) (x4 : Int32) : Array Slot := #[vR x0, vI x1, vI x2, vR x3, vI x4, uU]
abbrev a131 (x0 x1 : Addr) (x2 x3 : Int32) : Array Slot := #[vR x0, vR x1, vI x2, vI x3, .val .null, uU]
abbrev a132 (x0 x1 : Addr) (x2 x3 : Int32) (x4 : Addr) : Array Slot := #[vR x0, vR x1, vI x2, vI x3, .val .null, vR x4]
abbrev a133 (x0 : Int32) (x1 : Addr) (x2 x3 : Int32) : Array Slot := #[vI x0, vR x1, vI x2, vI x3, uU, uU]
abbrev a134 (x0 : Int32) (x1 : Addr) (x2 x3 x4 : Int32) : Array Slot := #[vI x0, vR x1, vI x2, vI x3, vI x4, uU]
abbrev a135 (x0 : Int32) (x1 : Addr) (x2 x3 x4 x5 : Int32) : Array Slot := #[vI x0, vR x1, vI x2, vI x3, vI x4, vI x5]
abbrev a136 (x0 : Addr) (x1 x2 x3 x4 : Int32) : Array Slot := #[vR x0, vI x1, vI x2, vI x3, vI x4]
abbrev a137 (x0 : Addr) (x1 : Int32) (x2 x3 : Addr) : Array Slot := #[vR x0, vI x1, vR x2, vR x3, .val .null]
abbrev a138 (x0 : Addr) : Array Slot := #[vR x0, uU, uU, uU, uU, uU, uU, uU, uU, uU, uU, uU, uU, uU]
abbrev a139 (x0 : Addr) (x1 : Int32) : Array Slot := #[vR x0, .val .null, vI x1, uU, uU, uU, uU, uU, uU, uU, uU, uU, uU, uU]
abbrev a140 (x0 : Addr) : Array Slot := #[vR x0, .val .null, uU, uU, uU, uU, uU, uU, uU, uU, uU, uU, uU, uU]
abbrev a141 (x0 : Addr) (x1 x2 x3 x4 : Int32) : Array Slot := #[vR x0, .val .null, vI x1, vI x2, vI x3, vI x4, uU, uU, uU, uU, uU, uU, uU, uU]
abbrev a142 (x0 : Addr) (x1 x2 : Int32) : Array Slot := #[vR x0, .val .null, vI x1, vI x2, uU, uU, uU, uU, uU, uU, uU, uU, uU, uU]
abbrev a143 (x0 : Addr) (x1 x2 x3 : Int32) : Array Slot := #[vR x0, .val .null, vI x1, vI x2, uU, vI x3, uU, uU, uU, uU, uU, uU, uU, uU]
abbrev a144 (x0 : Addr) (x1 x2 x3 x4 : Int32) (x5 : Addr) : Array Slot := #[vR x0, .val .null, vI x1, vI x2, vI x3, vI x4, vR x5, uU, uU, uU, uU, uU, uU, uU]
abbrev a145 (x0 : Addr) (x1 : Int32) (x2 x3 : Addr) (x4 x5 : Int32) : Array Slot := #[vR x0, vI x1, vR x2, vR x3, vI x4, vI x5, uU, uU, uU, uU, uU, uU, uU]
abbrev a146 (x0 : Addr) (x1 : Int32) (x2 x3 : Addr) (x4 x5 : Int32) (x6 : Addr) (x7 : Int32) : Array Slot := #[vR x0, vI x1, vR x2, vR x3, vI x4, vI x5, vR x6, uU, vI x7, uU, uU, uU, uU]
abbrev a147 (x0 : Addr) (x1 : Int32) (x2 x3 : Addr) (x4 x5 : Int32) : Array Slot := #[vR x0, vI x1, vR x2, vR x3, vI x4, vI x5, .val .null, uU, uU, uU, uU, uU, uU]
abbrev a148 (x0 : Addr) (x1 : Int32) (x2 x3 : Addr) (x4 x5 : Int32) (x6 : Addr) : Array Slot := #[vR x0, vI x1, vR x2, vR x3, vI x4, vI x5, vR x6, uU, uU, uU, uU, uU, uU]
abbrev a149 (x0 : Addr) (x1 : Int32) (x2 x3 : Addr) (x4 x5 : Int32) (x6 : Addr) (x7 x8 : Int32) : Array Slot := #[vR x0, vI x1, vR x2, vR x3, vI x4, vI x5, vR x6, .val .null, vI x7, vI x8, uU, uU, uU]
abbrev a150 (x0 : Addr) (x1 : Int32) (x2 x3 : Addr) (x4 x5 : Int32) (x6 : Addr) (x7 x8 : Int32) : Array Slot := #[vR x0, vI x1, vR x2, vR x3, vI x4, vI x5, vR x6, uU, vI x7, vI x8, uU, uU, uU]
abbrev a151 (x0 x1 x2 x3 x4 x5 x6 x7 x8 : Addr) : Array Slot := #[vR x0, vR x1, .val .null, vR x2, vR x3, vR x4, vR x5, vR x6, vR x7, vR x8, uU]
abbrev a152 (x0 x1 x2 x3 x4 x5 x6 x7 x8 x9 : Addr) : Array Slot := #[vR x0, vR x1, .val .null, vR x2, vR x3, vR x4, vR x5, vR x6, vR x7, vR x8, vR x9]
abbrev a153 (x0 x1 x2 x3 x4 x5 : Addr) : Array Slot := #[vR x0, vR x1, .val .null, vR x2, vR x3, vR x4, vR x5, uU, uU, uU, uU]
abbrev a154 (x0 x1 x2 x3 x4 x5 x6 : Addr) : Array Slot := #[vR x0, vR x1, .val .null, vR x2, vR x3, vR x4, vR x5, vR x6, uU, uU, uU]
abbrev a155 (x0 x1 x2 x3 x4 x5 x6 x7 : Addr) : Array Slot := #[vR x0, vR x1, .val .null, vR x2, vR x3, vR x4, vR x5, vR x6, vR x7, uU, uU]
abbrev a156 (x0 x1 x2 x3 : Addr) : Array Slot := #[vR x0, vR x1, vR x2, vR x3]
abbrev a157 (x0 : Addr) : Array Slot := #[vR x0, uU, uU, uU]
abbrev a158 (x0 x1 : Int32) : Array Slot := #[vI x0, vI x1, uU]
abbrev a159 (x0 x1 : Int32) (x2 : Addr) : Array Slot := #[vI x0, vI x1, vR x2]
abbrev a160 (x0 x1 x2 x3 x4 : Int32) : Array Slot := #[vI x0, vI x1, vI x2, vI x3, vI x4, uU, uU, uU, uU, uU, uU, uU, uU]
abbrev a161 (x0 x1 x2 x3 x4 x5 x6 : Int32) : Array Slot := #[vI x0, vI x1, vI x2, vI x3, vI x4, vI x5, vI x6, uU, uU, uU, uU, uU, uU]
abbrev a162 (x0 x1 x2 x3 x4 x5 : Int32) : Array Slot := #[vI x0, vI x1, vI x2, vI x3, vI x4, vI x5, uU, uU, uU, uU, uU, uU, uU]
abbrev a163 (x0 x1 x2 x3 x4 x5 x6 : Int32) (x7 : Addr) : Array Slot := #[vI x0, vI x1, vI x2, vI x3, vI x4, vI x5, vI x6, vR x7, uU, uU, uU, uU, uU]
abbrev a164 (x0 x1 x2 x3 x4 x5 x6 : Int32) (x7 x8 : Addr) : Array Slot := #[vI x0, vI x1, vI x2, vI x3, vI x4, vI x5, vI x6, vR x7, vR x8, uU, uU, uU, uU]
abbrev a165 (x0 x1 x2 x3 x4 x5 x6 : Int32) (x7 x8 x9 : Addr) : Array Slot := #[vI x0, vI x1, vI x2, vI x3, vI x4, vI x5, vI x6, vR x7, vR x8, vR x9, uU, uU, uU]
abbrev a166 (x0 x1 x2 x3 x4 x5 x6 : Int32) (x7 x8 x9 x10 : Addr) : Array Slot := #[vI x0, vI x1, vI x2, vI x3, vI x4, vI x5, vI x6, vR x7, vR x8, vR x9, vR x10, uU, uU]
abbrev a167 (x0 x1 x2 x3 x4 x5 x6 : Int32) (x7 x8 x9 x10 x11 : Addr) : Array Slot := #[vI x0, vI x1, vI x2, vI x3, vI x4, vI x5, vI x6, vR x7, vR x8, vR x9, vR x10, vR x11, uU]
abbrev a168 (x0 x1 x2 x3 x4 x5 x6 : Int32) (x7 x8 x9 x10 x11 : Addr) (x12 : Int32) : Array Slot := #[vI x0, vI x1, vI x2, vI x3, vI x4, vI x5, vI x6, vR x7, vR x8, vR x9, vR x10, vR x11, vI x12]
def QR1 (Z : State) (a : Addr) (h0 : Heap) (n0 : Nat) (v : Option Value) (h : Heap) (L : List Loc) : Prop := v = some (.ref a) ∧ Fr n0 L ∧ h = h0
theorem rmR1 (l : Launch) (Z : State) (a0 : Array Value) (hw : HW a0 Z) (ws : List Jvm.Cond) (a : Addr) (h0 : Heap) (n0 : Nat) (Z0 : n0 ≤ h0.size)  :
    own_M l yM0 jdk_31_method_10_code 1 (some (.object "java/lang/Object")) ws (rK 0 0 0 0) #[(.ref a)] Z h0 (QR1 Z a h0 n0) := by
  refine own_open (by decide +kernel) dB0 fun p e s m b0 meth c s₁ S0 hx D hby hml hown hnm hret hlk hZ X0 e0 c0 => ?_
  replace c0 : Sx p e b0 S0 s₁ (mkF m 0 #[vR a] []) := c0
  have Hw := @own_Hw _ _ hw
  have N0 := Fr.nil n0
  obtain ⟨fs, hr, r1, r2, hW, r4⟩ := X0.leave (v := some (.ref a)) (nV hret)
  refine ⟨_, _, c0.trans ?_, r1, r2, _, _, rfl, ?_, ⟨_, rfl⟩, hW, r4.mono (by decide) (by decide)⟩
  · refine qA X0 hx rfl (D 0 rfl) rfl rfl ?_
    refine XS.ifnonnullYes X0.here hx rfl (pc0 := 1) (pc' := 12) rfl (D 1 rfl) rfl (by decide) (by decide) ?_
    refine qA X0 hx rfl (D 2 rfl) rfl rfl ?_
    exact retA X0 hx hret rfl rfl (D 3 rfl) hr
  · show QR1 Z a h0 n0 _ s₁.heap _
    rw [e0]
    exact ⟨rfl, N0, rfl⟩
def QR2 (Z : State) (a b : Addr) (h0 : Heap) (n0 : Nat) (v : Option Value) (h : Heap) (L : List Loc) : Prop := v = some (.ref a) ∧ Fr n0 L ∧ h = h0
theorem rmR2 (l : Launch) (Z : State) (a0 : Array Value) (hw : HW a0 Z) (ws : List Jvm.Cond) (a b : Addr) (h0 : Heap) (n0 : Nat) (Z0 : n0 ≤ h0.size)  :
    own_M l yM1 jdk_31_method_11_code 2 (some (.object "java/lang/Object")) ws (rK 0 0 0 0) #[(.ref a), (.ref b)] Z h0 (QR2 Z a b h0 n0) := by
  refine own_open (by decide +kernel) dB1 fun p e s m b0 meth c s₁ S0 hx D hby hml hown hnm hret hlk hZ X0 e0 c0 => ?_
  replace c0 : Sx p e b0 S0 s₁ (mkF m 0 #[vR a, vR b] []) := c0
  have Hw := @own_Hw _ _ hw
  have N0 := Fr.nil n0
  obtain ⟨fs, hr, r1, r2, hW, r4⟩ := X0.leave (v := some (.ref a)) (nV hret)
  refine ⟨_, _, c0.trans ?_, r1, r2, _, _, rfl, ?_, ⟨_, rfl⟩, hW, r4.mono (by decide) (by decide)⟩
  · refine qA X0 hx rfl (D 0 rfl) rfl rfl ?_
    refine XS.ifnonnullYes X0.here hx rfl (pc0 := 1) (pc' := 13) rfl (D 1 rfl) rfl (by decide) (by decide) ?_
    refine qA X0 hx rfl (D 2 rfl) rfl rfl ?_
    exact retA X0 hx hret rfl rfl (D 3 rfl) hr
  · show QR2 Z a b h0 n0 _ s₁.heap _
    rw [e0]
    exact ⟨rfl, N0, rfl⟩
def QAc (Z : State) (a : Addr) (h0 : Heap) (n0 : Nat) (v : Option Value) (h : Heap) (L : List Loc) : Prop := v = none ∧ Fr n0 L ∧ h = h0
theorem rmAc (l : Launch) (Z : State) (a0 : Array Value) (hw : HW a0 Z) (ws : List Jvm.Cond) (a : Addr) (h0 : Heap) (n0 : Nat) (Z0 : n0 ≤ h0.size)  :
    own_M l yM2 jdk_22_method_1_code 1 none ws (rK 1 0 0 12) #[(.ref a)] Z h0 (QAc Z a h0 n0) := by
  refine own_open (by decide +kernel) dB2 fun p e s m b0 meth c s₁ S0 hx D hby hml hown hnm hret hlk hZ X0 e0 c0 => ?_
  replace c0 : Sx p e b0 S0 s₁ (mkF m 0 #[vR a] []) := c0
  have Hw := @own_Hw _ _ hw
  have N0 := Fr.nil n0
  obtain ⟨T2, X2, e2, st2⟩ := initO X0 hx hZ hown (Hw 153 rfl) (Hw 25 rfl) (Hw 26 rfl) e0 (g := (mkF m 1 #[vR a] [(.ref a)])) rfl hml.symm rfl (D 1 rfl) (by decide) (W := 0) (nE rfl) (by decide)
  have c2 : Sx p e b0 S0 T2 (mkF m 4 #[vR a] []) := c0.trans (qA X0 hx rfl (D 0 rfl) rfl rfl (st2 _ (Steps.refl _)))
  obtain ⟨fs, hr, r1, r2, hW, r4⟩ := X2.leave (v := none) (fun _ => rfl)
  refine ⟨_, _, c2.trans ?_, r1, r2, _, _, rfl, ?_, ⟨_, rfl⟩, hW, r4.mono (by decide) (by decide)⟩
  · exact X2.returnOut hx hret (D 2 rfl) hr
  · show QAc Z a h0 n0 _ T2.heap _
    rw [e2]
    exact ⟨rfl, N0, rfl⟩
def QAi (Z : State) (a : Addr) (h0 : Heap) (n0 : Nat) (v : Option Value) (h : Heap) (L : List Loc) : Prop := v = none ∧ Fr n0 L ∧ h = h0
theorem rmAi (l : Launch) (Z : State) (a0 : Array Value) (hw : HW a0 Z) (ws : List Jvm.Cond) (a : Addr) (h0 : Heap) (n0 : Nat) (Z0 : n0 ≤ h0.size)  :
    own_M l yM3 jdk_47_method_1_code 1 none ws (rK 2 0 0 24) #[(.ref a)] Z h0 (QAi Z a h0 n0) := by
  refine own_open (by decide +kernel) dB3 fun p e s m b0 meth c s₁ S0 hx D hby hml hown hnm hret hlk hZ X0 e0 c0 => ?_
  replace c0 : Sx p e b0 S0 s₁ (mkF m 0 #[vR a] []) := c0
  have Hw := @own_Hw _ _ hw
  have N0 := Fr.nil n0
  obtain ⟨_, _, ⟨T2, L2, k2, n2⟩, -, X2, ⟨Lc2, hQ2, l2, y2, z2⟩, st2⟩ := X0.specialBack hx (y := yM2) rfl hown (mvT hZ (Hw 147 rfl)) (mvT hZ (Hw 148 rfl)) (mvT hZ (Hw 152 rfl)) (by decide) (backOf (W := 0) (rmAc l Z a0 hw [] a h0 n0 Z0) hZ (Hw 152 rfl) (Hw 151 rfl) (by decide) (by decide)) (g := (mkF m 1 #[vR a] [(.ref a)])) rfl hml.symm (Steps.refl _) (a := a) (argsL := []) (rest := []) (lenOf pd0 rfl) rfl (nE rfl) (D 1 rfl) (fun _ _ => ⟨rfl, e0, (by decide : 0 + 0 ≤ _), (by decide : 0 + 0 ≤ _)⟩)
  dsimp only [Pt.U, Pt.locs, Pt.cells, Pt.slots] at X2 l2 y2 z2 st2 hQ2
  subst l2 y2 z2
  obtain ⟨rfl, N1, e1⟩ := hQ2
  have c2 : Sx p e b0 S0 T2 (mkF m 4 #[vR a] []) := c0.trans (qA X0 hx rfl (D 0 rfl) rfl rfl (st2))
  obtain ⟨fs, hr, r1, r2, hW, r4⟩ := X2.leave (v := none) (fun _ => rfl)
  refine ⟨_, _, c2.trans ?_, r1, r2, _, _, rfl, ?_, ⟨_, rfl⟩, hW, r4.mono (by decide) (by decide)⟩
  · exact X2.returnOut hx hret (D 2 rfl) hr
  · show QAi Z a h0 n0 _ T2.heap _
    rw [e1]
    exact ⟨rfl, Fr.app N0 N1, rfl⟩
def QAl (Z : State) (a : Addr) (h0 : Heap) (n0 : Nat) (v : Option Value) (h : Heap) (L : List Loc) : Prop := v = none ∧ Fr n0 L ∧ h = h0
theorem rmAl (l : Launch) (Z : State) (a0 : Array Value) (hw : HW a0 Z) (ws : List Jvm.Cond) (a : Addr) (h0 : Heap) (n0 : Nat) (Z0 : n0 ≤ h0.size)  :
    own_M l yM4 jdk_46_method_1_code 1 none ws (rK 3 0 0 36) #[(.ref a)] Z h0 (QAl Z a h0 n0) := by
  refine own_open (by decide +kernel) dB4 fun p e s m b0 meth c s₁ S0 hx D hby hml hown hnm hret hlk hZ X0 e0 c0 => ?_
  replace c0 : Sx p e b0 S0 s₁ (mkF m 0 #[vR a] []) := c0
  have Hw := @own_Hw _ _ hw
  have N0 := Fr.nil n0
  obtain ⟨_, _, ⟨T2, L2, k2, n2⟩, -, X2, ⟨Lc2, hQ2, l2, y2, z2⟩, st2⟩ := X0.specialBack hx (y := yM3) rfl hown (mvT hZ (Hw 141 rfl)) (mvT hZ (Hw 142 rfl)) (mvT hZ (Hw 146 rfl)) (by decide) (backOf (W := 0) (rmAi l Z a0 hw [] a h0 n0 Z0) hZ (Hw 146 rfl) (Hw 145 rfl) (by decide) (by decide)) (g := (mkF m 1 #[vR a] [(.ref a)])) rfl hml.symm (Steps.refl _) (a := a) (argsL := []) (rest := []) (lenOf pd0 rfl) rfl (nE rfl) (D 1 rfl) (fun _ _ => ⟨rfl, e0, (by decide : 0 + 0 ≤ _), (by decide : 0 + 0 ≤ _)⟩)
  dsimp only [Pt.U, Pt.locs, Pt.cells, Pt.slots] at X2 l2 y2 z2 st2 hQ2
  subst l2 y2 z2
  obtain ⟨rfl, N1, e1⟩ := hQ2
  have c2 : Sx p e b0 S0 T2 (mkF m 4 #[vR a] []) := c0.trans (qA X0 hx rfl (D 0 rfl) rfl rfl (st2))
  obtain ⟨fs, hr, r1, r2, hW, r4⟩ := X2.leave (v := none) (fun _ => rfl)
  refine ⟨_, _, c2.trans ?_, r1, r2, _, _, rfl, ?_, ⟨_, rfl⟩, hW, r4.mono (by decide) (by decide)⟩
  · exact X2.returnOut hx hret (D 2 rfl) hr
  · show QAl Z a h0 n0 _ T2.heap _
    rw [e1]
    exact ⟨rfl, Fr.app N0 N1, rfl⟩
def QAs (Z : State) (a : Addr) (h0 : Heap) (n0 : Nat) (v : Option Value) (h : Heap) (L : List Loc) : Prop := v = none ∧ Fr n0 L ∧ h = h0
theorem rmAs (l : Launch) (Z : State) (a0 : Array Value) (hw : HW a0 Z) (ws : List Jvm.Cond) (a : Addr) (h0 : Heap) (n0 : Nat) (Z0 : n0 ≤ h0.size)  :
    own_M l yM5 jdk_91_method_1_code 1 none ws (rK 2 0 0 24) #[(.ref a)] Z h0 (QAs Z a h0 n0) := by
  refine own_open (by decide +kernel) dB5 fun p e s m b0 meth c s₁ S0 hx D hby hml hown hnm hret hlk hZ X0 e0 c0 => ?_
  replace c0 : Sx p e b0 S0 s₁ (mkF m 0 #[vR a] []) := c0
  have Hw := @own_Hw _ _ hw
  have N0 := Fr.nil n0
  obtain ⟨_, _, ⟨T2, L2, k2, n2⟩, -, X2, ⟨Lc2, hQ2, l2, y2, z2⟩, st2⟩ := X0.specialBack hx (y := yM2) rfl hown (mvT hZ (Hw 234 rfl)) (mvT hZ (Hw 148 rfl)) (mvT hZ (Hw 152 rfl)) (by decide) (backOf (W := 0) (rmAc l Z a0 hw [] a h0 n0 Z0) hZ (Hw 152 rfl) (Hw 151 rfl) (by decide) (by decide)) (g := (mkF m 1 #[vR a] [(.ref a)])) rfl hml.symm (Steps.refl _) (a := a) (argsL := []) (rest := []) (lenOf pd0 rfl) rfl (nE rfl) (D 1 rfl) (fun _ _ => ⟨rfl, e0, (by decide : 0 + 0 ≤ _), (by decide : 0 + 0 ≤ _)⟩)
  dsimp only [Pt.U, Pt.locs, Pt.cells, Pt.slots] at X2 l2 y2 z2 st2 hQ2
  subst l2 y2 z2
  obtain ⟨rfl, N1, e1⟩ := hQ2
  have c2 : Sx p e b0 S0 T2 (mkF m 4 #[vR a] []) := c0.trans (qA X0 hx rfl (D 0 rfl) rfl rfl (st2))
  obtain ⟨fs, hr, r1, r2, hW, r4⟩ := X2.leave (v := none) (fun _ => rfl)
  refine ⟨_, _, c2.trans ?_, r1, r2, _, _, rfl, ?_, ⟨_, rfl⟩, hW, r4.mono (by decide) (by decide)⟩
  · exact X2.returnOut hx hret (D 2 rfl) hr
  · show QAs Z a h0 n0 _ T2.heap _
    rw [e1]
    exact ⟨rfl, Fr.app N0 N1, rfl⟩
def QAm (Z : State) (a : Addr) (h0 : Heap) (n0 : Nat) (v : Option Value) (h : Heap) (L : List Loc) : Prop := v = none ∧ Fr n0 L ∧ h = h0
theorem rmAm (l : Launch) (Z : State) (a0 : Array Value) (hw : HW a0 Z) (ws : List Jvm.Cond) (a : Addr) (h0 : Heap) (n0 : Nat) (Z0 : n0 ≤ h0.size)  :
    own_M l yM6 jdk_71_method_1_code 1 none ws (rK 1 0 0 12) #[(.ref a)] Z h0 (QAm Z a h0 n0) := by
  refine own_open (by decide +kernel) dB6 fun p e s m b0 meth c s₁ S0 hx D hby hml hown hnm hret hlk hZ X0 e0 c0 => ?_
  replace c0 : Sx p e b0 S0 s₁ (mkF m 0 #[vR a] []) := c0
  have Hw := @own_Hw _ _ hw
  have N0 := Fr.nil n0
  obtain ⟨T2, X2, e2, st2⟩ := initO X0 hx hZ hown (Hw 249 rfl) (Hw 25 rfl) (Hw 26 rfl) e0 (g := (mkF m 1 #[vR a] [(.ref a)])) rfl hml.symm rfl (D 1 rfl) (by decide) (W := 0) (nE rfl) (by decide)
  have c2 : Sx p e b0 S0 T2 (mkF m 4 #[vR a] []) := c0.trans (qA X0 hx rfl (D 0 rfl) rfl rfl (st2 _ (Steps.refl _)))
  obtain ⟨fs, hr, r1, r2, hW, r4⟩ := X2.leave (v := none) (fun _ => rfl)
  refine ⟨_, _, c2.trans ?_, r1, r2, _, _, rfl, ?_, ⟨_, rfl⟩, hW, r4.mono (by decide) (by decide)⟩
  · exact X2.returnOut hx hret (D 2 rfl) hr
  · show QAm Z a h0 n0 _ T2.heap _
    rw [e2]
    exact ⟨rfl, N0, rfl⟩
def QEx (Z : State) (a : Addr) (h0 : Heap) (n0 : Nat) (v : Option Value) (h : Heap) (L : List Loc) : Prop := v = none ∧ Fr n0 L ∧ h = h0
theorem rmEx (l : Launch) (Z : State) (a0 : Array Value) (hw : HW a0 Z) (ws : List Jvm.Cond) (a : Addr) (h0 : Heap) (n0 : Nat) (Z0 : n0 ≤ h0.size)  :
    own_M l yM7 prog_10_method_1_code 1 none ws (rK 1 0 0 12) #[(.ref a)] Z h0 (QEx Z a h0 n0) := by
  refine own_open (plainFor_of_name pn0) dB7 fun p e s m b0 meth c s₁ S0 hx D hby hml hown hnm hret hlk hZ X0 e0 c0 => ?_
  replace c0 : Sx p e b0 S0 s₁ (mkF m 0 #[vR a] []) := c0
  have Hw := @own_Hw _ _ hw
  have N0 := Fr.nil n0
  obtain ⟨T2, X2, e2, st2⟩ := initO X0 hx hZ hown (Hw 79 rfl) (Hw 25 rfl) (Hw 26 rfl) e0 (g := (mkF m 1 #[vR a] [(.ref a)])) rfl hml.symm rfl (D 1 rfl) (by decide) (W := 0) (nE rfl) (by decide)
  have c2 : Sx p e b0 S0 T2 (mkF m 4 #[vR a] []) := c0.trans (qA X0 hx rfl (D 0 rfl) rfl rfl (st2 _ (Steps.refl _)))
  obtain ⟨fs, hr, r1, r2, hW, r4⟩ := X2.leave (v := none) (fun _ => rfl)
  refine ⟨_, _, c2.trans ?_, r1, r2, _, _, rfl, ?_, ⟨_, rfl⟩, hW, r4.mono (by decide) (by decide)⟩
  · exact X2.returnOut hx hret (D 2 rfl) hr
  · show QEx Z a h0 n0 _ T2.heap _
    rw [e2]
    exact ⟨rfl, N0, rfl⟩
def QAb (Z : State) (a : Addr) (h0 : Heap) (n0 : Nat) (v : Option Value) (h : Heap) (L : List Loc) : Prop := v = none ∧ Fr n0 L ∧ Keep h0 h [a] ∧ Exa Z h a "java/util/ArrayList" ∧ Fld Z h a "java/util/AbstractList" "modCount" "I" (.int 0) ∧ Fld Z h a "java/util/ArrayList" "size" "I" (.int 0) ∧ Fld Z h a "java/util/ArrayList" "elementData" "[Ljava/lang/Object;" .null
theorem rmAb (l : Launch) (Z : State) (a0 : Array Value) (hw : HW a0 Z) (ws : List Jvm.Cond) (a : Addr) (h0 : Heap) (n0 : Nat) (Z0 : n0 ≤ h0.size) (Ea : Exa Z h0 a "java/util/ArrayList") (Fm : Fld Z h0 a "java/util/AbstractList" "modCount" "I" (.int 0)) (Fs : Fld Z h0 a "java/util/ArrayList" "size" "I" (.int 0)) (Fe : Fld Z h0 a "java/util/ArrayList" "elementData" "[Ljava/lang/Object;" .null) (ga : n0 ≤ a) :
    own_M l yM8 jdk_39_method_1_code 1 none ws (rK 2 0 0 24) #[(.ref a)] Z h0 (QAb Z a h0 n0) := by
  refine own_open (by decide +kernel) dB8 fun p e s m b0 meth c s₁ S0 hx D hby hml hown hnm hret hlk hZ X0 e0 c0 => ?_
  replace c0 : Sx p e b0 S0 s₁ (mkF m 0 #[vR a] []) := c0
  have Hw := @own_Hw _ _ hw
  have N0 := Fr.nil n0
  obtain ⟨_, _, ⟨T2, L2, k2, n2⟩, -, X2, ⟨Lc2, hQ2, l2, y2, z2⟩, st2⟩ := X0.specialBack hx (y := yM2) rfl hown (mvT hZ (Hw 166 rfl)) (mvT hZ (Hw 148 rfl)) (mvT hZ (Hw 152 rfl)) (by decide) (backOf (W := 0) (rmAc l Z a0 hw [] a h0 n0 Z0) hZ (Hw 152 rfl) (Hw 151 rfl) (by decide) (by decide)) (g := (mkF m 1 #[vR a] [(.ref a)])) rfl hml.symm (Steps.refl _) (a := a) (argsL := []) (rest := []) (lenOf pd0 rfl) rfl (nE rfl) (D 1 rfl) (fun _ _ => ⟨rfl, e0, (by decide : 0 + 0 ≤ _), (by decide : 0 + 0 ≤ _)⟩)
  dsimp only [Pt.U, Pt.locs, Pt.cells, Pt.slots] at X2 l2 y2 z2 st2 hQ2
  subst l2 y2 z2
  obtain ⟨rfl, N1, e1⟩ := hQ2
  have c2 : Sx p e b0 S0 T2 (mkF m 4 #[vR a] []) := c0.trans (qA X0 hx rfl (D 0 rfl) rfl rfl (st2))
  obtain ⟨T4, h4, X4, e4, W4, st4⟩ := putF X2 hx hZ hown (host := "") (Or.inl (Hw 168 rfl)) Via.refl e1 Fm Ea (Or.inl (Hw 169 rfl)) (Hw 115 rfl) (ty := .int) (by decide) rfl rfl (g := (mkF m 6 #[vR a] [(.int J0), (.ref a)])) rfl rfl (D 4 rfl)
  have c4 : Sx p e b0 S0 T4 (mkF m 9 #[vR a] []) := c2.trans (qA X2 hx rfl (D 2 rfl) rfl rfl (qc X2 hx rfl (D 3 rfl) (st4 _ (Steps.refl _))))
  have Ea := Ea.wr W4
  have Fm := Fm.same W4
  have Fs := Fs.other W4 (own_sn (Or.inl (Hw 203 rfl)) (Or.inl (Hw 169 rfl)) .int .int)
  have Fe := Fe.other W4 (own_sn (Or.inl (Hw 214 rfl)) (Or.inl (Hw 169 rfl)) (.array (.object "java/lang/Object")) .int)
  obtain ⟨fs, hr, r1, r2, hW, r4⟩ := X4.leave (v := none) (fun _ => rfl)
  refine ⟨_, _, c4.trans ?_, r1, r2, _, _, rfl, ?_, ⟨_, rfl⟩, hW, r4.mono (by decide) (by decide)⟩
  · exact X4.returnOut hx hret (D 5 rfl) hr
  · show QAb Z a h0 n0 _ T4.heap _
    rw [e4]
    exact ⟨rfl, Fr.snoc X4 (Fr.app N0 N1) ga, (Keep.refl _ _).wr W4 (mI 0 rfl), Ea, Fm, Fs, Fe⟩
def QNi (Z : State) (r t : Addr) (h0 : Heap) (n0 : Nat) (v : Option Value) (h : Heap) (L : List Loc) : Prop := v = none ∧ Fr n0 L ∧ Keep h0 h [r] ∧ Exa Z h r "java/util/ImmutableCollections$ListN" ∧ Fld Z h r "java/util/ImmutableCollections$ListN" "elements" "[Ljava/lang/Object;" (.ref t) ∧ Fld Z h r "java/util/ImmutableCollections$ListN" "allowNulls" "Z" (.int 0)
theorem rmNi (l : Launch) (Z : State) (a0 : Array Value) (hw : HW a0 Z) (ws : List Jvm.Cond) (r t : Addr) (h0 : Heap) (n0 : Nat) (Z0 : n0 ≤ h0.size) (Er : Exa Z h0 r "java/util/ImmutableCollections$ListN") (Fl : Fld Z h0 r "java/util/ImmutableCollections$ListN" "elements" "[Ljava/lang/Object;" .null) (Fw : Fld Z h0 r "java/util/ImmutableCollections$ListN" "allowNulls" "Z" (.int 0)) (ga : n0 ≤ r) :
    own_M l yM9 jdk_45_method_1_code 3 none ws (rK 4 0 0 48) #[(.ref r), (.ref t), (.int J0)] Z h0 (QNi Z r t h0 n0) := by
  refine own_open (by decide +kernel) dB9 fun p e s m b0 meth c s₁ S0 hx D hby hml hown hnm hret hlk hZ X0 e0 c0 => ?_
  replace c0 : Sx p e b0 S0 s₁ (mkF m 0 (a100 r t J0) []) := c0
  have Hw := @own_Hw _ _ hw
  have N0 := Fr.nil n0
  obtain ⟨_, _, ⟨T2, L2, k2, n2⟩, -, X2, ⟨Lc2, hQ2, l2, y2, z2⟩, st2⟩ := X0.specialBack hx (y := yM4) rfl hown (mvT hZ (Hw 135 rfl)) (mvT hZ (Hw 136 rfl)) (mvT hZ (Hw 140 rfl)) (by decide) (backOf (W := 0) (rmAl l Z a0 hw [] r h0 n0 Z0) hZ (Hw 140 rfl) (Hw 139 rfl) (by decide) (by decide)) (g := (mkF m 1 (a100 r t J0) [(.ref r)])) rfl hml.symm (Steps.refl _) (a := r) (argsL := []) (rest := []) (lenOf pd0 rfl) rfl (nE rfl) (D 1 rfl) (fun _ _ => ⟨rfl, e0, (by decide : 0 + 0 ≤ _), (by decide : 0 + 0 ≤ _)⟩)
  dsimp only [Pt.U, Pt.locs, Pt.cells, Pt.slots] at X2 l2 y2 z2 st2 hQ2
  subst l2 y2 z2
  obtain ⟨rfl, N1, e1⟩ := hQ2
  have c2 : Sx p e b0 S0 T2 (mkF m 4 (a100 r t J0) []) := c0.trans (qA X0 hx rfl (D 0 rfl) rfl rfl (st2))
  obtain ⟨T4, h4, X4, e4, W4, st4⟩ := putF X2 hx hZ hown (host := "") (Or.inl (Hw 154 rfl)) Via.refl e1 Fl Er (Or.inr ⟨(Hw 155 rfl), rfl, hnm⟩) (Hw 130 rfl) (ty := (.array (.object "java/lang/Object"))) (by decide) rfl rfl (g := (mkF m 6 (a100 r t J0) [(.ref t), (.ref r)])) rfl rfl (D 4 rfl)
  have c4 : Sx p e b0 S0 T4 (mkF m 9 (a100 r t J0) []) := c2.trans (qA X2 hx rfl (D 2 rfl) rfl rfl (qA X2 hx rfl (D 3 rfl) rfl rfl (st4 _ (Steps.refl _))))
  have Er := Er.wr W4
  have Fl := Fl.same W4
  have Fw := Fw.other W4 (own_sn (Or.inr (Hw 109 rfl)) (Or.inr (Hw 155 rfl)) .boolean (.array (.object "java/lang/Object")))
  have Nf := Fr.snoc X4 (Fr.app N0 N1) ga
  obtain ⟨T6, h6, X6, e6, W6, st6⟩ := putFN X4 hx hZ hown (Hw 156 rfl) Via.refl e4 Fw Er (Or.inr ⟨(Hw 109 rfl), rfl, hnm⟩) (Hw 130 rfl) (ty := .boolean) (v' := (.int J0)) (by decide) rfl rfl (g := (mkF m 11 (a100 r t J0) [(.int J0), (.ref r)])) rfl rfl (D 7 rfl)
  have c6 : Sx p e b0 S0 T6 (mkF m 14 (a100 r t J0) []) := c4.trans (qA X4 hx rfl (D 5 rfl) rfl rfl (qI X4 hx rfl (D 6 rfl) rfl (st6 _ (Steps.refl _))))
  have Er := Er.wr W6
  have Fl := Fl.other W6 (own_sn (Or.inr (Hw 155 rfl)) (Or.inr (Hw 109 rfl)) (.array (.object "java/lang/Object")) .boolean)
  have Fw := Fw.same W6
  obtain ⟨fs, hr, r1, r2, hW, r4⟩ := X6.leave (v := none) (fun _ => rfl)
  refine ⟨_, _, c6.trans ?_, r1, r2, _, _, rfl, ?_, ⟨_, rfl⟩, hW, r4.mono (by decide) (by decide)⟩
  · exact X6.returnOut hx hret (D 8 rfl) hr
  · show QNi Z r t h0 n0 _ T6.heap _
    rw [e6]
    exact ⟨rfl, Fr.snoc X6 Nf ga, ((Keep.refl _ _).wr W4 (mI 0 rfl)).wr W6 (mI 0 rfl), Er, Fl, Fw⟩
def QT1 (Z : State) (r u : Addr) (gg : own_G) (h0 : Heap) (n0 : Nat) (v : Option Value) (h : Heap) (L : List Loc) : Prop := v = none ∧ Fr n0 L ∧ Keep h0 h [r] ∧ Exa Z h r "java/util/ImmutableCollections$List12" ∧ Fld Z h r "java/util/ImmutableCollections$List12" "e0" "Ljava/lang/Object;" (.ref u) ∧ Fld Z h r "java/util/ImmutableCollections$List12" "e1" "Ljava/lang/Object;" (.ref gg.em)
theorem rmT1 (l : Launch) (Z : State) (a0 : Array Value) (hw : HW a0 Z) (ws : List Jvm.Cond) (r u : Addr) (gg : own_G) (h0 : Heap) (n0 : Nat) (Z0 : n0 ≤ h0.size) (EV : own_Env Z gg) (X00 : Old Z n0 h0) (Er : Exa Z h0 r "java/util/ImmutableCollections$List12") (F0 : Fld Z h0 r "java/util/ImmutableCollections$List12" "e0" "Ljava/lang/Object;" .null) (F1 : Fld Z h0 r "java/util/ImmutableCollections$List12" "e1" "Ljava/lang/Object;" .null) (ga : n0 ≤ r) :
    own_M l yM10 jdk_44_method_1_code 2 none ws (rK 4 0 0 48) #[(.ref r), (.ref u)] Z h0 (QT1 Z r u gg h0 n0) := by
  refine own_open (by decide +kernel) dB10 fun p e s m b0 meth c s₁ S0 hx D hby hml hown hnm hret hlk hZ X0 e0 c0 => ?_
  replace c0 : Sx p e b0 S0 s₁ (mkF m 0 #[vR r, vR u] []) := c0
  have Hw := @own_Hw _ _ hw
  have N0 := Fr.nil n0
  obtain ⟨_, _, ⟨T2, L2, k2, n2⟩, -, X2, ⟨Lc2, hQ2, l2, y2, z2⟩, st2⟩ := X0.specialBack hx (y := yM4) rfl hown (mvT hZ (Hw 457 rfl)) (mvT hZ (Hw 136 rfl)) (mvT hZ (Hw 140 rfl)) (by decide) (backOf (W := 0) (rmAl l Z a0 hw [] r h0 n0 Z0) hZ (Hw 140 rfl) (Hw 139 rfl) (by decide) (by decide)) (g := (mkF m 1 #[vR r, vR u] [(.ref r)])) rfl hml.symm (Steps.refl _) (a := r) (argsL := []) (rest := []) (lenOf pd0 rfl) rfl (nE rfl) (D 1 rfl) (fun _ _ => ⟨rfl, e0, (by decide : 0 + 0 ≤ _), (by decide : 0 + 0 ≤ _)⟩)
  dsimp only [Pt.U, Pt.locs, Pt.cells, Pt.slots] at X2 l2 y2 z2 st2 hQ2
  subst l2 y2 z2
  obtain ⟨rfl, N1, e1⟩ := hQ2
  have c2 : Sx p e b0 S0 T2 (mkF m 4 #[vR r, vR u] []) := c0.trans (qA X0 hx rfl (D 0 rfl) rfl rfl (st2))
  obtain ⟨_, _, ⟨T4, L4, k4, n4⟩, -, X4, ⟨Lc4, hQ4, l4, y4, z4⟩, st4⟩ := Jvm.LawKit.callS X2 hx (y := yM0) hown (mvT hZ (Hw 461 rfl)) (mvT hZ (Hw 128 rfl)) (mvT hZ (Hw 61 rfl)) (mvT hZ (Hw 129 rfl)) (by decide) (backOf (W := 1) (rmR1 l Z a0 hw [] u h0 n0 Z0) hZ (Hw 129 rfl) (Hw 61 rfl) (by decide) (by decide)) (g := (mkF m 6 #[vR r, vR u] [(.ref u), (.ref r)])) rfl hml.symm (argsL := [(.ref u)]) (rest := [(.ref r)]) (lenOf pd1 rfl) rfl (nE rfl) (D 4 rfl) (fun _ _ => ⟨rfl, e1, (by decide : 0 + 0 ≤ _), (by decide : 0 + 0 ≤ _)⟩)
  dsimp only [Pt.U, Pt.locs, Pt.cells, Pt.slots] at X4 l4 y4 z4 st4 hQ4
  subst l4 y4 z4
  obtain ⟨rfl, N2, e2⟩ := hQ4
  have c4 : Sx p e b0 S0 T4 (mkF m 9 #[vR r, vR u] [(.ref u), (.ref r)]) := c2.trans (qA X2 hx rfl (D 2 rfl) rfl rfl (qA X2 hx rfl (D 3 rfl) rfl rfl (st4 _ (Steps.refl _))))
  obtain ⟨T5, h5, X5, e5, W5, st5⟩ := putF X4 hx hZ hown (host := "") (Or.inl (Hw 462 rfl)) Via.refl e2 F0 Er (Or.inr ⟨(Hw 463 rfl), rfl, hnm⟩) (Hw 451 rfl) (ty := (.object "java/lang/Object")) (by decide) rfl rfl (g := (mkF m 9 #[vR r, vR u] [(.ref u), (.ref r)])) rfl rfl (D 5 rfl)
  have c5 : Sx p e b0 S0 T5 (mkF m 12 #[vR r, vR u] []) := c4.trans (st5 _ (Steps.refl _))
  have Er := Er.wr W5
  have F0 := F0.same W5
  have F1 := F1.other W5 (own_sn (Or.inr (Hw 466 rfl)) (Or.inr (Hw 463 rfl)) (.object "java/lang/Object") (.object "java/lang/Object"))
  have Nf := Fr.snoc X5 (Fr.app (Fr.app N0 N1) N2) ga
  obtain ⟨T7, X7, e7, st7⟩ := getS2 X5 hx hZ hown (Or.inr (Hw 464 rfl)) Via.refl e5 (EV.em.ext (X00.wr W5 ga).2) (g := (mkF m 13 #[vR r, vR u] [(.ref r)])) rfl (D 7 rfl)
  have c7 : Sx p e b0 S0 T7 (mkF m 16 #[vR r, vR u] [(.ref gg.em), (.ref r)]) := c5.trans (qA X5 hx rfl (D 6 rfl) rfl rfl (st7 _ (Steps.refl _)))
  obtain ⟨T8, h8, X8, e8, W8, st8⟩ := putF X7 hx hZ hown (host := "") (Or.inl (Hw 465 rfl)) Via.refl e7 F1 Er (Or.inr ⟨(Hw 466 rfl), rfl, hnm⟩) (Hw 451 rfl) (ty := (.object "java/lang/Object")) (by decide) rfl rfl (g := (mkF m 16 #[vR r, vR u] [(.ref gg.em), (.ref r)])) rfl rfl (D 8 rfl)
  have c8 : Sx p e b0 S0 T8 (mkF m 19 #[vR r, vR u] []) := c7.trans (st8 _ (Steps.refl _))
  have Er := Er.wr W8
  have F0 := F0.other W8 (own_sn (Or.inr (Hw 463 rfl)) (Or.inr (Hw 466 rfl)) (.object "java/lang/Object") (.object "java/lang/Object"))
  have F1 := F1.same W8
  obtain ⟨fs, hr, r1, r2, hW, r4⟩ := X8.leave (v := none) (fun _ => rfl)
  refine ⟨_, _, c8.trans ?_, r1, r2, _, _, rfl, ?_, ⟨_, rfl⟩, hW, r4.mono (by decide) (by decide)⟩
  · exact X8.returnOut hx hret (D 9 rfl) hr
  · show QT1 Z r u gg h0 n0 _ T8.heap _
    rw [e8]
    exact ⟨rfl, Fr.snoc X8 Nf ga, ((Keep.refl _ _).wr W5 (mI 0 rfl)).wr W8 (mI 0 rfl), Er, F0, F1⟩
def QT2 (Z : State) (r u y : Addr) (gg : own_G) (h0 : Heap) (n0 : Nat) (v : Option Value) (h : Heap) (L : List Loc) : Prop := v = none ∧ Fr n0 L ∧ Keep h0 h [r] ∧ Exa Z h r "java/util/ImmutableCollections$List12" ∧ Fld Z h r "java/util/ImmutableCollections$List12" "e0" "Ljava/lang/Object;" (.ref u) ∧ Fld Z h r "java/util/ImmutableCollections$List12" "e1" "Ljava/lang/Object;" (.ref y)
theorem rmT2 (l : Launch) (Z : State) (a0 : Array Value) (hw : HW a0 Z) (ws : List Jvm.Cond) (r u y : Addr) (gg : own_G) (h0 : Heap) (n0 : Nat) (Z0 : n0 ≤ h0.size) (EV : own_Env Z gg) (X00 : Old Z n0 h0) (Er : Exa Z h0 r "java/util/ImmutableCollections$List12") (F0 : Fld Z h0 r "java/util/ImmutableCollections$List12" "e0" "Ljava/lang/Object;" .null) (F1 : Fld Z h0 r "java/util/ImmutableCollections$List12" "e1" "Ljava/lang/Object;" .null) (ga : n0 ≤ r) :
    own_M l yM11 jdk_44_method_2_code 3 none ws (rK 4 0 0 48) #[(.ref r), (.ref u), (.ref y)] Z h0 (QT2 Z r u y gg h0 n0) := by
  refine own_open (by decide +kernel) dB11 fun p e s m b0 meth c s₁ S0 hx D hby hml hown hnm hret hlk hZ X0 e0 c0 => ?_
  replace c0 : Sx p e b0 S0 s₁ (mkF m 0 (a101 r u y) []) := c0
  have Hw := @own_Hw _ _ hw
  have N0 := Fr.nil n0
  obtain ⟨_, _, ⟨T2, L2, k2, n2⟩, -, X2, ⟨Lc2, hQ2, l2, y2, z2⟩, st2⟩ := X0.specialBack hx (y := yM4) rfl hown (mvT hZ (Hw 457 rfl)) (mvT hZ (Hw 136 rfl)) (mvT hZ (Hw 140 rfl)) (by decide) (backOf (W := 0) (rmAl l Z a0 hw [] r h0 n0 Z0) hZ (Hw 140 rfl) (Hw 139 rfl) (by decide) (by decide)) (g := (mkF m 1 (a101 r u y) [(.ref r)])) rfl hml.symm (Steps.refl _) (a := r) (argsL := []) (rest := []) (lenOf pd0 rfl) rfl (nE rfl) (D 1 rfl) (fun _ _ => ⟨rfl, e0, (by decide : 0 + 0 ≤ _), (by decide : 0 + 0 ≤ _)⟩)
  dsimp only [Pt.U, Pt.locs, Pt.cells, Pt.slots] at X2 l2 y2 z2 st2 hQ2
  subst l2 y2 z2
  obtain ⟨rfl, N1, e1⟩ := hQ2
  have c2 : Sx p e b0 S0 T2 (mkF m 4 (a101 r u y) []) := c0.trans (qA X0 hx rfl (D 0 rfl) rfl rfl (st2))
  obtain ⟨_, _, ⟨T4, L4, k4, n4⟩, -, X4, ⟨Lc4, hQ4, l4, y4, z4⟩, st4⟩ := Jvm.LawKit.callS X2 hx (y := yM0) hown (mvT hZ (Hw 461 rfl)) (mvT hZ (Hw 128 rfl)) (mvT hZ (Hw 61 rfl)) (mvT hZ (Hw 129 rfl)) (by decide) (backOf (W := 1) (rmR1 l Z a0 hw [] u h0 n0 Z0) hZ (Hw 129 rfl) (Hw 61 rfl) (by decide) (by decide)) (g := (mkF m 6 (a101 r u y) [(.ref u), (.ref r)])) rfl hml.symm (argsL := [(.ref u)]) (rest := [(.ref r)]) (lenOf pd1 rfl) rfl (nE rfl) (D 4 rfl) (fun _ _ => ⟨rfl, e1, (by decide : 0 + 0 ≤ _), (by decide : 0 + 0 ≤ _)⟩)
  dsimp only [Pt.U, Pt.locs, Pt.cells, Pt.slots] at X4 l4 y4 z4 st4 hQ4
  subst l4 y4 z4
  obtain ⟨rfl, N2, e2⟩ := hQ4
  have c4 : Sx p e b0 S0 T4 (mkF m 9 (a101 r u y) [(.ref u), (.ref r)]) := c2.trans (qA X2 hx rfl (D 2 rfl) rfl rfl (qA X2 hx rfl (D 3 rfl) rfl rfl (st4 _ (Steps.refl _))))
  obtain ⟨T5, h5, X5, e5, W5, st5⟩ := putF X4 hx hZ hown (host := "") (Or.inl (Hw 462 rfl)) Via.refl e2 F0 Er (Or.inr ⟨(Hw 463 rfl), rfl, hnm⟩) (Hw 451 rfl) (ty := (.object "java/lang/Object")) (by decide) rfl rfl (g := (mkF m 9 (a101 r u y) [(.ref u), (.ref r)])) rfl rfl (D 5 rfl)
  have c5 : Sx p e b0 S0 T5 (mkF m 12 (a101 r u y) []) := c4.trans (st5 _ (Steps.refl _))
  have Er := Er.wr W5
  have F0 := F0.same W5
  have F1 := F1.other W5 (own_sn (Or.inr (Hw 466 rfl)) (Or.inr (Hw 463 rfl)) (.object "java/lang/Object") (.object "java/lang/Object"))
  have Nf := Fr.snoc X5 (Fr.app (Fr.app N0 N1) N2) ga
  obtain ⟨_, _, ⟨T7, L7, k7, n7⟩, -, X7, ⟨Lc7, hQ7, l7, y7, z7⟩, st7⟩ := Jvm.LawKit.callS X5 hx (y := yM0) hown (mvT hZ (Hw 461 rfl)) (mvT hZ (Hw 128 rfl)) (mvT hZ (Hw 61 rfl)) (mvT hZ (Hw 129 rfl)) (by decide) (backOf (W := 1) (rmR1 l Z a0 hw [] y h5 n0 (nT Z0 (nE (own_wsz W5).symm))) hZ (Hw 129 rfl) (Hw 61 rfl) (by decide) (by decide)) (g := (mkF m 14 (a101 r u y) [(.ref y), (.ref r)])) rfl hml.symm (argsL := [(.ref y)]) (rest := [(.ref r)]) (lenOf pd1 rfl) rfl (nE rfl) (D 8 rfl) (fun _ _ => ⟨rfl, e5, (by decide : 0 + 0 ≤ _), (by decide : 0 + 0 ≤ _)⟩)
  dsimp only [Pt.U, Pt.locs, Pt.cells, Pt.slots] at X7 l7 y7 z7 st7 hQ7
  subst l7 y7 z7
  obtain ⟨rfl, N3, e3⟩ := hQ7
  have c7 : Sx p e b0 S0 T7 (mkF m 17 (a101 r u y) [(.ref y), (.ref r)]) := c5.trans (qA X5 hx rfl (D 6 rfl) rfl rfl (qA X5 hx rfl (D 7 rfl) rfl rfl (st7 _ (Steps.refl _))))
  have Nf := Fr.app Nf N3
  obtain ⟨T8, h8, X8, e8, W8, st8⟩ := putF X7 hx hZ hown (host := "") (Or.inl (Hw 465 rfl)) Via.refl e3 F1 Er (Or.inr ⟨(Hw 466 rfl), rfl, hnm⟩) (Hw 451 rfl) (ty := (.object "java/lang/Object")) (by decide) rfl rfl (g := (mkF m 17 (a101 r u y) [(.ref y), (.ref r)])) rfl rfl (D 9 rfl)
  have c8 : Sx p e b0 S0 T8 (mkF m 20 (a101 r u y) []) := c7.trans (st8 _ (Steps.refl _))
  have Er := Er.wr W8
  have F0 := F0.other W8 (own_sn (Or.inr (Hw 463 rfl)) (Or.inr (Hw 466 rfl)) (.object "java/lang/Object") (.object "java/lang/Object"))
  have F1 := F1.same W8
  obtain ⟨fs, hr, r1, r2, hW, r4⟩ := X8.leave (v := none) (fun _ => rfl)
  refine ⟨_, _, c8.trans ?_, r1, r2, _, _, rfl, ?_, ⟨_, rfl⟩, hW, r4.mono (by decide) (by decide)⟩
  · exact X8.returnOut hx hret (D 10 rfl) hr
  · show QT2 Z r u y gg h0 n0 _ T8.heap _
    rw [e8]
    exact ⟨rfl, Fr.snoc X8 Nf ga, ((Keep.refl _ _).wr W5 (mI 0 rfl)).wr W8 (mI 0 rfl), Er, F0, F1⟩
def QMi (Z : State) (x y : Int32) (h0 : Heap) (n0 : Nat) (v : Option Value) (h : Heap) (L : List Loc) : Prop := v = some (.int (if y < x then y else x)) ∧ Fr n0 L ∧ h = h0
theorem rmMi (l : Launch) (Z : State) (a0 : Array Value) (hw : HW a0 Z) (ws : List Jvm.Cond) (x y : Int32) (h0 : Heap) (n0 : Nat) (Z0 : n0 ≤ h0.size)  :
    own_M l yM12 jdk_29_method_69_code 2 (some .int) ws (rK 0 0 0 0) #[(.int x), (.int y)] Z h0 (QMi Z x y h0 n0) := by
  refine own_open (by decide +kernel) dB12 fun p e s m b0 meth c s₁ S0 hx D hby hml hown hnm hret hlk hZ X0 e0 c0 => ?_
  replace c0 : Sx p e b0 S0 s₁ (mkF m 0 #[vI x, vI y] []) := c0
  have Hw := @own_Hw _ _ hw
  have N0 := Fr.nil n0
  have c1 : Sx p e b0 S0 s₁ (mkF m 2 #[vI x, vI y] [(.int y), (.int x)]) := c0.trans (qI X0 hx rfl (D 0 rfl) rfl (qI X0 hx rfl (D 1 rfl) rfl (Steps.refl _)))
  by_cases hc : y < x
  · have c2 : Sx p e b0 S0 s₁ (mkF m 9 #[vI x, vI y] []) := by
      refine c1.trans ?_
      refine XS.icmpYes X0.here hx rfl (pc0 := 2) (pc' := 9) rfl (D 2 rfl) rfl (tlt hc).2.2.1 (by decide) (by decide) ?_
      exact Steps.refl _
    obtain ⟨fs, hr, r1, r2, hW, r4⟩ := X0.leave (v := some (.int y)) (nV hret)
    refine ⟨_, _, c2.trans ?_, r1, r2, _, _, rfl, ?_, ⟨_, rfl⟩, hW, r4.mono (by decide) (by decide)⟩
    · refine qI X0 hx rfl (D 5 rfl) rfl ?_
      exact retI X0 hx hret (D 6 rfl) hr
    · show QMi Z x y h0 n0 _ s₁.heap _
      rw [e0]
      exact ⟨by rw [if_pos hc], N0, rfl⟩
  · have c4 : Sx p e b0 S0 s₁ (mkF m 10 #[vI x, vI y] [(.int x)]) := by
      refine c1.trans ?_
      refine XS.icmpNo X0.here hx rfl (D 2 rfl) rfl (flt hc).2.2.1 ?_
      refine qI X0 hx rfl (D 3 rfl) rfl ?_
      refine XS.goto X0.here hx rfl (pc0 := 6) (pc' := 10) rfl (D 4 rfl) (by decide) (by decide) ?_
      exact Steps.refl _
    obtain ⟨fs, hr, r1, r2, hW, r4⟩ := X0.leave (v := some (.int x)) (nV hret)
    refine ⟨_, _, c4.trans ?_, r1, r2, _, _, rfl, ?_, ⟨_, rfl⟩, hW, r4.mono (by decide) (by decide)⟩
    · exact retI X0 hx hret (D 6 rfl) hr
    · show QMi Z x y h0 n0 _ s₁.heap _
      rw [e0]
      exact ⟨by rw [if_neg hc], N0, rfl⟩
def QMx (Z : State) (x y : Int32) (h0 : Heap) (n0 : Nat) (v : Option Value) (h : Heap) (L : List Loc) : Prop := v = some (.int (if x < y then y else x)) ∧ Fr n0 L ∧ h = h0
theorem rmMx (l : Launch) (Z : State) (a0 : Array Value) (hw : HW a0 Z) (ws : List Jvm.Cond) (x y : Int32) (h0 : Heap) (n0 : Nat) (Z0 : n0 ≤ h0.size)  :
    own_M l yM13 jdk_29_method_65_code 2 (some .int) ws (rK 0 0 0 0) #[(.int x), (.int y)] Z h0 (QMx Z x y h0 n0) := by
  refine own_open (by decide +kernel) dB13 fun p e s m b0 meth c s₁ S0 hx D hby hml hown hnm hret hlk hZ X0 e0 c0 => ?_
  replace c0 : Sx p e b0 S0 s₁ (mkF m 0 #[vI x, vI y] []) := c0
  have Hw := @own_Hw _ _ hw
  have N0 := Fr.nil n0
  have c1 : Sx p e b0 S0 s₁ (mkF m 2 #[vI x, vI y] [(.int y), (.int x)]) := c0.trans (qI X0 hx rfl (D 0 rfl) rfl (qI X0 hx rfl (D 1 rfl) rfl (Steps.refl _)))
  by_cases hc : x < y
  · have c2 : Sx p e b0 S0 s₁ (mkF m 9 #[vI x, vI y] []) := by
      refine c1.trans ?_
      refine XS.icmpYes X0.here hx rfl (pc0 := 2) (pc' := 9) rfl (D 2 rfl) rfl (tlt hc).1 (by decide) (by decide) ?_
      exact Steps.refl _
    obtain ⟨fs, hr, r1, r2, hW, r4⟩ := X0.leave (v := some (.int y)) (nV hret)
    refine ⟨_, _, c2.trans ?_, r1, r2, _, _, rfl, ?_, ⟨_, rfl⟩, hW, r4.mono (by decide) (by decide)⟩
    · refine qI X0 hx rfl (D 5 rfl) rfl ?_
      exact retI X0 hx hret (D 6 rfl) hr
    · show QMx Z x y h0 n0 _ s₁.heap _
      rw [e0]
      exact ⟨by rw [if_pos hc], N0, rfl⟩
  · have c4 : Sx p e b0 S0 s₁ (mkF m 10 #[vI x, vI y] [(.int x)]) := by
      refine c1.trans ?_
      refine XS.icmpNo X0.here hx rfl (D 2 rfl) rfl (flt hc).1 ?_
      refine qI X0 hx rfl (D 3 rfl) rfl ?_
      refine XS.goto X0.here hx rfl (pc0 := 6) (pc' := 10) rfl (D 4 rfl) (by decide) (by decide) ?_
      exact Steps.refl _
    obtain ⟨fs, hr, r1, r2, hW, r4⟩ := X0.leave (v := some (.int x)) (nV hret)
    refine ⟨_, _, c4.trans ?_, r1, r2, _, _, rfl, ?_, ⟨_, rfl⟩, hW, r4.mono (by decide) (by decide)⟩
    · exact retI X0 hx hret (D 6 rfl) hr
    · show QMx Z x y h0 n0 _ s₁.heap _
      rw [e0]
      exact ⟨by rw [if_neg hc], N0, rfl⟩
def QC3 (Z : State) (t : Addr) (xs : List Addr) (N M : Nat) (gg : own_G) (h0 : Heap) (n0 : Nat) (v : Option Value) (h : Heap) (L : List Loc) : Prop := (∃ b : Addr, v = some (.ref b) ∧ h0.size ≤ b ∧ own_OA Z h b xs M) ∧ Fr n0 L ∧ Keep h0 h []
theorem rmC3 (l : Launch) (Z : State) (a0 : Array Value) (hw : HW a0 Z) (ws : List Jvm.Cond) (t : Addr) (xs : List Addr) (N M : Nat) (gg : own_G) (h0 : Heap) (n0 : Nat) (Z0 : n0 ≤ h0.size) (EV : own_Env Z gg) (X00 : Old Z n0 h0) (O : own_OA Z h0 t xs N) (El : own_El Z h0 xs) (hM : xs.length ≤ M) (hM1 : M ≤ 10) :
    own_M l yM14 jdk_65_method_120_code 4 (some (.array (.object "java/lang/Object"))) ws (rK 1 1 10 30) #[(.ref t), (.int (Int32.ofNat M)), (.ref gg.mo)] Z h0 (QC3 Z t xs N M gg h0 n0) := by
  refine own_open (by decide +kernel) dB14 fun p e s m b0 meth c s₁ S0 hx D hby hml hown hnm hret hlk hZ X0 e0 c0 => ?_
  replace c0 : Sx p e b0 S0 s₁ (mkF m 0 (a102 t (Int32.ofNat M) gg.mo) []) := c0
  have Hw := @own_Hw _ _ hw
  have N0 := Fr.nil n0
  obtain ⟨⟨kt, Vt, Ot⟩, Et, hxN, hN⟩ := id O
  obtain ⟨T2, X2, e2, st2⟩ := own_ldcM X0 hx hZ hown (Hw 192 rfl) e0 EV.mo (g := (mkF m 1 (a102 t (Int32.ofNat M) gg.mo) [(.ref gg.mo)])) rfl (D 1 rfl)
  have c2 : Sx p e b0 S0 T2 (mkF m 3 (a102 t (Int32.ofNat M) gg.mo) [(.ref gg.mo), (.ref gg.mo)]) := c0.trans (qA X0 hx rfl (D 0 rfl) rfl rfl (st2 _ (Steps.refl _)))
  obtain ⟨T5, h5, kA5, X5, e5, E5, A5, A5x, O5, st5⟩ := newRE X2 hx hZ hown (Hw 193 rfl) (Hw 121 rfl) e2 (g := (mkF m 7 (a102 t (Int32.ofNat M) gg.mo) [(.int (Int32.ofNat M))])) rfl (D 4 rfl) rfl (own_nn (by omega)) (cap := 10) (by rw [own_nat (by omega)]; exact hM1) (by decide) (by decide) (by decide) (ad := "[Ljava/lang/Object;") (by decide +kernel)
  obtain ⟨b5, g5⟩ : ∃ z, z = h0.size := ⟨_, rfl⟩
  rw [← g5] at A5 A5x st5
  have V5 := Arv.new A5 (own_nn (by omega))
  have c5 : Sx p e b0 S0 T5 (mkF m 10 (a102 t (Int32.ofNat M) gg.mo) [(.ref b5)]) := c2.trans (Jvm.RoadKit.acmp (g := (mkF m 3 (a102 t (Int32.ofNat M) gg.mo) [(.ref gg.mo), (.ref gg.mo)])) X2 hx rfl rfl rfl (pc0 := 3) (pc' := 6) (same := true) rfl (D 2 rfl) rfl (by simp) (by decide) (by decide) (qI X2 hx rfl (D 3 rfl) rfl (st5 _ (Steps.refl _))))
  have z5 : h0.size ≤ b5 := nE g5.symm
  have n5b : n0 ≤ b5 := nT Z0 z5
  have Zk := nT Z0 E5.1
  have Vt1 := Vt.ext E5
  obtain ⟨cz7, Az7, -, Sz7, Mz7, -, -⟩ := id Vt1
  have c8 : Sx p e b0 S0 T5 (mkF m 31 (a103 t (Int32.ofNat M) gg.mo b5) [(.int (Int32.ofNat N)), (.int J0), (.ref b5), (.int J0), (.ref t)]) := by
    refine c5.trans ?_
    refine XS.goto X5.here hx rfl (pc0 := 10) (pc' := 24) rfl (D 5 rfl) (by decide) (by decide) ?_
    refine XS.astoreN X5.here hx rfl (D 6 rfl) rfl rfl (l' := (a103 t (Int32.ofNat M) gg.mo b5)) rfl ?_
    refine qA X5 hx rfl (D 7 rfl) rfl rfl ?_
    refine qc X5 hx rfl (D 8 rfl) ?_
    refine qA X5 hx rfl (D 9 rfl) rfl rfl ?_
    refine qc X5 hx rfl (D 10 rfl) ?_
    refine qA X5 hx rfl (D 11 rfl) rfl rfl ?_
    refine X5.arraylength hx (by rw [e5]; exact Az7.1) (State.isArrayOf_alike hZ.alike Az7.2.1) (g := (mkF m 30 (a103 t (Int32.ofNat M) gg.mo b5) [(.ref t), (.int J0), (.ref b5), (.int J0), (.ref t)])) rfl rfl (D 12 rfl) _ ?_
    rw [len_of Sz7 Mz7]
    exact Steps.refl _
  obtain ⟨_, _, ⟨T10, L10, k10, n10⟩, -, X10, ⟨Lc10, hQ10, l10, y10, z10⟩, st10⟩ := Jvm.LawKit.callS X5 hx (y := yM12) hown (mvT hZ (Hw 194 rfl)) (mvT hZ (Hw 195 rfl)) (mvT hZ (Hw 196 rfl)) (mvT hZ (Hw 197 rfl)) (by decide) (backOf (W := 4) (rmMi l Z a0 hw [] (Int32.ofNat N) (Int32.ofNat M) h5 n0 Zk) hZ (Hw 197 rfl) (Hw 196 rfl) (by decide) (by decide)) (g := (mkF m 32 (a103 t (Int32.ofNat M) gg.mo b5) [(.int (Int32.ofNat M)), (.int (Int32.ofNat N)), (.int J0), (.ref b5), (.int J0), (.ref t)])) rfl hml.symm (argsL := [(.int (Int32.ofNat N)), (.int (Int32.ofNat M))]) (rest := [(.int J0), (.ref b5), (.int J0), (.ref t)]) (lenOf pd2 rfl) rfl (nE rfl) (D 14 rfl) (fun _ _ => ⟨rfl, e5, (by decide : 1 + 0 ≤ _), (by decide : 10 + 0 ≤ _)⟩)
  dsimp only [Pt.U, Pt.locs, Pt.cells, Pt.slots] at X10 l10 y10 z10 st10 hQ10
  subst l10 y10 z10
  obtain ⟨rfl, N1, e1⟩ := hQ10
  have c10 : Sx p e b0 S0 T10 (mkF m 35 (a103 t (Int32.ofNat M) gg.mo b5) [(.int (if (Int32.ofNat M) < (Int32.ofNat N) then (Int32.ofNat M) else (Int32.ofNat N))), (.int J0), (.ref b5), (.int J0), (.ref t)]) := c8.trans (qI X5 hx rfl (D 13 rfl) rfl (st10 _ (Steps.refl _)))
  rw [own_min (a := N) (b := M) (by omega) (by omega)] at c10
  obtain ⟨q, hq⟩ : ∃ q, q = min N M := ⟨_, rfl⟩
  rw [← hq] at c10
  have hq1 : q ≤ N := by omega
  have hq2 : q ≤ M := by omega
  have hq3 : xs.length ≤ q := by omega
  have zq := own_nat (n := q) (by omega)
  have zM := own_nat (n := M) (by omega)
  have zN := own_nat (n := N) (by omega)
  have z0 : J0.toNatClampNeg = 0 := rfl
  have Vd : Arv Z h5 b5 kA5 (.object own_OB) (Int32.ofNat M) ([] ++ List.replicate M .null) .null := V5.pad (pad_rep [] .null M)
  have hlm : (xs.map Value.ref).length = xs.length := List.length_map _
  obtain ⟨T11, h11, L11, X11, e11, N11, K11, V11, st11⟩ := cpA X10 hx hZ hown (Hw 198 rfl) (Hw 201 rfl) (Hw 199 rfl) (Hw 200 rfl) e1 (us := xs.map Value.ref ++ List.replicate (q - (xs.map Value.ref).length) .null) Vt1 Vd (Or.inr ⟨rfl, rfl, own_stol Vd O5 xs _ (El.ext E5)⟩) (by decide) (by decide) (own_nn (by omega)) (by rw [z0, zq, zN]; omega) (by rw [z0, zq, zM]; omega) (by rw [z0, zq]; exact (own_rangepad _ _ (by rw [hlm]; exact hq3)).symm) (by rw [z0, zq]; simpa using hq2) (Fr.app N0 N1) n5b (g := (mkF m 35 (a103 t (Int32.ofNat M) gg.mo b5) [(.int (Int32.ofNat q)), (.int J0), (.ref b5), (.int J0), (.ref t)])) rfl hml.symm rfl (D 15 rfl) (by decide) (W := 0) (nE rfl) (by decide)
  have c11 : Sx p e b0 S0 T11 (mkF m 38 (a103 t (Int32.ofNat M) gg.mo b5) []) := c10.trans (st11 _ (Steps.refl _))
  have Vf : Arv Z h11 b5 kA5 (.object own_OB) (Int32.ofNat M) (xs.map Value.ref) .null := by
    have := V11
    rw [z0, zq, List.take_zero, List.nil_append, List.nil_append, List.drop_replicate] at this
    exact this.pad (own_padpad _ _ _)
  obtain ⟨fs, hr, r1, r2, hW, r4⟩ := X11.leave (v := some (.ref b5)) (nV hret)
  refine ⟨_, _, c11.trans ?_, r1, r2, _, _, rfl, ?_, ⟨_, rfl⟩, hW, r4.mono (by decide) (by decide)⟩
  · refine qA X11 hx rfl (D 16 rfl) rfl rfl ?_
    exact retA X11 hx hret rfl rfl (D 17 rfl) hr
  · show QC3 Z t xs N M gg h0 n0 _ T11.heap _
    rw [e11]
    exact ⟨⟨_, rfl, z5, ⟨_, Vf, O5⟩, A5x.keep K11, hM, by omega⟩, N11, ((Keep.refl h0 []).ext E5).trans K11 (fun x hx => by cases List.mem_singleton.mp hx; exact Or.inr z5)⟩
def QC2 (Z : State) (t : Addr) (xs : List Addr) (N M : Nat) (gg : own_G) (h0 : Heap) (n0 : Nat) (v : Option Value) (h : Heap) (L : List Loc) : Prop := (∃ b : Addr, v = some (.ref b) ∧ h0.size ≤ b ∧ own_OA Z h b xs M) ∧ Fr n0 L ∧ Keep h0 h []
theorem rmC2 (l : Launch) (Z : State) (a0 : Array Value) (hw : HW a0 Z) (ws : List Jvm.Cond) (t : Addr) (xs : List Addr) (N M : Nat) (gg : own_G) (h0 : Heap) (n0 : Nat) (Z0 : n0 ≤ h0.size) (EV : own_Env Z gg) (X00 : Old Z n0 h0) (O : own_OA Z h0 t xs N) (El : own_El Z h0 xs) (hM : xs.length ≤ M) (hM1 : M ≤ 10) :
    own_M l yM15 jdk_65_method_119_code 2 (some (.array (.object "java/lang/Object"))) ws (rK 2 1 10 45) #[(.ref t), (.int (Int32.ofNat M))] Z h0 (QC2 Z t xs N M gg h0 n0) := by
  refine own_open (by decide +kernel) dB15 fun p e s m b0 meth c s₁ S0 hx D hby hml hown hnm hret hlk hZ X0 e0 c0 => ?_
  replace c0 : Sx p e b0 S0 s₁ (mkF m 0 #[vR t, vI (Int32.ofNat M)] []) := c0
  have Hw := @own_Hw _ _ hw
  have N0 := Fr.nil n0
  obtain ⟨T2, X2, e2, st2⟩ := own_gcls X0 hx hZ hown (Hw 183 rfl) (Hw 184 rfl) (Hw 105 rfl) (Hw 186 rfl) (Hw 185 rfl) (Hw 187 rfl) e0 O.2.1 EV.mo (g := (mkF m 3 #[vR t, vI (Int32.ofNat M)] [(.ref t), (.int (Int32.ofNat M)), (.ref t)])) rfl hml.symm rfl (D 3 rfl) (by decide) (W := 2) (nE rfl) (by decide)
  have c2 : Sx p e b0 S0 T2 (mkF m 6 #[vR t, vI (Int32.ofNat M)] [(.ref gg.mo), (.int (Int32.ofNat M)), (.ref t)]) := c0.trans (qA X0 hx rfl (D 0 rfl) rfl rfl (qI X0 hx rfl (D 1 rfl) rfl (qA X0 hx rfl (D 2 rfl) rfl rfl (st2 _ (Steps.refl _)))))
  obtain ⟨_, _, ⟨T3, L3, k3, n3⟩, -, X3, ⟨Lc3, hQ3, l3, y3, z3⟩, st3⟩ := Jvm.LawKit.callS X2 hx (y := yM14) hown (mvT hZ (Hw 189 rfl)) (mvT hZ (Hw 190 rfl)) (mvT hZ (Hw 181 rfl)) (mvT hZ (Hw 191 rfl)) (by decide) (backOf (W := 0) (rmC3 l Z a0 hw [] t xs N M gg h0 n0 Z0 EV X00 O El hM hM1) hZ (Hw 191 rfl) (Hw 181 rfl) (by decide) (by decide)) (g := (mkF m 6 #[vR t, vI (Int32.ofNat M)] [(.ref gg.mo), (.int (Int32.ofNat M)), (.ref t)])) rfl hml.symm (argsL := [(.ref t), (.int (Int32.ofNat M)), (.ref gg.mo)]) (rest := []) (lenOf pd3 rfl) rfl (nE rfl) (D 4 rfl) (fun _ _ => ⟨rfl, e2, (by decide : 0 + 1 ≤ _), (by decide : 0 + 10 ≤ _)⟩)
  dsimp only [Pt.U, Pt.locs, Pt.cells, Pt.slots] at X3 l3 y3 z3 st3 hQ3
  subst l3 y3 z3
  obtain ⟨⟨b, rfl, zb, Ob⟩, N1, K1⟩ := hQ3
  have c3 : Sx p e b0 S0 T3 (mkF m 9 #[vR t, vI (Int32.ofNat M)] [(.ref b)]) := c2.trans (st3 _ (Steps.refl _))
  obtain ⟨fs, hr, r1, r2, hW, r4⟩ := X3.leave (v := some (.ref b)) (nV hret)
  refine ⟨_, _, c3.trans ?_, r1, r2, _, _, rfl, ?_, ⟨_, rfl⟩, hW, r4.mono (by decide) (by decide)⟩
  · exact retA X3 hx hret rfl rfl (D 5 rfl) hr
  · show QC2 Z t xs N M gg h0 n0 _ T3.heap _
    exact ⟨⟨b, rfl, zb, Ob⟩, Fr.app N0 N1, K1⟩
def QNt (Z : State) (r t : Addr) (xs : List Addr) (gg : own_G) (h0 : Heap) (n0 : Nat) (v : Option Value) (h : Heap) (L : List Loc) : Prop := (∃ b : Addr, v = some (.ref b) ∧ h0.size ≤ b ∧ own_OA Z h b xs xs.length) ∧ Fr n0 L ∧ Keep h0 h []
theorem rmNt (l : Launch) (Z : State) (a0 : Array Value) (hw : HW a0 Z) (ws : List Jvm.Cond) (r t : Addr) (xs : List Addr) (gg : own_G) (h0 : Heap) (n0 : Nat) (Z0 : n0 ≤ h0.size) (EV : own_Env Z gg) (X00 : Old Z n0 h0) (Fl : Fld Z h0 r "java/util/ImmutableCollections$ListN" "elements" "[Ljava/lang/Object;" (.ref t)) (O : own_OA Z h0 t xs xs.length) (El : own_El Z h0 xs) (hl : xs.length ≤ 10) :
    own_M l yM16 jdk_45_method_7_code 1 (some (.array (.object "java/lang/Object"))) ws (rK 3 1 10 60) #[(.ref r)] Z h0 (QNt Z r t xs gg h0 n0) := by
  refine own_open (by decide +kernel) dB16 fun p e s m b0 meth c s₁ S0 hx D hby hml hown hnm hret hlk hZ X0 e0 c0 => ?_
  replace c0 : Sx p e b0 S0 s₁ (mkF m 0 #[vR r] []) := c0
  have Hw := @own_Hw _ _ hw
  have N0 := Fr.nil n0
  obtain ⟨T2, X2, e2, st2⟩ := getF X0 hx hZ hown (host := "") (Or.inl (Hw 154 rfl)) Via.refl e0 Fl (g := (mkF m 1 #[vR r] [(.ref r)])) rfl rfl (D 1 rfl)
  have c2 : Sx p e b0 S0 T2 (mkF m 4 #[vR r] [(.ref t)]) := c0.trans (qA X0 hx rfl (D 0 rfl) rfl rfl (st2 _ (Steps.refl _)))
  obtain ⟨T4, X4, e4, st4⟩ := getF X2 hx hZ hown (host := "") (Or.inl (Hw 154 rfl)) Via.refl e2 Fl (g := (mkF m 5 #[vR r] [(.ref r), (.ref t)])) rfl rfl (D 3 rfl)
  have c4 : Sx p e b0 S0 T4 (mkF m 8 #[vR r] [(.ref t), (.ref t)]) := c2.trans (qA X2 hx rfl (D 2 rfl) rfl rfl (st4 _ (Steps.refl _)))
  obtain ⟨⟨kt, Vt, Ot⟩, -⟩ := id O
  obtain ⟨cz5, Az5, -, Sz5, Mz5, -, -⟩ := id Vt
  have c6 : Sx p e b0 S0 T4 (mkF m 9 #[vR r] [(.int (Int32.ofNat xs.length)), (.ref t)]) := by
    refine c4.trans ?_
    refine X4.arraylength hx (by rw [e4]; exact Az5.1) (State.isArrayOf_alike hZ.alike Az5.2.1) (g := (mkF m 8 #[vR r] [(.ref t), (.ref t)])) rfl rfl (D 4 rfl) _ ?_
    rw [len_of Sz5 Mz5]
    exact Steps.refl _
  obtain ⟨_, _, ⟨T7, L7, k7, n7⟩, -, X7, ⟨Lc7, hQ7, l7, y7, z7⟩, st7⟩ := Jvm.LawKit.callS X4 hx (y := yM15) hown (mvT hZ (Hw 179 rfl)) (mvT hZ (Hw 180 rfl)) (mvT hZ (Hw 181 rfl)) (mvT hZ (Hw 182 rfl)) (by decide) (backOf (W := 0) (rmC2 l Z a0 hw [] t xs xs.length xs.length gg h0 n0 Z0 EV X00 O El (Nat.le_refl _) hl) hZ (Hw 182 rfl) (Hw 181 rfl) (by decide) (by decide)) (g := (mkF m 9 #[vR r] [(.int (Int32.ofNat xs.length)), (.ref t)])) rfl hml.symm (argsL := [(.ref t), (.int (Int32.ofNat xs.length))]) (rest := []) (lenOf pd4 rfl) rfl (nE rfl) (D 5 rfl) (fun _ _ => ⟨rfl, e4, (by decide : 0 + 1 ≤ _), (by decide : 0 + 10 ≤ _)⟩)
  dsimp only [Pt.U, Pt.locs, Pt.cells, Pt.slots] at X7 l7 y7 z7 st7 hQ7
  subst l7 y7 z7
  obtain ⟨⟨b, rfl, zb, Ob⟩, N1, K1⟩ := hQ7
  have c7 : Sx p e b0 S0 T7 (mkF m 12 #[vR r] [(.ref b)]) := c6.trans (st7 _ (Steps.refl _))
  obtain ⟨fs, hr, r1, r2, hW, r4⟩ := X7.leave (v := some (.ref b)) (nV hret)
  refine ⟨_, _, c7.trans ?_, r1, r2, _, _, rfl, ?_, ⟨_, rfl⟩, hW, r4.mono (by decide) (by decide)⟩
  · exact retA X7 hx hret rfl rfl (D 6 rfl) hr
  · show QNt Z r t xs gg h0 n0 _ T7.heap _
    exact ⟨⟨b, rfl, zb, Ob⟩, Fr.app N0 N1, K1⟩
def QNs (Z : State) (r t : Addr) (xs : List Addr) (h0 : Heap) (n0 : Nat) (v : Option Value) (h : Heap) (L : List Loc) : Prop := v = some (.int (Int32.ofNat xs.length)) ∧ Fr n0 L ∧ h = h0
theorem rmNs (l : Launch) (Z : State) (a0 : Array Value) (hw : HW a0 Z) (ws : List Jvm.Cond) (r t : Addr) (xs : List Addr) (h0 : Heap) (n0 : Nat) (Z0 : n0 ≤ h0.size) (Fl : Fld Z h0 r "java/util/ImmutableCollections$ListN" "elements" "[Ljava/lang/Object;" (.ref t)) (O : own_OA Z h0 t xs xs.length) :
    own_M l yM17 jdk_45_method_3_code 1 (some .int) ws (rK 0 0 0 0) #[(.ref r)] Z h0 (QNs Z r t xs h0 n0) := by
  refine own_open (by decide +kernel) dB17 fun p e s m b0 meth c s₁ S0 hx D hby hml hown hnm hret hlk hZ X0 e0 c0 => ?_
  replace c0 : Sx p e b0 S0 s₁ (mkF m 0 #[vR r] []) := c0
  have Hw := @own_Hw _ _ hw
  have N0 := Fr.nil n0
  obtain ⟨T2, X2, e2, st2⟩ := getF X0 hx hZ hown (host := "") (Or.inl (Hw 154 rfl)) Via.refl e0 Fl (g := (mkF m 1 #[vR r] [(.ref r)])) rfl rfl (D 1 rfl)
  have c2 : Sx p e b0 S0 T2 (mkF m 4 #[vR r] [(.ref t)]) := c0.trans (qA X0 hx rfl (D 0 rfl) rfl rfl (st2 _ (Steps.refl _)))
  obtain ⟨⟨kt, Vt, Ot⟩, -⟩ := id O
  obtain ⟨cz3, Az3, -, Sz3, Mz3, -, -⟩ := id Vt
  have c4 : Sx p e b0 S0 T2 (mkF m 5 #[vR r] [(.int (Int32.ofNat xs.length))]) := by
    refine c2.trans ?_
    refine X2.arraylength hx (by rw [e2]; exact Az3.1) (State.isArrayOf_alike hZ.alike Az3.2.1) (g := (mkF m 4 #[vR r] [(.ref t)])) rfl rfl (D 2 rfl) _ ?_
    rw [len_of Sz3 Mz3]
    exact Steps.refl _
  obtain ⟨fs, hr, r1, r2, hW, r4⟩ := X2.leave (v := some (.int (Int32.ofNat xs.length))) (nV hret)
  refine ⟨_, _, c4.trans ?_, r1, r2, _, _, rfl, ?_, ⟨_, rfl⟩, hW, r4.mono (by decide) (by decide)⟩
  · exact retI X2 hx hret (D 3 rfl) hr
  · show QNs Z r t xs h0 n0 _ T2.heap _
    rw [e2]
    exact ⟨rfl, N0, rfl⟩
def QNg (Z : State) (r t : Addr) (xs : List Addr) (i : Nat) (u : Addr) (h0 : Heap) (n0 : Nat) (v : Option Value) (h : Heap) (L : List Loc) : Prop := v = some (.ref u) ∧ Fr n0 L ∧ h = h0
theorem rmNg (l : Launch) (Z : State) (a0 : Array Value) (hw : HW a0 Z) (ws : List Jvm.Cond) (r t : Addr) (xs : List Addr) (i : Nat) (u : Addr) (h0 : Heap) (n0 : Nat) (Z0 : n0 ≤ h0.size) (Fl : Fld Z h0 r "java/util/ImmutableCollections$ListN" "elements" "[Ljava/lang/Object;" (.ref t)) (O : own_OA Z h0 t xs xs.length) (hi : xs[i]? = some u) :
    own_M l yM18 jdk_45_method_4_code 2 (some (.object "java/lang/Object")) ws (rK 0 0 0 0) #[(.ref r), (.int (Int32.ofNat i))] Z h0 (QNg Z r t xs i u h0 n0) := by
  refine own_open (by decide +kernel) dB18 fun p e s m b0 meth c s₁ S0 hx D hby hml hown hnm hret hlk hZ X0 e0 c0 => ?_
  replace c0 : Sx p e b0 S0 s₁ (mkF m 0 #[vR r, vI (Int32.ofNat i)] []) := c0
  have Hw := @own_Hw _ _ hw
  have N0 := Fr.nil n0
  have hlt : i < xs.length := (List.getElem?_eq_some_iff.mp hi).1
  obtain ⟨⟨kt, Vt, Ot⟩, -, -, hN⟩ := id O
  obtain ⟨T2, X2, e2, st2⟩ := getF X0 hx hZ hown (host := "") (Or.inl (Hw 154 rfl)) Via.refl e0 Fl (g := (mkF m 1 #[vR r, vI (Int32.ofNat i)] [(.ref r)])) rfl rfl (D 1 rfl)
  have c2 : Sx p e b0 S0 T2 (mkF m 4 #[vR r, vI (Int32.ofNat i)] [(.ref t)]) := c0.trans (qA X0 hx rfl (D 0 rfl) rfl rfl (st2 _ (Steps.refl _)))
  obtain ⟨cl4, Ar4, in4, hv4⟩ := own_ld (N := xs.length) Vt (by omega) (i := i) hlt (j := (Int32.ofNat i)) rfl (v := (.ref u)) (own_get hi)
  obtain ⟨fs, hr, r1, r2, hW, r4⟩ := X2.leave (v := some (.ref u)) (nV hret)
  refine ⟨_, _, c2.trans ?_, r1, r2, _, _, rfl, ?_, ⟨_, rfl⟩, hW, r4.mono (by decide) (by decide)⟩
  · refine qI X2 hx rfl (D 2 rfl) rfl ?_
    refine X2.aaload hx (j := (Int32.ofNat i)) (by rw [e2]; exact Ar4.1) (State.isArrayOf_alike hZ.alike Ar4.2.1) rfl Ar4.2.2 in4 hv4 (g := (mkF m 5 #[vR r, vI (Int32.ofNat i)] [(.int (Int32.ofNat i)), (.ref t)])) rfl rfl (D 3 rfl) _ ?_
    exact retA X2 hx hret rfl rfl (D 4 rfl) hr
  · show QNg Z r t xs i u h0 n0 _ T2.heap _
    rw [e2]
    exact ⟨rfl, N0, rfl⟩
def QTt1 (Z : State) (r u : Addr) (gg : own_G) (h0 : Heap) (n0 : Nat) (v : Option Value) (h : Heap) (L : List Loc) : Prop := (∃ b : Addr, v = some (.ref b) ∧ h0.size ≤ b ∧ own_OA Z h b [u] 1) ∧ Fr n0 L ∧ Keep h0 h []
theorem rmTt1 (l : Launch) (Z : State) (a0 : Array Value) (hw : HW a0 Z) (ws : List Jvm.Cond) (r u : Addr) (gg : own_G) (h0 : Heap) (n0 : Nat) (Z0 : n0 ≤ h0.size) (EV : own_Env Z gg) (X00 : Old Z n0 h0) (Er : Exa Z h0 r "java/util/ImmutableCollections$List12") (F0 : Fld Z h0 r "java/util/ImmutableCollections$List12" "e0" "Ljava/lang/Object;" (.ref u)) (F1 : Fld Z h0 r "java/util/ImmutableCollections$List12" "e1" "Ljava/lang/Object;" (.ref gg.em)) (I0 : Ins Z h0 u own_OB true) :
    own_M l yM19 jdk_44_method_10_code 1 (some (.array (.object "java/lang/Object"))) ws (rK 0 1 10 0) #[(.ref r)] Z h0 (QTt1 Z r u gg h0 n0) := by
  refine own_open (by decide +kernel) dB19 fun p e s m b0 meth c s₁ S0 hx D hby hml hown hnm hret hlk hZ X0 e0 c0 => ?_
  replace c0 : Sx p e b0 S0 s₁ (mkF m 0 #[vR r] []) := c0
  have Hw := @own_Hw _ _ hw
  have N0 := Fr.nil n0
  obtain ⟨T2, X2, e2, st2⟩ := getF X0 hx hZ hown (host := "") (Or.inl (Hw 465 rfl)) Via.refl e0 F1 (g := (mkF m 1 #[vR r] [(.ref r)])) rfl rfl (D 1 rfl)
  have c2 : Sx p e b0 S0 T2 (mkF m 4 #[vR r] [(.ref gg.em)]) := c0.trans (qA X0 hx rfl (D 0 rfl) rfl rfl (st2 _ (Steps.refl _)))
  obtain ⟨T3, X3, e3, st3⟩ := getS2 X2 hx hZ hown (Or.inr (Hw 464 rfl)) Via.refl e2 (EV.em.ext X00.2) (g := (mkF m 4 #[vR r] [(.ref gg.em)])) rfl (D 2 rfl)
  have c3 : Sx p e b0 S0 T3 (mkF m 7 #[vR r] [(.ref gg.em), (.ref gg.em)]) := c2.trans (st3 _ (Steps.refl _))
  obtain ⟨T6, h6, kA6, X6, e6, E6, A6, A6x, O6, st6⟩ := newRE X3 hx hZ hown (Hw 473 rfl) (Hw 121 rfl) e3 (g := (mkF m 11 #[vR r] [(.int J1)])) rfl (D 5 rfl) rfl (by decide) (cap := 1) (by decide) (by decide) (by decide) (by decide) (ad := "[Ljava/lang/Object;") (by decide +kernel)
  obtain ⟨b6, g6⟩ : ∃ z, z = h0.size := ⟨_, rfl⟩
  rw [← g6] at A6 A6x st6
  have V6 := Arv.new A6 (by decide)
  have c6 : Sx p e b0 S0 T6 (mkF m 14 #[vR r] [(.ref b6)]) := c3.trans (Jvm.RoadKit.acmp (g := (mkF m 7 #[vR r] [(.ref gg.em), (.ref gg.em)])) X3 hx rfl rfl rfl (pc0 := 7) (pc' := 10) (same := true) rfl (D 3 rfl) rfl (by simp) (by decide) (by decide) (qc X3 hx rfl (D 4 rfl) (st6 _ (Steps.refl _))))
  have z6 : h0.size ≤ b6 := nE g6.symm
  have n6b : n0 ≤ b6 := nT Z0 z6
  obtain ⟨T8, X8, e8, st8⟩ := getF X6 hx hZ hown (host := "") (Or.inl (Hw 462 rfl)) Via.refl e6 (F0.ext E6) (g := (mkF m 17 #[vR r] [(.ref r), (.int J0), (.ref b6), (.ref b6)])) rfl rfl (D 9 rfl)
  have c8 : Sx p e b0 S0 T8 (mkF m 20 #[vR r] [(.ref u), (.int J0), (.ref b6), (.ref b6)]) := c6.trans (XS.dup X6.here hx rfl (D 6 rfl) rfl rfl (qc X6 hx rfl (D 7 rfl) (qA X6 hx rfl (D 8 rfl) rfl rfl (st8 _ (Steps.refl _)))))
  have Vp9 : Arv Z _ b6 kA6 (.object "java/lang/Object") J1 [.null] .null := V6.pad (pad_rep [] .null 1)
  obtain ⟨cl9, Ar9, qr9, S9, M9, Hs9, U9⟩ := id Vp9
  obtain ⟨T9, h9, X9, e9, W9, st9⟩ := stR X8 hx hZ e8 Ar9 (j := J0) (v := (.ref u)) (inb_of S9 ⟨(by decide), (by decide)⟩) rfl (Sto.ofV Ar9 qr9 O6 (I0.ext E6)) (g := (mkF m 20 #[vR r] [(.ref u), (.int J0), (.ref b6), (.ref b6)])) rfl rfl (D 10 rfl)
  have V9 : Arv Z h9 b6 kA6 (.object "java/lang/Object") J1 [(.ref u)] .null := Arv.set Ar9 qr9 S9 M9 Hs9 U9 rfl W9 0 (by decide) (Nat.le_of_ble_eq_true rfl)
  have c9 : Sx p e b0 S0 T9 (mkF m 21 #[vR r] [(.ref b6)]) := c8.trans (st9 _ (Steps.refl _))
  have Nf := Fr.snoc X9 N0 n6b
  have hKp := ((Keep.refl h0 []).ext E6).wr W9 (Or.inr z6)
  have Ax := A6x.wr W9
  obtain ⟨fs, hr, r1, r2, hW, r4⟩ := X9.leave (v := some (.ref b6)) (nV hret)
  refine ⟨_, _, c9.trans ?_, r1, r2, _, _, rfl, ?_, ⟨_, rfl⟩, hW, r4.mono (by decide) (by decide)⟩
  · exact retA X9 hx hret rfl rfl (D 11 rfl) hr
  · show QTt1 Z r u gg h0 n0 _ T9.heap _
    rw [e9]
    exact ⟨⟨_, rfl, z6, ⟨_, V9, O6⟩, Ax, Nat.le_of_ble_eq_true rfl, by decide⟩, Nf, hKp⟩
def QTs1 (Z : State) (r u : Addr) (gg : own_G) (h0 : Heap) (n0 : Nat) (v : Option Value) (h : Heap) (L : List Loc) : Prop := v = some (.int 1) ∧ Fr n0 L ∧ h = h0
theorem rmTs1 (l : Launch) (Z : State) (a0 : Array Value) (hw : HW a0 Z) (ws : List Jvm.Cond) (r u : Addr) (gg : own_G) (h0 : Heap) (n0 : Nat) (Z0 : n0 ≤ h0.size) (EV : own_Env Z gg) (X00 : Old Z n0 h0) (Er : Exa Z h0 r "java/util/ImmutableCollections$List12") (F0 : Fld Z h0 r "java/util/ImmutableCollections$List12" "e0" "Ljava/lang/Object;" (.ref u)) (F1 : Fld Z h0 r "java/util/ImmutableCollections$List12" "e1" "Ljava/lang/Object;" (.ref gg.em)) :
    own_M l yM20 jdk_44_method_3_code 1 (some .int) ws (rK 0 0 0 0) #[(.ref r)] Z h0 (QTs1 Z r u gg h0 n0) := by
  refine own_open (by decide +kernel) dB20 fun p e s m b0 meth c s₁ S0 hx D hby hml hown hnm hret hlk hZ X0 e0 c0 => ?_
  replace c0 : Sx p e b0 S0 s₁ (mkF m 0 #[vR r] []) := c0
  have Hw := @own_Hw _ _ hw
  have N0 := Fr.nil n0
  obtain ⟨T2, X2, e2, st2⟩ := getF X0 hx hZ hown (host := "") (Or.inl (Hw 465 rfl)) Via.refl e0 F1 (g := (mkF m 1 #[vR r] [(.ref r)])) rfl rfl (D 1 rfl)
  have c2 : Sx p e b0 S0 T2 (mkF m 4 #[vR r] [(.ref gg.em)]) := c0.trans (qA X0 hx rfl (D 0 rfl) rfl rfl (st2 _ (Steps.refl _)))
  obtain ⟨T3, X3, e3, st3⟩ := getS2 X2 hx hZ hown (Or.inr (Hw 464 rfl)) Via.refl e2 (EV.em.ext X00.2) (g := (mkF m 4 #[vR r] [(.ref gg.em)])) rfl (D 2 rfl)
  have c3 : Sx p e b0 S0 T3 (mkF m 7 #[vR r] [(.ref gg.em), (.ref gg.em)]) := c2.trans (st3 _ (Steps.refl _))
  obtain ⟨fs, hr, r1, r2, hW, r4⟩ := X3.leave (v := some (.int 1)) (nV hret)
  refine ⟨_, _, c3.trans ?_, r1, r2, _, _, rfl, ?_, ⟨_, rfl⟩, hW, r4.mono (by decide) (by decide)⟩
  · refine Jvm.RoadKit.acmp (g := (mkF m 7 #[vR r] [(.ref gg.em), (.ref gg.em)])) X3 hx rfl rfl rfl (pc0 := 7) (pc' := 14) (same := true) rfl (D 3 rfl) rfl (by simp) (by decide) (by decide) ?_
    refine qc X3 hx rfl (D 6 rfl) ?_
    exact retI X3 hx hret (D 7 rfl) hr
  · show QTs1 Z r u gg h0 n0 _ T3.heap _
    rw [e3]
    exact ⟨rfl, N0, rfl⟩
def QTg1 (Z : State) (r u : Addr) (gg : own_G) (h0 : Heap) (n0 : Nat) (v : Option Value) (h : Heap) (L : List Loc) : Prop := v = some (.ref u) ∧ Fr n0 L ∧ h = h0
theorem rmTg1 (l : Launch) (Z : State) (a0 : Array Value) (hw : HW a0 Z) (ws : List Jvm.Cond) (r u : Addr) (gg : own_G) (h0 : Heap) (n0 : Nat) (Z0 : n0 ≤ h0.size) (EV : own_Env Z gg) (X00 : Old Z n0 h0) (Er : Exa Z h0 r "java/util/ImmutableCollections$List12") (F0 : Fld Z h0 r "java/util/ImmutableCollections$List12" "e0" "Ljava/lang/Object;" (.ref u)) (F1 : Fld Z h0 r "java/util/ImmutableCollections$List12" "e1" "Ljava/lang/Object;" (.ref gg.em)) :
    own_M l yM21 jdk_44_method_5_code 2 (some (.object "java/lang/Object")) ws (rK 0 0 0 0) #[(.ref r), (.int J0)] Z h0 (QTg1 Z r u gg h0 n0) := by
  refine own_open (by decide +kernel) dB21 fun p e s m b0 meth c s₁ S0 hx D hby hml hown hnm hret hlk hZ X0 e0 c0 => ?_
  replace c0 : Sx p e b0 S0 s₁ (mkF m 0 #[vR r, vI J0] []) := c0
  have Hw := @own_Hw _ _ hw
  have N0 := Fr.nil n0
  obtain ⟨T3, X3, e3, st3⟩ := getF X0 hx hZ hown (host := "") (Or.inl (Hw 462 rfl)) Via.refl e0 F0 (g := (mkF m 5 #[vR r, vI J0] [(.ref r)])) rfl rfl (D 3 rfl)
  have c3 : Sx p e b0 S0 T3 (mkF m 8 #[vR r, vI J0] [(.ref u)]) := c0.trans (qI X0 hx rfl (D 0 rfl) rfl (XS.ifNo X0.here hx rfl (D 1 rfl) rfl ((if0 _ _).trans (teq rfl).2) (qA X0 hx rfl (D 2 rfl) rfl rfl (st3 _ (Steps.refl _)))))
  obtain ⟨fs, hr, r1, r2, hW, r4⟩ := X3.leave (v := some (.ref u)) (nV hret)
  refine ⟨_, _, c3.trans ?_, r1, r2, _, _, rfl, ?_, ⟨_, rfl⟩, hW, r4.mono (by decide) (by decide)⟩
  · exact retA X3 hx hret rfl rfl (D 4 rfl) hr
  · show QTg1 Z r u gg h0 n0 _ T3.heap _
    rw [e3]
    exact ⟨rfl, N0, rfl⟩
def QTt2 (Z : State) (r u y : Addr) (gg : own_G) (h0 : Heap) (n0 : Nat) (v : Option Value) (h : Heap) (L : List Loc) : Prop := (∃ b : Addr, v = some (.ref b) ∧ h0.size ≤ b ∧ own_OA Z h b [u, y] 2) ∧ Fr n0 L ∧ Keep h0 h []
theorem rmTt2 (l : Launch) (Z : State) (a0 : Array Value) (hw : HW a0 Z) (ws : List Jvm.Cond) (r u y : Addr) (gg : own_G) (h0 : Heap) (n0 : Nat) (Z0 : n0 ≤ h0.size) (EV : own_Env Z gg) (X00 : Old Z n0 h0) (Er : Exa Z h0 r "java/util/ImmutableCollections$List12") (F0 : Fld Z h0 r "java/util/ImmutableCollections$List12" "e0" "Ljava/lang/Object;" (.ref u)) (F1 : Fld Z h0 r "java/util/ImmutableCollections$List12" "e1" "Ljava/lang/Object;" (.ref y)) (hy : y ≠ gg.em) (I0 : Ins Z h0 u own_OB true) (I1 : Ins Z h0 y own_OB true) :
    own_M l yM19 jdk_44_method_10_code 1 (some (.array (.object "java/lang/Object"))) ws (rK 0 1 10 0) #[(.ref r)] Z h0 (QTt2 Z r u y gg h0 n0) := by
  refine own_open (by decide +kernel) dB19 fun p e s m b0 meth c s₁ S0 hx D hby hml hown hnm hret hlk hZ X0 e0 c0 => ?_
  replace c0 : Sx p e b0 S0 s₁ (mkF m 0 #[vR r] []) := c0
  have Hw := @own_Hw _ _ hw
  have N0 := Fr.nil n0
  obtain ⟨T2, X2, e2, st2⟩ := getF X0 hx hZ hown (host := "") (Or.inl (Hw 465 rfl)) Via.refl e0 F1 (g := (mkF m 1 #[vR r] [(.ref r)])) rfl rfl (D 1 rfl)
  have c2 : Sx p e b0 S0 T2 (mkF m 4 #[vR r] [(.ref y)]) := c0.trans (qA X0 hx rfl (D 0 rfl) rfl rfl (st2 _ (Steps.refl _)))
  obtain ⟨T3, X3, e3, st3⟩ := getS2 X2 hx hZ hown (Or.inr (Hw 464 rfl)) Via.refl e2 (EV.em.ext X00.2) (g := (mkF m 4 #[vR r] [(.ref y)])) rfl (D 2 rfl)
  have c3 : Sx p e b0 S0 T3 (mkF m 7 #[vR r] [(.ref gg.em), (.ref y)]) := c2.trans (st3 _ (Steps.refl _))
  obtain ⟨T6, h6, kA6, X6, e6, E6, A6, A6x, O6, st6⟩ := newRE X3 hx hZ hown (Hw 473 rfl) (Hw 121 rfl) e3 (g := (mkF m 23 #[vR r] [(.int J2)])) rfl (D 13 rfl) rfl (by decide) (cap := 2) (by decide) (by decide) (by decide) (by decide) (ad := "[Ljava/lang/Object;") (by decide +kernel)
  obtain ⟨b6, g6⟩ : ∃ z, z = h0.size := ⟨_, rfl⟩
  rw [← g6] at A6 A6x st6
  have V6 := Arv.new A6 (by decide)
  have c6 : Sx p e b0 S0 T6 (mkF m 26 #[vR r] [(.ref b6)]) := c3.trans (Jvm.RoadKit.acmp (g := (mkF m 7 #[vR r] [(.ref gg.em), (.ref y)])) X3 hx rfl rfl rfl (pc0 := 7) (pc' := 22) (same := false) rfl (D 3 rfl) rfl (by simpa using hy) (by decide) (by decide) (qc X3 hx rfl (D 12 rfl) (st6 _ (Steps.refl _))))
  have z6 : h0.size ≤ b6 := nE g6.symm
  have n6b : n0 ≤ b6 := nT Z0 z6
  obtain ⟨T8, X8, e8, st8⟩ := getF X6 hx hZ hown (host := "") (Or.inl (Hw 462 rfl)) Via.refl e6 (F0.ext E6) (g := (mkF m 29 #[vR r] [(.ref r), (.int J0), (.ref b6), (.ref b6)])) rfl rfl (D 17 rfl)
  have c8 : Sx p e b0 S0 T8 (mkF m 32 #[vR r] [(.ref u), (.int J0), (.ref b6), (.ref b6)]) := c6.trans (XS.dup X6.here hx rfl (D 14 rfl) rfl rfl (qc X6 hx rfl (D 15 rfl) (qA X6 hx rfl (D 16 rfl) rfl rfl (st8 _ (Steps.refl _)))))
  have Vp9 : Arv Z _ b6 kA6 (.object "java/lang/Object") J2 [.null] .null := V6.pad (pad_rep [] .null 1)
  obtain ⟨cl9, Ar9, qr9, S9, M9, Hs9, U9⟩ := id Vp9
  obtain ⟨T9, h9, X9, e9, W9, st9⟩ := stR X8 hx hZ e8 Ar9 (j := J0) (v := (.ref u)) (inb_of S9 ⟨(by decide), (by decide)⟩) rfl (Sto.ofV Ar9 qr9 O6 (I0.ext E6)) (g := (mkF m 32 #[vR r] [(.ref u), (.int J0), (.ref b6), (.ref b6)])) rfl rfl (D 18 rfl)
  have V9 : Arv Z h9 b6 kA6 (.object "java/lang/Object") J2 [(.ref u)] .null := Arv.set Ar9 qr9 S9 M9 Hs9 U9 rfl W9 0 (by decide) (Nat.le_of_ble_eq_true rfl)
  have c9 : Sx p e b0 S0 T9 (mkF m 33 #[vR r] [(.ref b6)]) := c8.trans (st9 _ (Steps.refl _))
  have Nf := Fr.snoc X9 N0 n6b
  have hKp := ((Keep.refl h0 []).ext E6).wr W9 (Or.inr z6)
  have Ax := A6x.wr W9
  have nr : r ≠ b6 := Nat.ne_of_lt (Nat.lt_of_lt_of_le Er.lt z6)
  obtain ⟨T11, X11, e11, st11⟩ := getF X9 hx hZ hown (host := "") (Or.inl (Hw 465 rfl)) Via.refl e9 ((F1.ext E6).other W9 (Or.inl nr)) (g := (mkF m 36 #[vR r] [(.ref r), (.int J1), (.ref b6), (.ref b6)])) rfl rfl (D 22 rfl)
  have c11 : Sx p e b0 S0 T11 (mkF m 39 #[vR r] [(.ref y), (.int J1), (.ref b6), (.ref b6)]) := c9.trans (XS.dup X9.here hx rfl (D 19 rfl) rfl rfl (qc X9 hx rfl (D 20 rfl) (qA X9 hx rfl (D 21 rfl) rfl rfl (st11 _ (Steps.refl _)))))
  have Vp12 : Arv Z _ b6 kA6 (.object "java/lang/Object") J2 [(.ref u), .null] .null := V9.pad (pad_rep [(.ref u)] .null 1)
  obtain ⟨cl12, Ar12, qr12, S12, M12, Hs12, U12⟩ := id Vp12
  obtain ⟨T12, h12, X12, e12, W12, st12⟩ := stR X11 hx hZ e11 Ar12 (j := J1) (v := (.ref y)) (inb_of S12 ⟨(by decide), (by decide)⟩) rfl (Sto.ofV Ar12 qr12 O6 ((I1.ext E6).wr W9)) (g := (mkF m 39 #[vR r] [(.ref y), (.int J1), (.ref b6), (.ref b6)])) rfl rfl (D 23 rfl)
  have V12 : Arv Z h12 b6 kA6 (.object "java/lang/Object") J2 [(.ref u), (.ref y)] .null := Arv.set Ar12 qr12 S12 M12 Hs12 U12 rfl W12 1 (by decide) (Nat.le_of_ble_eq_true rfl)
  have c12 : Sx p e b0 S0 T12 (mkF m 40 #[vR r] [(.ref b6)]) := c11.trans (st12 _ (Steps.refl _))
  have Nf := Fr.snoc X12 Nf n6b
  have hKp := hKp.wr W12 (Or.inr z6)
  have Ax := Ax.wr W12
  obtain ⟨fs, hr, r1, r2, hW, r4⟩ := X12.leave (v := some (.ref b6)) (nV hret)
  refine ⟨_, _, c12.trans ?_, r1, r2, _, _, rfl, ?_, ⟨_, rfl⟩, hW, r4.mono (by decide) (by decide)⟩
  · exact retA X12 hx hret rfl rfl (D 24 rfl) hr
  · show QTt2 Z r u y gg h0 n0 _ T12.heap _
    rw [e12]
    exact ⟨⟨_, rfl, z6, ⟨_, V12, O6⟩, Ax, Nat.le_of_ble_eq_true rfl, by decide⟩, Nf, hKp⟩
def QTs2 (Z : State) (r u y : Addr) (gg : own_G) (h0 : Heap) (n0 : Nat) (v : Option Value) (h : Heap) (L : List Loc) : Prop := v = some (.int 2) ∧ Fr n0 L ∧ h = h0
theorem rmTs2 (l : Launch) (Z : State) (a0 : Array Value) (hw : HW a0 Z) (ws : List Jvm.Cond) (r u y : Addr) (gg : own_G) (h0 : Heap) (n0 : Nat) (Z0 : n0 ≤ h0.size) (EV : own_Env Z gg) (X00 : Old Z n0 h0) (Er : Exa Z h0 r "java/util/ImmutableCollections$List12") (F0 : Fld Z h0 r "java/util/ImmutableCollections$List12" "e0" "Ljava/lang/Object;" (.ref u)) (F1 : Fld Z h0 r "java/util/ImmutableCollections$List12" "e1" "Ljava/lang/Object;" (.ref y)) (hy : y ≠ gg.em) :
    own_M l yM20 jdk_44_method_3_code 1 (some .int) ws (rK 0 0 0 0) #[(.ref r)] Z h0 (QTs2 Z r u y gg h0 n0) := by
  refine own_open (by decide +kernel) dB20 fun p e s m b0 meth c s₁ S0 hx D hby hml hown hnm hret hlk hZ X0 e0 c0 => ?_
  replace c0 : Sx p e b0 S0 s₁ (mkF m 0 #[vR r] []) := c0
  have Hw := @own_Hw _ _ hw
  have N0 := Fr.nil n0
  obtain ⟨T2, X2, e2, st2⟩ := getF X0 hx hZ hown (host := "") (Or.inl (Hw 465 rfl)) Via.refl e0 F1 (g := (mkF m 1 #[vR r] [(.ref r)])) rfl rfl (D 1 rfl)
  have c2 : Sx p e b0 S0 T2 (mkF m 4 #[vR r] [(.ref y)]) := c0.trans (qA X0 hx rfl (D 0 rfl) rfl rfl (st2 _ (Steps.refl _)))
  obtain ⟨T3, X3, e3, st3⟩ := getS2 X2 hx hZ hown (Or.inr (Hw 464 rfl)) Via.refl e2 (EV.em.ext X00.2) (g := (mkF m 4 #[vR r] [(.ref y)])) rfl (D 2 rfl)
  have c3 : Sx p e b0 S0 T3 (mkF m 7 #[vR r] [(.ref gg.em), (.ref y)]) := c2.trans (st3 _ (Steps.refl _))
  obtain ⟨fs, hr, r1, r2, hW, r4⟩ := X3.leave (v := some (.int 2)) (nV hret)
  refine ⟨_, _, c3.trans ?_, r1, r2, _, _, rfl, ?_, ⟨_, rfl⟩, hW, r4.mono (by decide) (by decide)⟩
  · refine Jvm.RoadKit.acmp (g := (mkF m 7 #[vR r] [(.ref gg.em), (.ref y)])) X3 hx rfl rfl rfl (pc0 := 7) (pc' := 10) (same := false) rfl (D 3 rfl) rfl (by simpa using hy) (by decide) (by decide) ?_
    refine qc X3 hx rfl (D 4 rfl) ?_
    refine XS.goto X3.here hx rfl (pc0 := 11) (pc' := 15) rfl (D 5 rfl) (by decide) (by decide) ?_
    exact retI X3 hx hret (D 7 rfl) hr
  · show QTs2 Z r u y gg h0 n0 _ T3.heap _
    rw [e3]
    exact ⟨rfl, N0, rfl⟩
def QTg2 (Z : State) (r u y : Addr) (gg : own_G) (h0 : Heap) (n0 : Nat) (v : Option Value) (h : Heap) (L : List Loc) : Prop := v = some (.ref u) ∧ Fr n0 L ∧ h = h0
theorem rmTg2 (l : Launch) (Z : State) (a0 : Array Value) (hw : HW a0 Z) (ws : List Jvm.Cond) (r u y : Addr) (gg : own_G) (h0 : Heap) (n0 : Nat) (Z0 : n0 ≤ h0.size) (EV : own_Env Z gg) (X00 : Old Z n0 h0) (Er : Exa Z h0 r "java/util/ImmutableCollections$List12") (F0 : Fld Z h0 r "java/util/ImmutableCollections$List12" "e0" "Ljava/lang/Object;" (.ref u)) (F1 : Fld Z h0 r "java/util/ImmutableCollections$List12" "e1" "Ljava/lang/Object;" (.ref y)) (hy : y ≠ gg.em) :
    own_M l yM21 jdk_44_method_5_code 2 (some (.object "java/lang/Object")) ws (rK 0 0 0 0) #[(.ref r), (.int J0)] Z h0 (QTg2 Z r u y gg h0 n0) := by
  refine own_open (by decide +kernel) dB21 fun p e s m b0 meth c s₁ S0 hx D hby hml hown hnm hret hlk hZ X0 e0 c0 => ?_
  replace c0 : Sx p e b0 S0 s₁ (mkF m 0 #[vR r, vI J0] []) := c0
  have Hw := @own_Hw _ _ hw
  have N0 := Fr.nil n0
  obtain ⟨T3, X3, e3, st3⟩ := getF X0 hx hZ hown (host := "") (Or.inl (Hw 462 rfl)) Via.refl e0 F0 (g := (mkF m 5 #[vR r, vI J0] [(.ref r)])) rfl rfl (D 3 rfl)
  have c3 : Sx p e b0 S0 T3 (mkF m 8 #[vR r, vI J0] [(.ref u)]) := c0.trans (qI X0 hx rfl (D 0 rfl) rfl (XS.ifNo X0.here hx rfl (D 1 rfl) rfl ((if0 _ _).trans (teq rfl).2) (qA X0 hx rfl (D 2 rfl) rfl rfl (st3 _ (Steps.refl _)))))
  obtain ⟨fs, hr, r1, r2, hW, r4⟩ := X3.leave (v := some (.ref u)) (nV hret)
  refine ⟨_, _, c3.trans ?_, r1, r2, _, _, rfl, ?_, ⟨_, rfl⟩, hW, r4.mono (by decide) (by decide)⟩
  · exact retA X3 hx hret rfl rfl (D 4 rfl) hr
  · show QTg2 Z r u y gg h0 n0 _ T3.heap _
    rw [e3]
    exact ⟨rfl, N0, rfl⟩
def QTg3 (Z : State) (r u y : Addr) (gg : own_G) (h0 : Heap) (n0 : Nat) (v : Option Value) (h : Heap) (L : List Loc) : Prop := v = some (.ref y) ∧ Fr n0 L ∧ h = h0
theorem rmTg3 (l : Launch) (Z : State) (a0 : Array Value) (hw : HW a0 Z) (ws : List Jvm.Cond) (r u y : Addr) (gg : own_G) (h0 : Heap) (n0 : Nat) (Z0 : n0 ≤ h0.size) (EV : own_Env Z gg) (X00 : Old Z n0 h0) (Er : Exa Z h0 r "java/util/ImmutableCollections$List12") (F0 : Fld Z h0 r "java/util/ImmutableCollections$List12" "e0" "Ljava/lang/Object;" (.ref u)) (F1 : Fld Z h0 r "java/util/ImmutableCollections$List12" "e1" "Ljava/lang/Object;" (.ref y)) (hy : y ≠ gg.em) :
    own_M l yM21 jdk_44_method_5_code 2 (some (.object "java/lang/Object")) ws (rK 0 0 0 0) #[(.ref r), (.int J1)] Z h0 (QTg3 Z r u y gg h0 n0) := by
  refine own_open (by decide +kernel) dB21 fun p e s m b0 meth c s₁ S0 hx D hby hml hown hnm hret hlk hZ X0 e0 c0 => ?_
  replace c0 : Sx p e b0 S0 s₁ (mkF m 0 #[vR r, vI J1] []) := c0
  have Hw := @own_Hw _ _ hw
  have N0 := Fr.nil n0
  obtain ⟨T4, X4, e4, st4⟩ := getF X0 hx hZ hown (host := "") (Or.inl (Hw 465 rfl)) Via.refl e0 F1 (g := (mkF m 15 #[vR r, vI J1] [(.ref r)])) rfl rfl (D 9 rfl)
  have c4 : Sx p e b0 S0 T4 (mkF m 18 #[vR r, vI J1] [(.ref y)]) := c0.trans (qI X0 hx rfl (D 0 rfl) rfl (XS.ifYes X0.here hx rfl (pc0 := 1) (pc' := 9) rfl (D 1 rfl) rfl ((if0 _ _).trans (feq (by decide)).2) (by decide) (by decide) (qI X0 hx rfl (D 5 rfl) rfl (qc X0 hx rfl (D 6 rfl) (XS.icmpNo X0.here hx rfl (D 7 rfl) rfl (teq rfl).2 (qA X0 hx rfl (D 8 rfl) rfl rfl (st4 _ (Steps.refl _))))))))
  obtain ⟨T5, X5, e5, st5⟩ := getS2 X4 hx hZ hown (Or.inr (Hw 464 rfl)) Via.refl e4 (EV.em.ext X00.2) (g := (mkF m 18 #[vR r, vI J1] [(.ref y)])) rfl (D 10 rfl)
  have c5 : Sx p e b0 S0 T5 (mkF m 21 #[vR r, vI J1] [(.ref gg.em), (.ref y)]) := c4.trans (st5 _ (Steps.refl _))
  obtain ⟨T8, X8, e8, st8⟩ := getF X5 hx hZ hown (host := "") (Or.inl (Hw 465 rfl)) Via.refl e5 F1 (g := (mkF m 25 #[vR r, vI J1] [(.ref r)])) rfl rfl (D 13 rfl)
  have c8 : Sx p e b0 S0 T8 (mkF m 28 #[vR r, vI J1] [(.ref y)]) := c5.trans (Jvm.RoadKit.acmp (g := (mkF m 21 #[vR r, vI J1] [(.ref gg.em), (.ref y)])) X5 hx rfl rfl rfl (pc0 := 21) (pc' := 24) (same := false) rfl (D 11 rfl) rfl (by simpa using hy) (by decide) (by decide) (qA X5 hx rfl (D 12 rfl) rfl rfl (st8 _ (Steps.refl _))))
  obtain ⟨fs, hr, r1, r2, hW, r4⟩ := X8.leave (v := some (.ref y)) (nV hret)
  refine ⟨_, _, c8.trans ?_, r1, r2, _, _, rfl, ?_, ⟨_, rfl⟩, hW, r4.mono (by decide) (by decide)⟩
  · exact retA X8 hx hret rfl rfl (D 14 rfl) hr
  · show QTg3 Z r u y gg h0 n0 _ T8.heap _
    rw [e8]
    exact ⟨rfl, N0, rfl⟩
def QO0 (Z : State) (gg : own_G) (h0 : Heap) (n0 : Nat) (v : Option Value) (h : Heap) (L : List Loc) : Prop := v = some (.ref gg.el) ∧ Fr n0 L ∧ h = h0
theorem rmO0 (l : Launch) (Z : State) (a0 : Array Value) (hw : HW a0 Z) (ws : List Jvm.Cond) (gg : own_G) (h0 : Heap) (n0 : Nat) (Z0 : n0 ≤ h0.size) (EV : own_Env Z gg) (X00 : Old Z n0 h0) :
    own_M l yM22 jdk_40_method_36_code 0 (some (.object "java/util/List")) ws (rK 0 0 0 0) #[] Z h0 (QO0 Z gg h0 n0) := by
  refine own_open (by decide +kernel) dB22 fun p e s m b0 meth c s₁ S0 hx D hby hml hown hnm hret hlk hZ X0 e0 c0 => ?_
  replace c0 : Sx p e b0 S0 s₁ (mkF m 0 #[] []) := c0
  have Hw := @own_Hw _ _ hw
  have N0 := Fr.nil n0
  obtain ⟨T1, X1, e1, st1⟩ := getS2 X0 hx hZ hown (host := "") (Or.inl (Hw 69 rfl)) Via.refl e0 (EV.el.ext X00.2) (g := (mkF m 0 #[] [])) rfl (D 0 rfl)
  have c1 : Sx p e b0 S0 T1 (mkF m 3 #[] [(.ref gg.el)]) := c0.trans (st1 _ (Steps.refl _))
  obtain ⟨fs, hr, r1, r2, hW, r4⟩ := X1.leave (v := some (.ref gg.el)) (nV hret)
  refine ⟨_, _, c1.trans ?_, r1, r2, _, _, rfl, ?_, ⟨_, rfl⟩, hW, r4.mono (by decide) (by decide)⟩
  · exact retA X1 hx hret rfl rfl (D 1 rfl) hr
  · show QO0 Z gg h0 n0 _ T1.heap _
    rw [e1]
    exact ⟨rfl, N0, rfl⟩
def QO1 (Z : State) (u : Addr) (gg : own_G) (h0 : Heap) (n0 : Nat) (v : Option Value) (h : Heap) (L : List Loc) : Prop := (∃ r : Addr, v = some (.ref r) ∧ h0.size ≤ r ∧ Exa Z h r own_L12 ∧ Fld Z h r own_L12 "e0" "Ljava/lang/Object;" (.ref u) ∧ Fld Z h r own_L12 "e1" "Ljava/lang/Object;" (.ref gg.em)) ∧ Fr n0 L ∧ Keep h0 h []
theorem rmO1 (l : Launch) (Z : State) (a0 : Array Value) (hw : HW a0 Z) (ws : List Jvm.Cond) (u : Addr) (gg : own_G) (h0 : Heap) (n0 : Nat) (Z0 : n0 ≤ h0.size) (EV : own_Env Z gg) (X00 : Old Z n0 h0) :
    own_M l yM23 jdk_40_method_37_code 1 (some (.object "java/util/List")) ws (rK 5 1 2 66) #[(.ref u)] Z h0 (QO1 Z u gg h0 n0) := by
  refine own_open (by decide +kernel) dB23 fun p e s m b0 meth c s₁ S0 hx D hby hml hown hnm hret hlk hZ X0 e0 c0 => ?_
  replace c0 : Sx p e b0 S0 s₁ (mkF m 0 #[vR u] []) := c0
  have Hw := @own_Hw _ _ hw
  have N0 := Fr.nil n0
  obtain ⟨T1, h1, X1, e1, E1, A1, D1, -, st1⟩ := newO X0 hx hZ hown (Hw 450 rfl) (Hw 451 rfl) (Hw 452 rfl) e0 (g := (mkF m 0 #[vR u] [])) rfl (D 0 rfl) (by decide) (by decide)
  obtain ⟨b1, g1⟩ : ∃ z, z = h0.size := ⟨_, rfl⟩
  rw [← g1] at A1 D1 st1
  have c1 : Sx p e b0 S0 T1 (mkF m 3 #[vR u] [(.ref b1)]) := c0.trans (st1 _ (Steps.refl _))
  have Er := A1
  have F0 : Fld Z h1 b1 "java/util/ImmutableCollections$List12" "e0" "Ljava/lang/Object;" .null := D1 (Or.inr (Hw 463 rfl)) (ty := (.object "java/lang/Object")) (by decide)
  have F1 : Fld Z h1 b1 "java/util/ImmutableCollections$List12" "e1" "Ljava/lang/Object;" .null := D1 (Or.inr (Hw 466 rfl)) (ty := (.object "java/lang/Object")) (by decide)
  have z1 : h0.size ≤ b1 := nE g1.symm
  have n1b : n0 ≤ b1 := nT Z0 z1
  have Zk := nT Z0 E1.1
  obtain ⟨_, _, ⟨T3, L3, k3, n3⟩, -, X3, ⟨Lc3, hQ3, l3, y3, z3⟩, st3⟩ := X1.specialBack hx (y := yM10) rfl hown (mvT hZ (Hw 453 rfl)) (mvT hZ (Hw 454 rfl)) (mvT hZ (Hw 456 rfl)) (by decide) (backOf (W := 1) (rmT1 l Z a0 hw [] b1 u gg h1 n0 Zk EV (X00.ext E1) Er F0 F1 n1b) hZ (Hw 456 rfl) (Hw 452 rfl) (by decide) (by decide)) (g := (mkF m 5 #[vR u] [(.ref u), (.ref b1), (.ref b1)])) rfl hml.symm (Steps.refl _) (a := b1) (argsL := [(.ref u)]) (rest := [(.ref b1)]) (lenOf pd5 rfl) rfl (nE rfl) (D 3 rfl) (fun _ _ => ⟨rfl, e1, (by decide : 1 + 0 ≤ _), (by decide : 2 + 0 ≤ _)⟩)
  dsimp only [Pt.U, Pt.locs, Pt.cells, Pt.slots] at X3 l3 y3 z3 st3 hQ3
  subst l3 y3 z3
  obtain ⟨rfl, N1, K1, G1, G2, G3⟩ := hQ3
  have c3 : Sx p e b0 S0 T3 (mkF m 8 #[vR u] [(.ref b1)]) := c1.trans (XS.dup X1.here hx rfl (D 1 rfl) rfl rfl (qA X1 hx rfl (D 2 rfl) rfl rfl (st3)))
  obtain ⟨fs, hr, r1, r2, hW, r4⟩ := X3.leave (v := some (.ref b1)) (nV hret)
  refine ⟨_, _, c3.trans ?_, r1, r2, _, _, rfl, ?_, ⟨_, rfl⟩, hW, r4.mono (by decide) (by decide)⟩
  · exact retA X3 hx hret rfl rfl (D 4 rfl) hr
  · show QO1 Z u gg h0 n0 _ T3.heap _
    exact ⟨⟨_, rfl, z1, G1, G2, G3⟩, Fr.app N0 N1, ((Keep.refl h0 []).ext E1).trans K1 (fun x hx => by cases List.mem_singleton.mp hx; exact Or.inr z1)⟩
def QLt (Z : State) (t x0 x1 x2 : Addr) (gg : own_G) (h0 : Heap) (n0 : Nat) (v : Option Value) (h : Heap) (L : List Loc) : Prop := (∃ r : Addr, v = some (.ref r) ∧ h0.size ≤ r ∧ Exa Z h r own_LN ∧ Fld Z h r own_LN "elements" "[Ljava/lang/Object;" (.ref t) ∧ Fld Z h r own_LN "allowNulls" "Z" (.int 0)) ∧ Fr n0 L ∧ Keep h0 h []
theorem rmLt (l : Launch) (Z : State) (a0 : Array Value) (hw : HW a0 Z) (ws : List Jvm.Cond) (t x0 x1 x2 : Addr) (gg : own_G) (h0 : Heap) (n0 : Nat) (Z0 : n0 ≤ h0.size) (EV : own_Env Z gg) (X00 : Old Z n0 h0) (O : own_OA Z h0 t [x0, x1, x2] 3) :
    own_M l yM24 jdk_56_method_5_code 5 (some (.object "java/util/List")) ws (rK 5 1 2 68) #[(.ref t)] Z h0 (QLt Z t x0 x1 x2 gg h0 n0) := by
  refine own_open (by decide +kernel) dB24 fun p e s m b0 meth c s₁ S0 hx D hby hml hown hnm hret hlk hZ X0 e0 c0 => ?_
  replace c0 : Sx p e b0 S0 s₁ (mkF m 0 (a104 t) []) := c0
  have Hw := @own_Hw _ _ hw
  have N0 := Fr.nil n0
  obtain ⟨⟨kt, Vt, Ot⟩, -⟩ := id O
  have Nf := N0
  obtain ⟨T1, X1, e1, st1⟩ := getS2 X0 hx hZ hown (host := "") (Or.inl (Hw 126 rfl)) Via.refl e0 (EV.ad.ext X00.2) (g := (mkF m 0 (a104 t) [])) rfl (D 0 rfl)
  have c1 : Sx p e b0 S0 T1 (mkF m 3 (a104 t) [(.int J1)]) := c0.trans (st1 _ (Steps.refl _))
  obtain ⟨cz4, Az4, -, Sz4, Mz4, -, -⟩ := id Vt
  have c5 : Sx p e b0 S0 T1 (mkF m 27 (a105 t t) [(.int J3)]) := by
    refine c1.trans ?_
    refine XS.ifYes X1.here hx rfl (pc0 := 3) (pc' := 23) rfl (D 1 rfl) rfl ((if0 _ _).trans (feq (by decide)).2) (by decide) (by decide) ?_
    refine qA X1 hx rfl (D 2 rfl) rfl rfl ?_
    refine XS.astoreN X1.here hx rfl (D 3 rfl) rfl rfl (l' := (a105 t t)) rfl ?_
    refine qA X1 hx rfl (D 4 rfl) rfl rfl ?_
    refine X1.arraylength hx (by rw [e1]; exact Az4.1) (State.isArrayOf_alike hZ.alike Az4.2.1) (g := (mkF m 26 (a105 t t) [(.ref t)])) rfl rfl (D 5 rfl) _ ?_
    rw [len_of Sz4 Mz4]
    exact Steps.refl _
  obtain ⟨cl9, Ar9, in9, hv9⟩ := own_ld (N := 3) Vt (by decide) (i := 0) (by decide) (j := J0) (by decide) (v := (.ref x0)) rfl
  obtain ⟨_, _, ⟨T11, L11, k11, n11⟩, -, X11, ⟨Lc11, hQ11, l11, y11, z11⟩, st11⟩ := Jvm.LawKit.callS X1 hx (y := yM0) hown (mvT hZ (Hw 127 rfl)) (mvT hZ (Hw 128 rfl)) (mvT hZ (Hw 61 rfl)) (mvT hZ (Hw 129 rfl)) (by decide) (backOf (W := 0) (rmR1 l Z a0 hw [] x0 h0 n0 Z0) hZ (Hw 129 rfl) (Hw 61 rfl) (by decide) (by decide)) (g := (mkF m 42 (a106 t t J3 J0 x0) [(.ref x0)])) rfl hml.symm (argsL := [(.ref x0)]) (rest := []) (lenOf pd1 rfl) rfl (nE rfl) (D 17 rfl) (fun _ _ => ⟨rfl, e1, (by decide : 0 + 0 ≤ _), (by decide : 0 + 0 ≤ _)⟩)
  dsimp only [Pt.U, Pt.locs, Pt.cells, Pt.slots] at X11 l11 y11 z11 st11 hQ11
  subst l11 y11 z11
  obtain ⟨rfl, Nr, er0⟩ := hQ11
  have c11 : Sx p e b0 S0 T11 (mkF m 45 (a106 t t J3 J0 x0) [(.ref x0)]) := c5.trans (XS.istoreN X1.here hx rfl (D 6 rfl) rfl (l' := (a107 t t J3)) rfl (qc X1 hx rfl (D 7 rfl) (XS.istoreN X1.here hx rfl (D 8 rfl) rfl (l' := (a108 t t J3 J0)) rfl (qI X1 hx rfl (D 9 rfl) rfl (qI X1 hx rfl (D 10 rfl) rfl (XS.icmpNo X1.here hx rfl (D 11 rfl) rfl (tlt (by decide)).2.1 (qA X1 hx rfl (D 12 rfl) rfl rfl (qI X1 hx rfl (D 13 rfl) rfl (X1.aaload hx (j := J0) (by rw [e1]; exact Ar9.1) (State.isArrayOf_alike hZ.alike Ar9.2.1) rfl Ar9.2.2 in9 hv9 (g := (mkF m 37 (a108 t t J3 J0) [(.int J0), (.ref t)])) rfl rfl (D 14 rfl) _ (XS.astore X1.here hx rfl (D 15 rfl) rfl rfl (l' := (a106 t t J3 J0 x0)) rfl (qa X1 hx rfl (D 16 rfl) rfl rfl (st11 _ (Steps.refl _)))))))))))))
  have Nf := Fr.app Nf Nr
  obtain ⟨cl15, Ar15, in15, hv15⟩ := own_ld (N := 3) Vt (by decide) (i := 1) (by decide) (j := (J0 + J1)) (by decide) (v := (.ref x1)) rfl
  obtain ⟨_, _, ⟨T17, L17, k17, n17⟩, -, X17, ⟨Lc17, hQ17, l17, y17, z17⟩, st17⟩ := Jvm.LawKit.callS X11 hx (y := yM0) hown (mvT hZ (Hw 127 rfl)) (mvT hZ (Hw 128 rfl)) (mvT hZ (Hw 61 rfl)) (mvT hZ (Hw 129 rfl)) (by decide) (backOf (W := 0) (rmR1 l Z a0 hw [] x1 h0 n0 Z0) hZ (Hw 129 rfl) (Hw 61 rfl) (by decide) (by decide)) (g := (mkF m 42 (a106 t t J3 (J0 + J1) x1) [(.ref x1)])) rfl hml.symm (argsL := [(.ref x1)]) (rest := []) (lenOf pd1 rfl) rfl (nE rfl) (D 17 rfl) (fun _ _ => ⟨rfl, er0, (by decide : 0 + 0 ≤ _), (by decide : 0 + 0 ≤ _)⟩)
  dsimp only [Pt.U, Pt.locs, Pt.cells, Pt.slots] at X17 l17 y17 z17 st17 hQ17
  subst l17 y17 z17
  obtain ⟨rfl, Nr, er1⟩ := hQ17
  have c17 : Sx p e b0 S0 T17 (mkF m 45 (a106 t t J3 (J0 + J1) x1) [(.ref x1)]) := c11.trans (XS.pop X11.here hx rfl (D 18 rfl) rfl rfl (XS.iinc X11.here hx rfl (D 19 rfl) rfl (l' := (a106 t t J3 (J0 + J1) x0)) rfl (XS.goto X11.here hx rfl (pc0 := 49) (pc' := 30) rfl (D 20 rfl) (by decide) (by decide) (qI X11 hx rfl (D 9 rfl) rfl (qI X11 hx rfl (D 10 rfl) rfl (XS.icmpNo X11.here hx rfl (D 11 rfl) rfl (tlt (by decide)).2.1 (qA X11 hx rfl (D 12 rfl) rfl rfl (qI X11 hx rfl (D 13 rfl) rfl (X11.aaload hx (j := (J0 + J1)) (by rw [er0]; exact Ar15.1) (State.isArrayOf_alike hZ.alike Ar15.2.1) rfl Ar15.2.2 in15 hv15 (g := (mkF m 37 (a106 t t J3 (J0 + J1) x0) [(.int (J0 + J1)), (.ref t)])) rfl rfl (D 14 rfl) _ (XS.astore X11.here hx rfl (D 15 rfl) rfl rfl (l' := (a106 t t J3 (J0 + J1) x1)) rfl (qa X11 hx rfl (D 16 rfl) rfl rfl (st17 _ (Steps.refl _)))))))))))))
  have Nf := Fr.app Nf Nr
  obtain ⟨cl21, Ar21, in21, hv21⟩ := own_ld (N := 3) Vt (by decide) (i := 2) (by decide) (j := ((J0 + J1) + J1)) (by decide) (v := (.ref x2)) rfl
  obtain ⟨_, _, ⟨T23, L23, k23, n23⟩, -, X23, ⟨Lc23, hQ23, l23, y23, z23⟩, st23⟩ := Jvm.LawKit.callS X17 hx (y := yM0) hown (mvT hZ (Hw 127 rfl)) (mvT hZ (Hw 128 rfl)) (mvT hZ (Hw 61 rfl)) (mvT hZ (Hw 129 rfl)) (by decide) (backOf (W := 0) (rmR1 l Z a0 hw [] x2 h0 n0 Z0) hZ (Hw 129 rfl) (Hw 61 rfl) (by decide) (by decide)) (g := (mkF m 42 (a106 t t J3 ((J0 + J1) + J1) x2) [(.ref x2)])) rfl hml.symm (argsL := [(.ref x2)]) (rest := []) (lenOf pd1 rfl) rfl (nE rfl) (D 17 rfl) (fun _ _ => ⟨rfl, er1, (by decide : 0 + 0 ≤ _), (by decide : 0 + 0 ≤ _)⟩)
  dsimp only [Pt.U, Pt.locs, Pt.cells, Pt.slots] at X23 l23 y23 z23 st23 hQ23
  subst l23 y23 z23
  obtain ⟨rfl, Nr, er2⟩ := hQ23
  have c23 : Sx p e b0 S0 T23 (mkF m 45 (a106 t t J3 ((J0 + J1) + J1) x2) [(.ref x2)]) := c17.trans (XS.pop X17.here hx rfl (D 18 rfl) rfl rfl (XS.iinc X17.here hx rfl (D 19 rfl) rfl (l' := (a106 t t J3 ((J0 + J1) + J1) x1)) rfl (XS.goto X17.here hx rfl (pc0 := 49) (pc' := 30) rfl (D 20 rfl) (by decide) (by decide) (qI X17 hx rfl (D 9 rfl) rfl (qI X17 hx rfl (D 10 rfl) rfl (XS.icmpNo X17.here hx rfl (D 11 rfl) rfl (tlt (by decide)).2.1 (qA X17 hx rfl (D 12 rfl) rfl rfl (qI X17 hx rfl (D 13 rfl) rfl (X17.aaload hx (j := ((J0 + J1) + J1)) (by rw [er1]; exact Ar21.1) (State.isArrayOf_alike hZ.alike Ar21.2.1) rfl Ar21.2.2 in21 hv21 (g := (mkF m 37 (a106 t t J3 ((J0 + J1) + J1) x1) [(.int ((J0 + J1) + J1)), (.ref t)])) rfl rfl (D 14 rfl) _ (XS.astore X17.here hx rfl (D 15 rfl) rfl rfl (l' := (a106 t t J3 ((J0 + J1) + J1) x2)) rfl (qa X17 hx rfl (D 16 rfl) rfl rfl (st23 _ (Steps.refl _)))))))))))))
  have Nf := Fr.app Nf Nr
  obtain ⟨cz27, Az27, -, Sz27, Mz27, -, -⟩ := id Vt
  have c28 : Sx p e b0 S0 T23 (mkF m 54 (a106 t t J3 (((J0 + J1) + J1) + J1) x2) [(.int J3)]) := by
    refine c23.trans ?_
    refine XS.pop X23.here hx rfl (D 18 rfl) rfl rfl ?_
    refine XS.iinc X23.here hx rfl (D 19 rfl) rfl (l' := (a106 t t J3 (((J0 + J1) + J1) + J1) x2)) rfl ?_
    refine XS.goto X23.here hx rfl (pc0 := 49) (pc' := 30) rfl (D 20 rfl) (by decide) (by decide) ?_
    refine qI X23 hx rfl (D 9 rfl) rfl ?_
    refine qI X23 hx rfl (D 10 rfl) rfl ?_
    refine XS.icmpYes X23.here hx rfl (pc0 := 32) (pc' := 52) rfl (D 11 rfl) rfl (flt (by decide)).2.1 (by decide) (by decide) ?_
    refine qA X23 hx rfl (D 21 rfl) rfl rfl ?_
    refine X23.arraylength hx (by rw [er2]; exact Az27.1) (State.isArrayOf_alike hZ.alike Az27.2.1) (g := (mkF m 53 (a106 t t J3 (((J0 + J1) + J1) + J1) x2) [(.ref t)])) rfl rfl (D 22 rfl) _ ?_
    rw [len_of Sz27 Mz27]
    exact Steps.refl _
  obtain ⟨T30, h30, X30, e30, E30, A30, D30, -, st30⟩ := newO X23 hx hZ hown (Hw 106 rfl) (Hw 130 rfl) (Hw 131 rfl) er2 (g := (mkF m 115 (a106 t t J3 (((J0 + J1) + J1) + J1) x2) [])) rfl (D 24 rfl) (by decide) (by decide)
  obtain ⟨b30, g30⟩ : ∃ z, z = h0.size := ⟨_, rfl⟩
  rw [← g30] at A30 D30 st30
  have c30 : Sx p e b0 S0 T30 (mkF m 118 (a106 t t J3 (((J0 + J1) + J1) + J1) x2) [(.ref b30)]) := c28.trans (XS.tswOut X23.here hx rfl (pc0 := 54) (pc' := 115) rfl (D 23 rfl) rfl (by decide) (by decide) (by decide) (st30 _ (Steps.refl _)))
  have Er := A30
  have Fl : Fld Z h30 b30 "java/util/ImmutableCollections$ListN" "elements" "[Ljava/lang/Object;" .null := D30 (Or.inr (Hw 155 rfl)) (ty := (.array (.object "java/lang/Object"))) (by decide)
  have Fw : Fld Z h30 b30 "java/util/ImmutableCollections$ListN" "allowNulls" "Z" (.int 0) := D30 (Or.inr (Hw 109 rfl)) (ty := .boolean) (by decide)
  have z30 : h0.size ≤ b30 := nE g30.symm
  have n30b : n0 ≤ b30 := nT Z0 z30
  have Zk := nT Z0 E30.1
  obtain ⟨_, _, ⟨T32, L32, k32, n32⟩, -, X32, ⟨Lc32, hQ32, l32, y32, z32⟩, st32⟩ := X30.specialBackNest hx (y := yM9) rfl hown (Cond.methodLinkNest_wide hZ (Hw 132 rfl) :) (mvT hZ (Hw 133 rfl)) (mvT hZ (Hw 134 rfl)) (by decide) (backOf (W := 1) (rmNi l Z a0 hw [] b30 t h30 n0 Zk Er Fl Fw n30b) hZ (Hw 134 rfl) (Hw 131 rfl) (by decide) (by decide)) (g := (mkF m 121 (a106 t t J3 (((J0 + J1) + J1) + J1) x2) [(.int J0), (.ref t), (.ref b30), (.ref b30)])) rfl hml.symm (Steps.refl _) (a := b30) (argsL := [(.ref t), (.int J0)]) (rest := [(.ref b30)]) (lenOf pd6 rfl) rfl (nE rfl) (D 28 rfl) (fun _ _ => ⟨rfl, e30, (by decide : 1 + 0 ≤ _), (by decide : 2 + 0 ≤ _)⟩)
  dsimp only [Pt.U, Pt.locs, Pt.cells, Pt.slots] at X32 l32 y32 z32 st32 hQ32
  subst l32 y32 z32
  obtain ⟨rfl, N1, K1, G1, G2, G3⟩ := hQ32
  have c32 : Sx p e b0 S0 T32 (mkF m 124 (a106 t t J3 (((J0 + J1) + J1) + J1) x2) [(.ref b30)]) := c30.trans (XS.dup X30.here hx rfl (D 25 rfl) rfl rfl (qA X30 hx rfl (D 26 rfl) rfl rfl (qc X30 hx rfl (D 27 rfl) (st32))))
  obtain ⟨fs, hr, r1, r2, hW, r4⟩ := X32.leave (v := some (.ref b30)) (nV hret)
  refine ⟨_, _, c32.trans ?_, r1, r2, _, _, rfl, ?_, ⟨_, rfl⟩, hW, r4.mono (by decide) (by decide)⟩
  · exact retA X32 hx hret rfl rfl (D 29 rfl) hr
  · show QLt Z t x0 x1 x2 gg h0 n0 _ T32.heap _
    exact ⟨⟨_, rfl, z30, G1, G2, G3⟩, Fr.app Nf N1, ((Keep.refl h0 []).ext E30).trans K1 (fun x hx => by cases List.mem_singleton.mp hx; exact Or.inr z30)⟩
def QO3 (Z : State) (x0 x1 x2 : Addr) (gg : own_G) (h0 : Heap) (n0 : Nat) (v : Option Value) (h : Heap) (L : List Loc) : Prop := (∃ r t : Addr, v = some (.ref r) ∧ h0.size ≤ r ∧ Exa Z h r own_LN ∧ Fld Z h r own_LN "elements" "[Ljava/lang/Object;" (.ref t) ∧ own_OA Z h t [x0, x1, x2] 3) ∧ Fr n0 L ∧ Keep h0 h []
theorem rmO3 (l : Launch) (Z : State) (a0 : Array Value) (hw : HW a0 Z) (ws : List Jvm.Cond) (x0 x1 x2 : Addr) (gg : own_G) (h0 : Heap) (n0 : Nat) (Z0 : n0 ≤ h0.size) (EV : own_Env Z gg) (X00 : Old Z n0 h0) (I0 : Ins Z h0 x0 own_OB true) (I1 : Ins Z h0 x1 own_OB true) (I2 : Ins Z h0 x2 own_OB true) :
    own_M l yM25 jdk_40_method_39_code 3 (some (.object "java/util/List")) ws (rK 6 2 5 90) #[(.ref x0), (.ref x1), (.ref x2)] Z h0 (QO3 Z x0 x1 x2 gg h0 n0) := by
  refine own_open (by decide +kernel) dB25 fun p e s m b0 meth c s₁ S0 hx D hby hml hown hnm hret hlk hZ X0 e0 c0 => ?_
  replace c0 : Sx p e b0 S0 s₁ (mkF m 0 (a101 x0 x1 x2) []) := c0
  have Hw := @own_Hw _ _ hw
  have N0 := Fr.nil n0
  obtain ⟨T2, h2, kA2, X2, e2, E2, A2, A2x, O2, st2⟩ := newRE X0 hx hZ hown (Hw 120 rfl) (Hw 121 rfl) e0 (g := (mkF m 1 (a101 x0 x1 x2) [(.int J3)])) rfl (D 1 rfl) rfl (by decide) (cap := 3) (by decide) (by decide) (by decide) (by decide) (ad := "[Ljava/lang/Object;") (by decide +kernel)
  obtain ⟨b2, g2⟩ : ∃ z, z = h0.size := ⟨_, rfl⟩
  rw [← g2] at A2 A2x st2
  have V2 := Arv.new A2 (by decide)
  have c2 : Sx p e b0 S0 T2 (mkF m 4 (a101 x0 x1 x2) [(.ref b2)]) := c0.trans (qc X0 hx rfl (D 0 rfl) (st2 _ (Steps.refl _)))
  have z2 : h0.size ≤ b2 := nE g2.symm
  have n2b : n0 ≤ b2 := nT Z0 z2
  have Nf := N0
  have hKp := (Keep.refl h0 []).ext E2
  have Ax := A2x
  have X0k := X00.ext E2
  have I0 := I0.ext E2
  have I1 := I1.ext E2
  have I2 := I2.ext E2
  have Vp4 : Arv Z _ b2 kA2 (.object "java/lang/Object") J3 [.null] .null := V2.pad (pad_rep [] .null 1)
  obtain ⟨cl4, Ar4, qr4, S4, M4, Hs4, U4⟩ := id Vp4
  obtain ⟨T4, h4, X4, e4, W4, st4⟩ := stR X2 hx hZ e2 Ar4 (j := J0) (v := (.ref x0)) (inb_of S4 ⟨(by decide), (by decide)⟩) rfl (Sto.ofV Ar4 qr4 O2 I0) (g := (mkF m 7 (a101 x0 x1 x2) [(.ref x0), (.int J0), (.ref b2), (.ref b2)])) rfl rfl (D 5 rfl)
  have V4 : Arv Z h4 b2 kA2 (.object "java/lang/Object") J3 [(.ref x0)] .null := Arv.set Ar4 qr4 S4 M4 Hs4 U4 rfl W4 0 (by decide) (Nat.le_of_ble_eq_true rfl)
  have c4 : Sx p e b0 S0 T4 (mkF m 8 (a101 x0 x1 x2) [(.ref b2)]) := c2.trans (XS.dup X2.here hx rfl (D 2 rfl) rfl rfl (qc X2 hx rfl (D 3 rfl) (qA X2 hx rfl (D 4 rfl) rfl rfl (st4 _ (Steps.refl _)))))
  have Nf := Fr.snoc X4 Nf n2b
  have hKp := hKp.wr W4 (Or.inr z2)
  have Ax := Ax.wr W4
  have X0k := X0k.wr W4 n2b
  have I0 := I0.wr W4
  have I1 := I1.wr W4
  have I2 := I2.wr W4
  have Vp6 : Arv Z _ b2 kA2 (.object "java/lang/Object") J3 [(.ref x0), .null] .null := V4.pad (pad_rep [(.ref x0)] .null 1)
  obtain ⟨cl6, Ar6, qr6, S6, M6, Hs6, U6⟩ := id Vp6
  obtain ⟨T6, h6, X6, e6, W6, st6⟩ := stR X4 hx hZ e4 Ar6 (j := J1) (v := (.ref x1)) (inb_of S6 ⟨(by decide), (by decide)⟩) rfl (Sto.ofV Ar6 qr6 O2 I1) (g := (mkF m 11 (a101 x0 x1 x2) [(.ref x1), (.int J1), (.ref b2), (.ref b2)])) rfl rfl (D 9 rfl)
  have V6 : Arv Z h6 b2 kA2 (.object "java/lang/Object") J3 [(.ref x0), (.ref x1)] .null := Arv.set Ar6 qr6 S6 M6 Hs6 U6 rfl W6 1 (by decide) (Nat.le_of_ble_eq_true rfl)
  have c6 : Sx p e b0 S0 T6 (mkF m 12 (a101 x0 x1 x2) [(.ref b2)]) := c4.trans (XS.dup X4.here hx rfl (D 6 rfl) rfl rfl (qc X4 hx rfl (D 7 rfl) (qA X4 hx rfl (D 8 rfl) rfl rfl (st6 _ (Steps.refl _)))))
  have Nf := Fr.snoc X6 Nf n2b
  have hKp := hKp.wr W6 (Or.inr z2)
  have Ax := Ax.wr W6
  have X0k := X0k.wr W6 n2b
  have I0 := I0.wr W6
  have I1 := I1.wr W6
  have I2 := I2.wr W6
  have Vp8 : Arv Z _ b2 kA2 (.object "java/lang/Object") J3 [(.ref x0), (.ref x1), .null] .null := V6.pad (pad_rep [(.ref x0), (.ref x1)] .null 1)
  obtain ⟨cl8, Ar8, qr8, S8, M8, Hs8, U8⟩ := id Vp8
  obtain ⟨T8, h8, X8, e8, W8, st8⟩ := stR X6 hx hZ e6 Ar8 (j := J2) (v := (.ref x2)) (inb_of S8 ⟨(by decide), (by decide)⟩) rfl (Sto.ofV Ar8 qr8 O2 I2) (g := (mkF m 15 (a101 x0 x1 x2) [(.ref x2), (.int J2), (.ref b2), (.ref b2)])) rfl rfl (D 13 rfl)
  have V8 : Arv Z h8 b2 kA2 (.object "java/lang/Object") J3 [(.ref x0), (.ref x1), (.ref x2)] .null := Arv.set Ar8 qr8 S8 M8 Hs8 U8 rfl W8 2 (by decide) (Nat.le_of_ble_eq_true rfl)
  have c8 : Sx p e b0 S0 T8 (mkF m 16 (a101 x0 x1 x2) [(.ref b2)]) := c6.trans (XS.dup X6.here hx rfl (D 10 rfl) rfl rfl (qc X6 hx rfl (D 11 rfl) (qA X6 hx rfl (D 12 rfl) rfl rfl (st8 _ (Steps.refl _)))))
  have Nf := Fr.snoc X8 Nf n2b
  have hKp := hKp.wr W8 (Or.inr z2)
  have Ax := Ax.wr W8
  have X0k := X0k.wr W8 n2b
  have I0 := I0.wr W8
  have I1 := I1.wr W8
  have I2 := I2.wr W8
  have O3 : own_OA Z h8 b2 [x0, x1, x2] 3 := ⟨⟨_, V8, O2⟩, Ax, Nat.le_of_ble_eq_true rfl, by decide⟩
  obtain ⟨_, _, ⟨T9, L9, k9, n9⟩, -, X9, ⟨Lc9, hQ9, l9, y9, z9⟩, st9⟩ := Jvm.LawKit.callS X8 hx (y := yM24) hown (mvT hZ (Hw 123 rfl)) (mvT hZ (Hw 124 rfl)) (mvT hZ (Hw 70 rfl)) (mvT hZ (Hw 125 rfl)) (by decide) (backOf (W := 0) (rmLt l Z a0 hw [] b2 x0 x1 x2 gg h8 n0 (nT Z0 hKp.1) EV X0k O3) hZ (Hw 125 rfl) (Hw 70 rfl) (by decide) (by decide)) (g := (mkF m 16 (a101 x0 x1 x2) [(.ref b2)])) rfl hml.symm (argsL := [(.ref b2)]) (rest := []) (lenOf pd7 rfl) rfl (nE rfl) (D 14 rfl) (fun _ _ => ⟨rfl, e8, (by decide : 1 + 1 ≤ _), (by decide : 3 + 2 ≤ _)⟩)
  dsimp only [Pt.U, Pt.locs, Pt.cells, Pt.slots] at X9 l9 y9 z9 st9 hQ9
  subst l9 y9 z9
  obtain ⟨⟨r, rfl, zr, G1, G2, G3⟩, N1, K1⟩ := hQ9
  have c9 : Sx p e b0 S0 T9 (mkF m 19 (a101 x0 x1 x2) [(.ref r)]) := c8.trans (st9 _ (Steps.refl _))
  obtain ⟨fs, hr, r1, r2, hW, r4⟩ := X9.leave (v := some (.ref r)) (nV hret)
  refine ⟨_, _, c9.trans ?_, r1, r2, _, _, rfl, ?_, ⟨_, rfl⟩, hW, r4.mono (by decide) (by decide)⟩
  · exact retA X9 hx hret rfl rfl (D 15 rfl) hr
  · show QO3 Z x0 x1 x2 gg h0 n0 _ T9.heap _
    exact ⟨⟨_, _, rfl, nT hKp.1 zr, G1, G2, O3.keep0 K1⟩, Fr.app Nf N1, hKp.trans K1 all0⟩
def QLa (Z : State) (t x0 x1 x2 : Addr) (gg : own_G) (h0 : Heap) (n0 : Nat) (v : Option Value) (h : Heap) (L : List Loc) : Prop := (∃ r t : Addr, v = some (.ref r) ∧ h0.size ≤ r ∧ Exa Z h r own_LN ∧ Fld Z h r own_LN "elements" "[Ljava/lang/Object;" (.ref t) ∧ own_OA Z h t [x0, x1, x2] 3) ∧ Fr n0 L ∧ Keep h0 h []
theorem rmLa (l : Launch) (Z : State) (a0 : Array Value) (hw : HW a0 Z) (ws : List Jvm.Cond) (t x0 x1 x2 : Addr) (gg : own_G) (h0 : Heap) (n0 : Nat) (Z0 : n0 ≤ h0.size) (EV : own_Env Z gg) (X00 : Old Z n0 h0) (O : own_OA Z h0 t [x0, x1, x2] 3) (El : own_El Z h0 [x0, x1, x2]) :
    own_M l yM26 jdk_56_method_4_code 3 (some (.object "java/util/List")) ws (rK 5 2 5 68) #[(.ref t)] Z h0 (QLa Z t x0 x1 x2 gg h0 n0) := by
  refine own_open (by decide +kernel) dB26 fun p e s m b0 meth c s₁ S0 hx D hby hml hown hnm hret hlk hZ X0 e0 c0 => ?_
  replace c0 : Sx p e b0 S0 s₁ (mkF m 0 (a109 t) []) := c0
  have Hw := @own_Hw _ _ hw
  have N0 := Fr.nil n0
  obtain ⟨⟨kt, Vt, Ot⟩, Et, -⟩ := id O
  have Nf := N0
  have I0 := El x0 (by simp)
  have I1 := El x1 (by simp)
  have I2 := El x2 (by simp)
  obtain ⟨cz2, Az2, -, Sz2, Mz2, -, -⟩ := id Vt
  have c3 : Sx p e b0 S0 s₁ (mkF m 2 (a109 t) [(.int J3)]) := by
    refine c0.trans ?_
    refine qA X0 hx rfl (D 0 rfl) rfl rfl ?_
    refine X0.arraylength hx (by rw [e0]; exact Az2.1) (State.isArrayOf_alike hZ.alike Az2.2.1) (g := (mkF m 1 (a109 t) [(.ref t)])) rfl rfl (D 1 rfl) _ ?_
    rw [len_of Sz2 Mz2]
    exact Steps.refl _
  obtain ⟨T4, h4, kA4, X4, e4, E4, A4, A4x, O4, st4⟩ := newRE X0 hx hZ hown (Hw 535 rfl) (Hw 121 rfl) e0 (g := (mkF m 2 (a109 t) [(.int J3)])) rfl (D 2 rfl) rfl (by decide) (cap := 3) (by decide) (by decide) (by decide) (by decide) (ad := "[Ljava/lang/Object;") (by decide +kernel)
  obtain ⟨b4, g4⟩ : ∃ z, z = h0.size := ⟨_, rfl⟩
  rw [← g4] at A4 A4x st4
  have V4 := Arv.new A4 (by decide)
  have c4 : Sx p e b0 S0 T4 (mkF m 5 (a109 t) [(.ref b4)]) := c3.trans (st4 _ (Steps.refl _))
  have z4 : h0.size ≤ b4 := nE g4.symm
  have n4b : n0 ≤ b4 := nT Z0 z4
  have hKp := (Keep.refl h0 []).ext E4
  have Ax := A4x
  have Vt := Vt.ext E4
  have ntb : t ≠ b4 := Nat.ne_of_lt (Nat.lt_of_lt_of_le Et.lt z4)
  have I0 := I0.ext E4
  have I1 := I1.ext E4
  have I2 := I2.ext E4
  obtain ⟨cz7, Az7, -, Sz7, Mz7, -, -⟩ := id Vt
  have c8 : Sx p e b0 S0 T4 (mkF m 11 (a100 t b4 J0) [(.int J3), (.int J0)]) := by
    refine c4.trans ?_
    refine XS.astoreN X4.here hx rfl (D 3 rfl) rfl rfl (l' := (a110 t b4)) rfl ?_
    refine qc X4 hx rfl (D 4 rfl) ?_
    refine XS.istoreN X4.here hx rfl (D 5 rfl) rfl (l' := (a100 t b4 J0)) rfl ?_
    refine qI X4 hx rfl (D 6 rfl) rfl ?_
    refine qA X4 hx rfl (D 7 rfl) rfl rfl ?_
    refine X4.arraylength hx (by rw [e4]; exact Az7.1) (State.isArrayOf_alike hZ.alike Az7.2.1) (g := (mkF m 10 (a100 t b4 J0) [(.ref t), (.int J0)])) rfl rfl (D 8 rfl) _ ?_
    rw [len_of Sz7 Mz7]
    exact Steps.refl _
  obtain ⟨cl11, Ar11, in11, hv11⟩ := own_ld (N := 3) Vt (by decide) (i := 0) (by decide) (j := J0) (by decide) (v := (.ref x0)) rfl
  obtain ⟨_, _, ⟨T12, L12, k12, n12⟩, -, X12, ⟨Lc12, hQ12, l12, y12, z12⟩, st12⟩ := Jvm.LawKit.callS X4 hx (y := yM0) hown (mvT hZ (Hw 127 rfl)) (mvT hZ (Hw 128 rfl)) (mvT hZ (Hw 61 rfl)) (mvT hZ (Hw 129 rfl)) (by decide) (backOf (W := 2) (rmR1 l Z a0 hw [] x0 h4 n0 (nT Z0 hKp.1)) hZ (Hw 129 rfl) (Hw 61 rfl) (by decide) (by decide)) (g := (mkF m 19 (a100 t b4 J0) [(.ref x0), (.int J0), (.ref b4)])) rfl hml.symm (argsL := [(.ref x0)]) (rest := [(.int J0), (.ref b4)]) (lenOf pd1 rfl) rfl (nE rfl) (D 15 rfl) (fun _ _ => ⟨rfl, e4, (by decide : 1 + 0 ≤ _), (by decide : 3 + 0 ≤ _)⟩)
  dsimp only [Pt.U, Pt.locs, Pt.cells, Pt.slots] at X12 l12 y12 z12 st12 hQ12
  subst l12 y12 z12
  obtain ⟨rfl, Nr, er0⟩ := hQ12
  have c12 : Sx p e b0 S0 T12 (mkF m 22 (a100 t b4 J0) [(.ref x0), (.int J0), (.ref b4)]) := c8.trans (XS.icmpNo X4.here hx rfl (D 9 rfl) rfl (tlt (by decide)).2.1 (qA X4 hx rfl (D 10 rfl) rfl rfl (qI X4 hx rfl (D 11 rfl) rfl (qA X4 hx rfl (D 12 rfl) rfl rfl (qI X4 hx rfl (D 13 rfl) rfl (X4.aaload hx (j := J0) (by rw [e4]; exact Ar11.1) (State.isArrayOf_alike hZ.alike Ar11.2.1) rfl Ar11.2.2 in11 hv11 (g := (mkF m 18 (a100 t b4 J0) [(.int J0), (.ref t), (.int J0), (.ref b4)])) rfl rfl (D 14 rfl) _ (st12 _ (Steps.refl _))))))))
  have Nf := Fr.app Nf Nr
  have Vp13 : Arv Z _ b4 kA4 (.object "java/lang/Object") J3 [.null] .null := V4.pad (pad_rep [] .null 1)
  obtain ⟨cl13, Ar13, qr13, S13, M13, Hs13, U13⟩ := id Vp13
  obtain ⟨T13, h13, X13, e13, W13, st13⟩ := stR X12 hx hZ er0 Ar13 (j := J0) (v := (.ref x0)) (inb_of S13 ⟨(by decide), (by decide)⟩) rfl (Sto.ofV Ar13 qr13 O4 I0) (g := (mkF m 22 (a100 t b4 J0) [(.ref x0), (.int J0), (.ref b4)])) rfl rfl (D 16 rfl)
  have V13 : Arv Z h13 b4 kA4 (.object "java/lang/Object") J3 [(.ref x0)] .null := Arv.set Ar13 qr13 S13 M13 Hs13 U13 rfl W13 0 (by decide) (Nat.le_of_ble_eq_true rfl)
  have c13 : Sx p e b0 S0 T13 (mkF m 23 (a100 t b4 J0) []) := c12.trans (st13 _ (Steps.refl _))
  have Nf := Fr.snoc X13 Nf n4b
  have hKp := hKp.wr W13 (Or.inr z4)
  have Ax := Ax.wr W13
  have Vt := Vt.other W13 ntb
  have I0 := I0.wr W13
  have I1 := I1.wr W13
  have I2 := I2.wr W13
  obtain ⟨cz16, Az16, -, Sz16, Mz16, -, -⟩ := id Vt
  have c17 : Sx p e b0 S0 T13 (mkF m 11 (a100 t b4 (J0 + J1)) [(.int J3), (.int (J0 + J1))]) := by
    refine c13.trans ?_
    refine XS.iinc X13.here hx rfl (D 17 rfl) rfl (l' := (a100 t b4 (J0 + J1))) rfl ?_
    refine XS.goto X13.here hx rfl (pc0 := 26) (pc' := 8) rfl (D 18 rfl) (by decide) (by decide) ?_
    refine qI X13 hx rfl (D 6 rfl) rfl ?_
    refine qA X13 hx rfl (D 7 rfl) rfl rfl ?_
    refine X13.arraylength hx (by rw [e13]; exact Az16.1) (State.isArrayOf_alike hZ.alike Az16.2.1) (g := (mkF m 10 (a100 t b4 (J0 + J1)) [(.ref t), (.int (J0 + J1))])) rfl rfl (D 8 rfl) _ ?_
    rw [len_of Sz16 Mz16]
    exact Steps.refl _
  obtain ⟨cl20, Ar20, in20, hv20⟩ := own_ld (N := 3) Vt (by decide) (i := 1) (by decide) (j := (J0 + J1)) (by decide) (v := (.ref x1)) rfl
  obtain ⟨_, _, ⟨T21, L21, k21, n21⟩, -, X21, ⟨Lc21, hQ21, l21, y21, z21⟩, st21⟩ := Jvm.LawKit.callS X13 hx (y := yM0) hown (mvT hZ (Hw 127 rfl)) (mvT hZ (Hw 128 rfl)) (mvT hZ (Hw 61 rfl)) (mvT hZ (Hw 129 rfl)) (by decide) (backOf (W := 2) (rmR1 l Z a0 hw [] x1 h13 n0 (nT Z0 hKp.1)) hZ (Hw 129 rfl) (Hw 61 rfl) (by decide) (by decide)) (g := (mkF m 19 (a100 t b4 (J0 + J1)) [(.ref x1), (.int (J0 + J1)), (.ref b4)])) rfl hml.symm (argsL := [(.ref x1)]) (rest := [(.int (J0 + J1)), (.ref b4)]) (lenOf pd1 rfl) rfl (nE rfl) (D 15 rfl) (fun _ _ => ⟨rfl, e13, (by decide : 1 + 0 ≤ _), (by decide : 3 + 0 ≤ _)⟩)
  dsimp only [Pt.U, Pt.locs, Pt.cells, Pt.slots] at X21 l21 y21 z21 st21 hQ21
  subst l21 y21 z21
  obtain ⟨rfl, Nr, er1⟩ := hQ21
  have c21 : Sx p e b0 S0 T21 (mkF m 22 (a100 t b4 (J0 + J1)) [(.ref x1), (.int (J0 + J1)), (.ref b4)]) := c17.trans (XS.icmpNo X13.here hx rfl (D 9 rfl) rfl (tlt (by decide)).2.1 (qA X13 hx rfl (D 10 rfl) rfl rfl (qI X13 hx rfl (D 11 rfl) rfl (qA X13 hx rfl (D 12 rfl) rfl rfl (qI X13 hx rfl (D 13 rfl) rfl (X13.aaload hx (j := (J0 + J1)) (by rw [e13]; exact Ar20.1) (State.isArrayOf_alike hZ.alike Ar20.2.1) rfl Ar20.2.2 in20 hv20 (g := (mkF m 18 (a100 t b4 (J0 + J1)) [(.int (J0 + J1)), (.ref t), (.int (J0 + J1)), (.ref b4)])) rfl rfl (D 14 rfl) _ (st21 _ (Steps.refl _))))))))
  have Nf := Fr.app Nf Nr
  have Vp22 : Arv Z _ b4 kA4 (.object "java/lang/Object") J3 [(.ref x0), .null] .null := V13.pad (pad_rep [(.ref x0)] .null 1)
  obtain ⟨cl22, Ar22, qr22, S22, M22, Hs22, U22⟩ := id Vp22
  obtain ⟨T22, h22, X22, e22, W22, st22⟩ := stR X21 hx hZ er1 Ar22 (j := (J0 + J1)) (v := (.ref x1)) (inb_of S22 ⟨(by decide), (by decide)⟩) rfl (Sto.ofV Ar22 qr22 O4 I1) (g := (mkF m 22 (a100 t b4 (J0 + J1)) [(.ref x1), (.int (J0 + J1)), (.ref b4)])) rfl rfl (D 16 rfl)
  have V22 : Arv Z h22 b4 kA4 (.object "java/lang/Object") J3 [(.ref x0), (.ref x1)] .null := Arv.set Ar22 qr22 S22 M22 Hs22 U22 rfl W22 1 (by decide) (Nat.le_of_ble_eq_true rfl)
  have c22 : Sx p e b0 S0 T22 (mkF m 23 (a100 t b4 (J0 + J1)) []) := c21.trans (st22 _ (Steps.refl _))
  have Nf := Fr.snoc X22 Nf n4b
  have hKp := hKp.wr W22 (Or.inr z4)
  have Ax := Ax.wr W22
  have Vt := Vt.other W22 ntb
  have I0 := I0.wr W22
  have I1 := I1.wr W22
  have I2 := I2.wr W22
  obtain ⟨cz25, Az25, -, Sz25, Mz25, -, -⟩ := id Vt
  have c26 : Sx p e b0 S0 T22 (mkF m 11 (a100 t b4 ((J0 + J1) + J1)) [(.int J3), (.int ((J0 + J1) + J1))]) := by
    refine c22.trans ?_
    refine XS.iinc X22.here hx rfl (D 17 rfl) rfl (l' := (a100 t b4 ((J0 + J1) + J1))) rfl ?_
    refine XS.goto X22.here hx rfl (pc0 := 26) (pc' := 8) rfl (D 18 rfl) (by decide) (by decide) ?_
    refine qI X22 hx rfl (D 6 rfl) rfl ?_
    refine qA X22 hx rfl (D 7 rfl) rfl rfl ?_
    refine X22.arraylength hx (by rw [e22]; exact Az25.1) (State.isArrayOf_alike hZ.alike Az25.2.1) (g := (mkF m 10 (a100 t b4 ((J0 + J1) + J1)) [(.ref t), (.int ((J0 + J1) + J1))])) rfl rfl (D 8 rfl) _ ?_
    rw [len_of Sz25 Mz25]
    exact Steps.refl _
  obtain ⟨cl29, Ar29, in29, hv29⟩ := own_ld (N := 3) Vt (by decide) (i := 2) (by decide) (j := ((J0 + J1) + J1)) (by decide) (v := (.ref x2)) rfl
  obtain ⟨_, _, ⟨T30, L30, k30, n30⟩, -, X30, ⟨Lc30, hQ30, l30, y30, z30⟩, st30⟩ := Jvm.LawKit.callS X22 hx (y := yM0) hown (mvT hZ (Hw 127 rfl)) (mvT hZ (Hw 128 rfl)) (mvT hZ (Hw 61 rfl)) (mvT hZ (Hw 129 rfl)) (by decide) (backOf (W := 2) (rmR1 l Z a0 hw [] x2 h22 n0 (nT Z0 hKp.1)) hZ (Hw 129 rfl) (Hw 61 rfl) (by decide) (by decide)) (g := (mkF m 19 (a100 t b4 ((J0 + J1) + J1)) [(.ref x2), (.int ((J0 + J1) + J1)), (.ref b4)])) rfl hml.symm (argsL := [(.ref x2)]) (rest := [(.int ((J0 + J1) + J1)), (.ref b4)]) (lenOf pd1 rfl) rfl (nE rfl) (D 15 rfl) (fun _ _ => ⟨rfl, e22, (by decide : 1 + 0 ≤ _), (by decide : 3 + 0 ≤ _)⟩)
  dsimp only [Pt.U, Pt.locs, Pt.cells, Pt.slots] at X30 l30 y30 z30 st30 hQ30
  subst l30 y30 z30
  obtain ⟨rfl, Nr, er2⟩ := hQ30
  have c30 : Sx p e b0 S0 T30 (mkF m 22 (a100 t b4 ((J0 + J1) + J1)) [(.ref x2), (.int ((J0 + J1) + J1)), (.ref b4)]) := c26.trans (XS.icmpNo X22.here hx rfl (D 9 rfl) rfl (tlt (by decide)).2.1 (qA X22 hx rfl (D 10 rfl) rfl rfl (qI X22 hx rfl (D 11 rfl) rfl (qA X22 hx rfl (D 12 rfl) rfl rfl (qI X22 hx rfl (D 13 rfl) rfl (X22.aaload hx (j := ((J0 + J1) + J1)) (by rw [e22]; exact Ar29.1) (State.isArrayOf_alike hZ.alike Ar29.2.1) rfl Ar29.2.2 in29 hv29 (g := (mkF m 18 (a100 t b4 ((J0 + J1) + J1)) [(.int ((J0 + J1) + J1)), (.ref t), (.int ((J0 + J1) + J1)), (.ref b4)])) rfl rfl (D 14 rfl) _ (st30 _ (Steps.refl _))))))))
  have Nf := Fr.app Nf Nr
  have Vp31 : Arv Z _ b4 kA4 (.object "java/lang/Object") J3 [(.ref x0), (.ref x1), .null] .null := V22.pad (pad_rep [(.ref x0), (.ref x1)] .null 1)
  obtain ⟨cl31, Ar31, qr31, S31, M31, Hs31, U31⟩ := id Vp31
  obtain ⟨T31, h31, X31, e31, W31, st31⟩ := stR X30 hx hZ er2 Ar31 (j := ((J0 + J1) + J1)) (v := (.ref x2)) (inb_of S31 ⟨(by decide), (by decide)⟩) rfl (Sto.ofV Ar31 qr31 O4 I2) (g := (mkF m 22 (a100 t b4 ((J0 + J1) + J1)) [(.ref x2), (.int ((J0 + J1) + J1)), (.ref b4)])) rfl rfl (D 16 rfl)
  have V31 : Arv Z h31 b4 kA4 (.object "java/lang/Object") J3 [(.ref x0), (.ref x1), (.ref x2)] .null := Arv.set Ar31 qr31 S31 M31 Hs31 U31 rfl W31 2 (by decide) (Nat.le_of_ble_eq_true rfl)
  have c31 : Sx p e b0 S0 T31 (mkF m 23 (a100 t b4 ((J0 + J1) + J1)) []) := c30.trans (st31 _ (Steps.refl _))
  have Nf := Fr.snoc X31 Nf n4b
  have hKp := hKp.wr W31 (Or.inr z4)
  have Ax := Ax.wr W31
  have Vt := Vt.other W31 ntb
  have I0 := I0.wr W31
  have I1 := I1.wr W31
  have I2 := I2.wr W31
  obtain ⟨cz34, Az34, -, Sz34, Mz34, -, -⟩ := id Vt
  have c35 : Sx p e b0 S0 T31 (mkF m 11 (a100 t b4 (((J0 + J1) + J1) + J1)) [(.int J3), (.int (((J0 + J1) + J1) + J1))]) := by
    refine c31.trans ?_
    refine XS.iinc X31.here hx rfl (D 17 rfl) rfl (l' := (a100 t b4 (((J0 + J1) + J1) + J1))) rfl ?_
    refine XS.goto X31.here hx rfl (pc0 := 26) (pc' := 8) rfl (D 18 rfl) (by decide) (by decide) ?_
    refine qI X31 hx rfl (D 6 rfl) rfl ?_
    refine qA X31 hx rfl (D 7 rfl) rfl rfl ?_
    refine X31.arraylength hx (by rw [e31]; exact Az34.1) (State.isArrayOf_alike hZ.alike Az34.2.1) (g := (mkF m 10 (a100 t b4 (((J0 + J1) + J1) + J1)) [(.ref t), (.int (((J0 + J1) + J1) + J1))])) rfl rfl (D 8 rfl) _ ?_
    rw [len_of Sz34 Mz34]
    exact Steps.refl _
  have O3 : own_OA Z h31 b4 [x0, x1, x2] 3 := ⟨⟨_, V31, O4⟩, Ax, Nat.le_of_ble_eq_true rfl, by decide⟩
  obtain ⟨T37, h37, X37, e37, E37, A37, D37, -, st37⟩ := newO X31 hx hZ hown (Hw 106 rfl) (Hw 130 rfl) (Hw 131 rfl) e31 (g := (mkF m 29 (a100 t b4 (((J0 + J1) + J1) + J1)) [])) rfl (D 19 rfl) (by decide) (by decide)
  obtain ⟨b37, g37⟩ : ∃ z, z = h31.size := ⟨_, rfl⟩
  rw [← g37] at A37 D37 st37
  have c37 : Sx p e b0 S0 T37 (mkF m 32 (a100 t b4 (((J0 + J1) + J1) + J1)) [(.ref b37)]) := c35.trans (XS.icmpYes X31.here hx rfl (pc0 := 11) (pc' := 29) rfl (D 9 rfl) rfl (flt (by decide)).2.1 (by decide) (by decide) (st37 _ (Steps.refl _)))
  have Er := A37
  have Fl : Fld Z h37 b37 "java/util/ImmutableCollections$ListN" "elements" "[Ljava/lang/Object;" .null := D37 (Or.inr (Hw 155 rfl)) (ty := (.array (.object "java/lang/Object"))) (by decide)
  have Fw : Fld Z h37 b37 "java/util/ImmutableCollections$ListN" "allowNulls" "Z" (.int 0) := D37 (Or.inr (Hw 109 rfl)) (ty := .boolean) (by decide)
  have zj : h0.size ≤ b37 := nT hKp.1 (nE g37.symm)
  have hKp := hKp.ext E37
  have njt : b4 ≠ b37 := Nat.ne_of_lt (Nat.lt_of_lt_of_le O3.2.1.lt (nE g37.symm))
  have O3 := O3.ext E37
  obtain ⟨_, _, ⟨T39, L39, k39, n39⟩, -, X39, ⟨Lc39, hQ39, l39, y39, z39⟩, st39⟩ := X37.specialBackNest hx (y := yM9) rfl hown (Cond.methodLinkNest_wide hZ (Hw 132 rfl) :) (mvT hZ (Hw 133 rfl)) (mvT hZ (Hw 134 rfl)) (by decide) (backOf (W := 1) (rmNi l Z a0 hw [] b37 b4 h37 n0 (nT Z0 hKp.1) Er Fl Fw (nT Z0 zj)) hZ (Hw 134 rfl) (Hw 131 rfl) (by decide) (by decide)) (g := (mkF m 35 (a100 t b4 (((J0 + J1) + J1) + J1)) [(.int J0), (.ref b4), (.ref b37), (.ref b37)])) rfl hml.symm (Steps.refl _) (a := b37) (argsL := [(.ref b4), (.int J0)]) (rest := [(.ref b37)]) (lenOf pd6 rfl) rfl (nE rfl) (D 23 rfl) (fun _ _ => ⟨rfl, e37, (by decide : 2 + 0 ≤ _), (by decide : 5 + 0 ≤ _)⟩)
  dsimp only [Pt.U, Pt.locs, Pt.cells, Pt.slots] at X39 l39 y39 z39 st39 hQ39
  subst l39 y39 z39
  obtain ⟨rfl, N1, K1, G1, G2, G3⟩ := hQ39
  have c39 : Sx p e b0 S0 T39 (mkF m 38 (a100 t b4 (((J0 + J1) + J1) + J1)) [(.ref b37)]) := c37.trans (XS.dup X37.here hx rfl (D 20 rfl) rfl rfl (qA X37 hx rfl (D 21 rfl) rfl rfl (qc X37 hx rfl (D 22 rfl) (st39))))
  obtain ⟨fs, hr, r1, r2, hW, r4⟩ := X39.leave (v := some (.ref b37)) (nV hret)
  refine ⟨_, _, c39.trans ?_, r1, r2, _, _, rfl, ?_, ⟨_, rfl⟩, hW, r4.mono (by decide) (by decide)⟩
  · exact retA X39 hx hret rfl rfl (D 24 rfl) hr
  · show QLa Z t x0 x1 x2 gg h0 n0 _ T39.heap _
    exact ⟨⟨_, _, rfl, zj, G1, G2, O3.keep K1 (ninS njt nin0)⟩, Fr.app Nf N1, hKp.trans K1 (fun x hx => by cases List.mem_singleton.mp hx; exact Or.inr zj)⟩
def QOf1 (Z : State) (t : Addr) (kt : ClassId) (C : String) (u : Addr) (gg : own_G) (h0 : Heap) (n0 : Nat) (v : Option Value) (h : Heap) (L : List Loc) : Prop := (∃ r : Addr, v = some (.ref r) ∧ h0.size ≤ r ∧ Exa Z h r own_L12 ∧ Fld Z h r own_L12 "e0" "Ljava/lang/Object;" (.ref u) ∧ Fld Z h r own_L12 "e1" "Ljava/lang/Object;" (.ref gg.em)) ∧ Fr n0 L ∧ Keep h0 h []
theorem rmOf1 (l : Launch) (Z : State) (a0 : Array Value) (hw : HW a0 Z) (ws : List Jvm.Cond) (t : Addr) (kt : ClassId) (C : String) (u : Addr) (gg : own_G) (h0 : Heap) (n0 : Nat) (Z0 : n0 ≤ h0.size) (EV : own_Env Z gg) (X00 : Old Z n0 h0) (Vt : Arv Z h0 t kt (.object C) J1 [.ref u] .null) :
    own_M l yM27 jdk_40_method_47_code 2 (some (.object "java/util/List")) ws (rK 5 2 5 70) #[(.ref t)] Z h0 (QOf1 Z t kt C u gg h0 n0) := by
  refine own_open (by decide +kernel) dB27 fun p e s m b0 meth c s₁ S0 hx D hby hml hown hnm hret hlk hZ X0 e0 c0 => ?_
  replace c0 : Sx p e b0 S0 s₁ (mkF m 0 #[vR t, uU] []) := c0
  have Hw := @own_Hw _ _ hw
  have N0 := Fr.nil n0
  obtain ⟨cz2, Az2, -, Sz2, Mz2, -, -⟩ := id Vt
  have c3 : Sx p e b0 S0 s₁ (mkF m 2 #[vR t, uU] [(.int J1)]) := by
    refine c0.trans ?_
    refine qA X0 hx rfl (D 0 rfl) rfl rfl ?_
    refine X0.arraylength hx (by rw [e0]; exact Az2.1) (State.isArrayOf_alike hZ.alike Az2.2.1) (g := (mkF m 1 #[vR t, uU] [(.ref t)])) rfl rfl (D 1 rfl) _ ?_
    rw [len_of Sz2 Mz2]
    exact Steps.refl _
  obtain ⟨T5, h5, X5, e5, E5, A5, D5, -, st5⟩ := newO X0 hx hZ hown (Hw 450 rfl) (Hw 451 rfl) (Hw 452 rfl) e0 (g := (mkF m 34 #[vR t, uU] [])) rfl (D 3 rfl) (by decide) (by decide)
  obtain ⟨b5, g5⟩ : ∃ z, z = h0.size := ⟨_, rfl⟩
  rw [← g5] at A5 D5 st5
  have c5 : Sx p e b0 S0 T5 (mkF m 37 #[vR t, uU] [(.ref b5)]) := c3.trans (XS.tswIn X0.here hx rfl (pc0 := 2) (pc' := 34) rfl (D 2 rfl) rfl (by decide) (o := 32) (by decide) (by decide) (by decide) (st5 _ (Steps.refl _)))
  have Er := A5
  have F0 : Fld Z h5 b5 "java/util/ImmutableCollections$List12" "e0" "Ljava/lang/Object;" .null := D5 (Or.inr (Hw 463 rfl)) (ty := (.object "java/lang/Object")) (by decide)
  have F1 : Fld Z h5 b5 "java/util/ImmutableCollections$List12" "e1" "Ljava/lang/Object;" .null := D5 (Or.inr (Hw 466 rfl)) (ty := (.object "java/lang/Object")) (by decide)
  have z5 : h0.size ≤ b5 := nE g5.symm
  have n5b : n0 ≤ b5 := nT Z0 z5
  have Zk := nT Z0 E5.1
  obtain ⟨cl7, Ar7, in7, hv7⟩ := own_ld (N := 1) (Vt.ext E5) (by decide) (i := 0) (by decide) (j := J0) (by decide) (v := (.ref u)) rfl
  obtain ⟨_, _, ⟨T8, L8, k8, n8⟩, -, X8, ⟨Lc8, hQ8, l8, y8, z8⟩, st8⟩ := X5.specialBack hx (y := yM10) rfl hown (mvT hZ (Hw 453 rfl)) (mvT hZ (Hw 454 rfl)) (mvT hZ (Hw 456 rfl)) (by decide) (backOf (W := 1) (rmT1 l Z a0 hw [] b5 u gg h5 n0 Zk EV (X00.ext E5) Er F0 F1 n5b) hZ (Hw 456 rfl) (Hw 452 rfl) (by decide) (by decide)) (g := (mkF m 41 #[vR t, uU] [(.ref u), (.ref b5), (.ref b5)])) rfl hml.symm (Steps.refl _) (a := b5) (argsL := [(.ref u)]) (rest := [(.ref b5)]) (lenOf pd5 rfl) rfl (nE rfl) (D 8 rfl) (fun _ _ => ⟨rfl, e5, (by decide : 1 + 0 ≤ _), (by decide : 2 + 0 ≤ _)⟩)
  dsimp only [Pt.U, Pt.locs, Pt.cells, Pt.slots] at X8 l8 y8 z8 st8 hQ8
  subst l8 y8 z8
  obtain ⟨rfl, N1, K1, G1, G2, G3⟩ := hQ8
  have c8 : Sx p e b0 S0 T8 (mkF m 44 #[vR t, uU] [(.ref b5)]) := c5.trans (XS.dup X5.here hx rfl (D 4 rfl) rfl rfl (qA X5 hx rfl (D 5 rfl) rfl rfl (qc X5 hx rfl (D 6 rfl) (X5.aaload hx (j := J0) (by rw [e5]; exact Ar7.1) (State.isArrayOf_alike hZ.alike Ar7.2.1) rfl Ar7.2.2 in7 hv7 (g := (mkF m 40 #[vR t, uU] [(.int J0), (.ref t), (.ref b5), (.ref b5)])) rfl rfl (D 7 rfl) _ (st8)))))
  obtain ⟨fs, hr, r1, r2, hW, r4⟩ := X8.leave (v := some (.ref b5)) (nV hret)
  refine ⟨_, _, c8.trans ?_, r1, r2, _, _, rfl, ?_, ⟨_, rfl⟩, hW, r4.mono (by decide) (by decide)⟩
  · exact retA X8 hx hret rfl rfl (D 9 rfl) hr
  · show QOf1 Z t kt C u gg h0 n0 _ T8.heap _
    exact ⟨⟨_, rfl, z5, G1, G2, G3⟩, Fr.app N0 N1, ((Keep.refl h0 []).ext E5).trans K1 (fun x hx => by cases List.mem_singleton.mp hx; exact Or.inr z5)⟩
def QOf2 (Z : State) (t : Addr) (kt : ClassId) (C : String) (u y : Addr) (gg : own_G) (h0 : Heap) (n0 : Nat) (v : Option Value) (h : Heap) (L : List Loc) : Prop := (∃ r : Addr, v = some (.ref r) ∧ h0.size ≤ r ∧ Exa Z h r own_L12 ∧ Fld Z h r own_L12 "e0" "Ljava/lang/Object;" (.ref u) ∧ Fld Z h r own_L12 "e1" "Ljava/lang/Object;" (.ref y)) ∧ Fr n0 L ∧ Keep h0 h []
theorem rmOf2 (l : Launch) (Z : State) (a0 : Array Value) (hw : HW a0 Z) (ws : List Jvm.Cond) (t : Addr) (kt : ClassId) (C : String) (u y : Addr) (gg : own_G) (h0 : Heap) (n0 : Nat) (Z0 : n0 ≤ h0.size) (EV : own_Env Z gg) (X00 : Old Z n0 h0) (Vt : Arv Z h0 t kt (.object C) J2 [.ref u, .ref y] .null) :
    own_M l yM27 jdk_40_method_47_code 2 (some (.object "java/util/List")) ws (rK 5 2 5 70) #[(.ref t)] Z h0 (QOf2 Z t kt C u y gg h0 n0) := by
  refine own_open (by decide +kernel) dB27 fun p e s m b0 meth c s₁ S0 hx D hby hml hown hnm hret hlk hZ X0 e0 c0 => ?_
  replace c0 : Sx p e b0 S0 s₁ (mkF m 0 #[vR t, uU] []) := c0
  have Hw := @own_Hw _ _ hw
  have N0 := Fr.nil n0
  obtain ⟨cz2, Az2, -, Sz2, Mz2, -, -⟩ := id Vt
  have c3 : Sx p e b0 S0 s₁ (mkF m 2 #[vR t, uU] [(.int J2)]) := by
    refine c0.trans ?_
    refine qA X0 hx rfl (D 0 rfl) rfl rfl ?_
    refine X0.arraylength hx (by rw [e0]; exact Az2.1) (State.isArrayOf_alike hZ.alike Az2.2.1) (g := (mkF m 1 #[vR t, uU] [(.ref t)])) rfl rfl (D 1 rfl) _ ?_
    rw [len_of Sz2 Mz2]
    exact Steps.refl _
  obtain ⟨T5, h5, X5, e5, E5, A5, D5, -, st5⟩ := newO X0 hx hZ hown (Hw 450 rfl) (Hw 451 rfl) (Hw 452 rfl) e0 (g := (mkF m 45 #[vR t, uU] [])) rfl (D 10 rfl) (by decide) (by decide)
  obtain ⟨b5, g5⟩ : ∃ z, z = h0.size := ⟨_, rfl⟩
  rw [← g5] at A5 D5 st5
  have c5 : Sx p e b0 S0 T5 (mkF m 48 #[vR t, uU] [(.ref b5)]) := c3.trans (XS.tswIn X0.here hx rfl (pc0 := 2) (pc' := 45) rfl (D 2 rfl) rfl (by decide) (o := 43) (by decide) (by decide) (by decide) (st5 _ (Steps.refl _)))
  have Er := A5
  have F0 : Fld Z h5 b5 "java/util/ImmutableCollections$List12" "e0" "Ljava/lang/Object;" .null := D5 (Or.inr (Hw 463 rfl)) (ty := (.object "java/lang/Object")) (by decide)
  have F1 : Fld Z h5 b5 "java/util/ImmutableCollections$List12" "e1" "Ljava/lang/Object;" .null := D5 (Or.inr (Hw 466 rfl)) (ty := (.object "java/lang/Object")) (by decide)
  have z5 : h0.size ≤ b5 := nE g5.symm
  have n5b : n0 ≤ b5 := nT Z0 z5
  have Zk := nT Z0 E5.1
  obtain ⟨cl7, Ar7, in7, hv7⟩ := own_ld (N := 2) (Vt.ext E5) (by decide) (i := 0) (by decide) (j := J0) (by decide) (v := (.ref u)) rfl
  obtain ⟨cl9, Ar9, in9, hv9⟩ := own_ld (N := 2) (Vt.ext E5) (by decide) (i := 1) (by decide) (j := J1) (by decide) (v := (.ref y)) rfl
  obtain ⟨_, _, ⟨T10, L10, k10, n10⟩, -, X10, ⟨Lc10, hQ10, l10, y10, z10⟩, st10⟩ := X5.specialBack hx (y := yM11) rfl hown (mvT hZ (Hw 546 rfl)) (mvT hZ (Hw 547 rfl)) (mvT hZ (Hw 548 rfl)) (by decide) (backOf (W := 1) (rmT2 l Z a0 hw [] b5 u y gg h5 n0 Zk EV (X00.ext E5) Er F0 F1 n5b) hZ (Hw 548 rfl) (Hw 452 rfl) (by decide) (by decide)) (g := (mkF m 55 #[vR t, uU] [(.ref y), (.ref u), (.ref b5), (.ref b5)])) rfl hml.symm (Steps.refl _) (a := b5) (argsL := [(.ref u), (.ref y)]) (rest := [(.ref b5)]) (lenOf pd8 rfl) rfl (nE rfl) (D 18 rfl) (fun _ _ => ⟨rfl, e5, (by decide : 1 + 0 ≤ _), (by decide : 2 + 0 ≤ _)⟩)
  dsimp only [Pt.U, Pt.locs, Pt.cells, Pt.slots] at X10 l10 y10 z10 st10 hQ10
  subst l10 y10 z10
  obtain ⟨rfl, N1, K1, G1, G2, G3⟩ := hQ10
  have c10 : Sx p e b0 S0 T10 (mkF m 58 #[vR t, uU] [(.ref b5)]) := c5.trans (XS.dup X5.here hx rfl (D 11 rfl) rfl rfl (qA X5 hx rfl (D 12 rfl) rfl rfl (qc X5 hx rfl (D 13 rfl) (X5.aaload hx (j := J0) (by rw [e5]; exact Ar7.1) (State.isArrayOf_alike hZ.alike Ar7.2.1) rfl Ar7.2.2 in7 hv7 (g := (mkF m 51 #[vR t, uU] [(.int J0), (.ref t), (.ref b5), (.ref b5)])) rfl rfl (D 14 rfl) _ (qA X5 hx rfl (D 15 rfl) rfl rfl (qc X5 hx rfl (D 16 rfl) (X5.aaload hx (j := J1) (by rw [e5]; exact Ar9.1) (State.isArrayOf_alike hZ.alike Ar9.2.1) rfl Ar9.2.2 in9 hv9 (g := (mkF m 54 #[vR t, uU] [(.int J1), (.ref t), (.ref u), (.ref b5), (.ref b5)])) rfl rfl (D 17 rfl) _ (st10))))))))
  obtain ⟨fs, hr, r1, r2, hW, r4⟩ := X10.leave (v := some (.ref b5)) (nV hret)
  refine ⟨_, _, c10.trans ?_, r1, r2, _, _, rfl, ?_, ⟨_, rfl⟩, hW, r4.mono (by decide) (by decide)⟩
  · exact retA X10 hx hret rfl rfl (D 19 rfl) hr
  · show QOf2 Z t kt C u y gg h0 n0 _ T10.heap _
    exact ⟨⟨_, rfl, z5, G1, G2, G3⟩, Fr.app N0 N1, ((Keep.refl h0 []).ext E5).trans K1 (fun x hx => by cases List.mem_singleton.mp hx; exact Or.inr z5)⟩
def QOf3 (Z : State) (t x0 x1 x2 : Addr) (gg : own_G) (h0 : Heap) (n0 : Nat) (v : Option Value) (h : Heap) (L : List Loc) : Prop := (∃ r t : Addr, v = some (.ref r) ∧ h0.size ≤ r ∧ Exa Z h r own_LN ∧ Fld Z h r own_LN "elements" "[Ljava/lang/Object;" (.ref t) ∧ own_OA Z h t [x0, x1, x2] 3) ∧ Fr n0 L ∧ Keep h0 h []
theorem rmOf3 (l : Launch) (Z : State) (a0 : Array Value) (hw : HW a0 Z) (ws : List Jvm.Cond) (t x0 x1 x2 : Addr) (gg : own_G) (h0 : Heap) (n0 : Nat) (Z0 : n0 ≤ h0.size) (EV : own_Env Z gg) (X00 : Old Z n0 h0) (O : own_OA Z h0 t [x0, x1, x2] 3) (El : own_El Z h0 [x0, x1, x2]) :
    own_M l yM27 jdk_40_method_47_code 2 (some (.object "java/util/List")) ws (rK 6 2 5 82) #[(.ref t)] Z h0 (QOf3 Z t x0 x1 x2 gg h0 n0) := by
  refine own_open (by decide +kernel) dB27 fun p e s m b0 meth c s₁ S0 hx D hby hml hown hnm hret hlk hZ X0 e0 c0 => ?_
  replace c0 : Sx p e b0 S0 s₁ (mkF m 0 #[vR t, uU] []) := c0
  have Hw := @own_Hw _ _ hw
  have N0 := Fr.nil n0
  obtain ⟨⟨kt, Vt, Ot⟩, -⟩ := id O
  obtain ⟨cz2, Az2, -, Sz2, Mz2, -, -⟩ := id Vt
  have c3 : Sx p e b0 S0 s₁ (mkF m 2 #[vR t, uU] [(.int J3)]) := by
    refine c0.trans ?_
    refine qA X0 hx rfl (D 0 rfl) rfl rfl ?_
    refine X0.arraylength hx (by rw [e0]; exact Az2.1) (State.isArrayOf_alike hZ.alike Az2.2.1) (g := (mkF m 1 #[vR t, uU] [(.ref t)])) rfl rfl (D 1 rfl) _ ?_
    rw [len_of Sz2 Mz2]
    exact Steps.refl _
  obtain ⟨_, _, ⟨T6, L6, k6, n6⟩, -, X6, ⟨Lc6, hQ6, l6, y6, z6⟩, st6⟩ := Jvm.LawKit.callS X0 hx (y := yM26) hown (mvT hZ (Hw 532 rfl)) (mvT hZ (Hw 533 rfl)) (mvT hZ (Hw 70 rfl)) (mvT hZ (Hw 534 rfl)) (by decide) (backOf (W := 0) (rmLa l Z a0 hw [] t x0 x1 x2 gg h0 n0 Z0 EV X00 O El) hZ (Hw 534 rfl) (Hw 70 rfl) (by decide) (by decide)) (g := (mkF m 60 #[vR t, uU] [(.ref t)])) rfl hml.symm (argsL := [(.ref t)]) (rest := []) (lenOf pd7 rfl) rfl (nE rfl) (D 21 rfl) (fun _ _ => ⟨rfl, e0, (by decide : 0 + 2 ≤ _), (by decide : 0 + 5 ≤ _)⟩)
  dsimp only [Pt.U, Pt.locs, Pt.cells, Pt.slots] at X6 l6 y6 z6 st6 hQ6
  subst l6 y6 z6
  obtain ⟨⟨r, t3, rfl, zr, Dr⟩, N1, K1⟩ := hQ6
  have c6 : Sx p e b0 S0 T6 (mkF m 63 #[vR t, uU] [(.ref r)]) := c3.trans (XS.tswOut X0.here hx rfl (pc0 := 2) (pc' := 59) rfl (D 2 rfl) rfl (by decide) (by decide) (by decide) (qA X0 hx rfl (D 20 rfl) rfl rfl (st6 _ (Steps.refl _))))
  obtain ⟨fs, hr, r1, r2, hW, r4⟩ := X6.leave (v := some (.ref r)) (nV hret)
  refine ⟨_, _, c6.trans ?_, r1, r2, _, _, rfl, ?_, ⟨_, rfl⟩, hW, r4.mono (by decide) (by decide)⟩
  · exact retA X6 hx hret rfl rfl (D 22 rfl) hr
  · show QOf3 Z t x0 x1 x2 gg h0 n0 _ T6.heap _
    exact ⟨⟨_, _, rfl, zr, Dr⟩, Fr.app N0 N1, K1⟩
def QAz (Z : State) (a ed : Addr) (xs : List Addr) (N : Nat) (mc : Int32) (h0 : Heap) (n0 : Nat) (v : Option Value) (h : Heap) (L : List Loc) : Prop := v = some (.int (Int32.ofNat xs.length)) ∧ Fr n0 L ∧ h = h0
theorem rmAz (l : Launch) (Z : State) (a0 : Array Value) (hw : HW a0 Z) (ws : List Jvm.Cond) (a ed : Addr) (xs : List Addr) (N : Nat) (mc : Int32) (h0 : Heap) (n0 : Nat) (Z0 : n0 ≤ h0.size) (A : own_ALs Z h0 a ed xs N mc) :
    own_M l yM28 jdk_38_method_8_code 1 (some .int) ws (rK 0 0 0 0) #[(.ref a)] Z h0 (QAz Z a ed xs N mc h0 n0) := by
  refine own_open (by decide +kernel) dB28 fun p e s m b0 meth c s₁ S0 hx D hby hml hown hnm hret hlk hZ X0 e0 c0 => ?_
  replace c0 : Sx p e b0 S0 s₁ (mkF m 0 #[vR a] []) := c0
  have Hw := @own_Hw _ _ hw
  have N0 := Fr.nil n0
  obtain ⟨T2, X2, e2, st2⟩ := getF X0 hx hZ hown (host := "") (Or.inl (Hw 202 rfl)) Via.refl e0 A.2.2.1 (g := (mkF m 1 #[vR a] [(.ref a)])) rfl rfl (D 1 rfl)
  have c2 : Sx p e b0 S0 T2 (mkF m 4 #[vR a] [(.int (Int32.ofNat xs.length))]) := c0.trans (qA X0 hx rfl (D 0 rfl) rfl rfl (st2 _ (Steps.refl _)))
  obtain ⟨fs, hr, r1, r2, hW, r4⟩ := X2.leave (v := some (.int (Int32.ofNat xs.length))) (nV hret)
  refine ⟨_, _, c2.trans ?_, r1, r2, _, _, rfl, ?_, ⟨_, rfl⟩, hW, r4.mono (by decide) (by decide)⟩
  · exact retI X2 hx hret (D 2 rfl) hr
  · show QAz Z a ed xs N mc h0 n0 _ T2.heap _
    rw [e2]
    exact ⟨rfl, N0, rfl⟩
def QAe (Z : State) (a ed : Addr) (xs : List Addr) (N : Nat) (mc : Int32) (h0 : Heap) (n0 : Nat) (v : Option Value) (h : Heap) (L : List Loc) : Prop := v = some (.int 0) ∧ Fr n0 L ∧ h = h0
theorem rmAe (l : Launch) (Z : State) (a0 : Array Value) (hw : HW a0 Z) (ws : List Jvm.Cond) (a ed : Addr) (xs : List Addr) (N : Nat) (mc : Int32) (h0 : Heap) (n0 : Nat) (Z0 : n0 ≤ h0.size) (A : own_ALs Z h0 a ed xs N mc) (hp : 0 < xs.length) :
    own_M l yM29 jdk_38_method_9_code 1 (some .boolean) ws (rK 0 0 0 0) #[(.ref a)] Z h0 (QAe Z a ed xs N mc h0 n0) := by
  refine own_open (by decide +kernel) dB29 fun p e s m b0 meth c s₁ S0 hx D hby hml hown hnm hret hlk hZ X0 e0 c0 => ?_
  replace c0 : Sx p e b0 S0 s₁ (mkF m 0 #[vR a] []) := c0
  have Hw := @own_Hw _ _ hw
  have N0 := Fr.nil n0
  have hN := A.2.2.2.2.2.2
  obtain ⟨T2, X2, e2, st2⟩ := getF X0 hx hZ hown (host := "") (Or.inl (Hw 202 rfl)) Via.refl e0 A.2.2.1 (g := (mkF m 1 #[vR a] [(.ref a)])) rfl rfl (D 1 rfl)
  have c2 : Sx p e b0 S0 T2 (mkF m 4 #[vR a] [(.int (Int32.ofNat xs.length))]) := c0.trans (qA X0 hx rfl (D 0 rfl) rfl rfl (st2 _ (Steps.refl _)))
  obtain ⟨fs, hr, r1, r2, hW, r4⟩ := X2.leave (v := some (.int 0)) (nV hret)
  refine ⟨_, _, c2.trans ?_, r1, r2, _, _, rfl, ?_, ⟨_, rfl⟩, hW, r4.mono (by decide) (by decide)⟩
  · refine XS.ifYes X2.here hx rfl (pc0 := 4) (pc' := 11) rfl (D 2 rfl) rfl ((if0 _ _).trans (feq (fun q => by have := (own_eqn (b := 0) (by omega) (by omega)).mp q; omega)).2) (by decide) (by decide) ?_
    refine qc X2 hx rfl (D 3 rfl) ?_
    exact retN X2 hx (t := .boolean) hret (by simp) (D 4 rfl) hr
  · show QAe Z a ed xs N mc h0 n0 _ T2.heap _
    rw [e2]
    exact ⟨rfl, N0, rfl⟩
def QAx (Z : State) (a ed : Addr) (xs : List Addr) (N : Nat) (mc : Int32) (i : Nat) (u : Addr) (h0 : Heap) (n0 : Nat) (v : Option Value) (h : Heap) (L : List Loc) : Prop := v = some (.ref u) ∧ Fr n0 L ∧ h = h0
theorem rmAx (l : Launch) (Z : State) (a0 : Array Value) (hw : HW a0 Z) (ws : List Jvm.Cond) (a ed : Addr) (xs : List Addr) (N : Nat) (mc : Int32) (i : Nat) (u : Addr) (h0 : Heap) (n0 : Nat) (Z0 : n0 ≤ h0.size) (A : own_ALs Z h0 a ed xs N mc) (hi : xs[i]? = some u) :
    own_M l yM30 jdk_38_method_18_code 2 (some (.object "java/lang/Object")) ws (rK 0 0 0 0) #[(.ref a), (.int (Int32.ofNat i))] Z h0 (QAx Z a ed xs N mc i u h0 n0) := by
  refine own_open (by decide +kernel) dB30 fun p e s m b0 meth c s₁ S0 hx D hby hml hown hnm hret hlk hZ X0 e0 c0 => ?_
  replace c0 : Sx p e b0 S0 s₁ (mkF m 0 #[vR a, vI (Int32.ofNat i)] []) := c0
  have Hw := @own_Hw _ _ hw
  have N0 := Fr.nil n0
  have hlt : i < xs.length := (List.getElem?_eq_some_iff.mp hi).1
  obtain ⟨Ea, Fm, Fs, Fe, ⟨kt, Vt, Ot⟩, -, hxN, hN⟩ := id A
  obtain ⟨T2, X2, e2, st2⟩ := getF X0 hx hZ hown (host := "") (Or.inl (Hw 213 rfl)) Via.refl e0 Fe (g := (mkF m 1 #[vR a, vI (Int32.ofNat i)] [(.ref a)])) rfl rfl (D 1 rfl)
  have c2 : Sx p e b0 S0 T2 (mkF m 4 #[vR a, vI (Int32.ofNat i)] [(.ref ed)]) := c0.trans (qA X0 hx rfl (D 0 rfl) rfl rfl (st2 _ (Steps.refl _)))
  obtain ⟨cl4, Ar4, in4, hv4⟩ := own_ld (N := N) Vt (by omega) (i := i) (by omega) (j := (Int32.ofNat i)) rfl (v := (.ref u)) (own_get hi)
  obtain ⟨fs, hr, r1, r2, hW, r4⟩ := X2.leave (v := some (.ref u)) (nV hret)
  refine ⟨_, _, c2.trans ?_, r1, r2, _, _, rfl, ?_, ⟨_, rfl⟩, hW, r4.mono (by decide) (by decide)⟩
  · refine qI X2 hx rfl (D 2 rfl) rfl ?_
    refine X2.aaload hx (j := (Int32.ofNat i)) (by rw [e2]; exact Ar4.1) (State.isArrayOf_alike hZ.alike Ar4.2.1) rfl Ar4.2.2 in4 hv4 (g := (mkF m 5 #[vR a, vI (Int32.ofNat i)] [(.int (Int32.ofNat i)), (.ref ed)])) rfl rfl (D 3 rfl) _ ?_
    exact retA X2 hx hret rfl rfl (D 4 rfl) hr
  · show QAx Z a ed xs N mc i u h0 n0 _ T2.heap _
    rw [e2]
    exact ⟨rfl, N0, rfl⟩
def QPc (Z : State) (i j : Nat) (h0 : Heap) (n0 : Nat) (v : Option Value) (h : Heap) (L : List Loc) : Prop := v = some (.int (Int32.ofNat i)) ∧ Fr n0 L ∧ h = h0
theorem rmPc (l : Launch) (Z : State) (a0 : Array Value) (hw : HW a0 Z) (ws : List Jvm.Cond) (i j : Nat) (h0 : Heap) (n0 : Nat) (Z0 : n0 ≤ h0.size) (hi : i < j) (hj : j ≤ 1000) :
    own_M l yM31 jdk_41_method_11_code 3 (some .int) ws (rK 0 0 0 0) #[(.int (Int32.ofNat i)), (.int (Int32.ofNat j)), .null] Z h0 (QPc Z i j h0 n0) := by
  refine own_open (by decide +kernel) dB31 fun p e s m b0 meth c s₁ S0 hx D hby hml hown hnm hret hlk hZ X0 e0 c0 => ?_
  replace c0 : Sx p e b0 S0 s₁ (mkF m 0 (a111 (Int32.ofNat i) (Int32.ofNat j)) []) := c0
  have Hw := @own_Hw _ _ hw
  have N0 := Fr.nil n0
  obtain ⟨fs, hr, r1, r2, hW, r4⟩ := X0.leave (v := some (.int (Int32.ofNat i))) (nV hret)
  refine ⟨_, _, c0.trans ?_, r1, r2, _, _, rfl, ?_, ⟨_, rfl⟩, hW, r4.mono (by decide) (by decide)⟩
  · refine qI X0 hx rfl (D 0 rfl) rfl ?_
    refine XS.ifNo X0.here hx rfl (D 1 rfl) rfl ((if0 _ _).trans (flt (own_nn (by omega))).1) ?_
    refine qI X0 hx rfl (D 2 rfl) rfl ?_
    refine qI X0 hx rfl (D 3 rfl) rfl ?_
    refine XS.icmpYes X0.here hx rfl (pc0 := 6) (pc' := 16) rfl (D 4 rfl) rfl (tlt ((own_ltn (by omega) (by omega)).mpr hi)).1 (by decide) (by decide) ?_
    refine qI X0 hx rfl (D 5 rfl) rfl ?_
    exact retI X0 hx hret (D 6 rfl) hr
  · show QPc Z i j h0 n0 _ s₁.heap _
    rw [e0]
    exact ⟨rfl, N0, rfl⟩
def QCh (Z : State) (i j : Nat) (h0 : Heap) (n0 : Nat) (v : Option Value) (h : Heap) (L : List Loc) : Prop := v = some (.int (Int32.ofNat i)) ∧ Fr n0 L ∧ h = h0
theorem rmCh (l : Launch) (Z : State) (a0 : Array Value) (hw : HW a0 Z) (ws : List Jvm.Cond) (i j : Nat) (h0 : Heap) (n0 : Nat) (Z0 : n0 ≤ h0.size) (hi : i < j) (hj : j ≤ 1000) :
    own_M l yM32 jdk_31_method_17_code 2 (some .int) ws (rK 1 0 0 14) #[(.int (Int32.ofNat i)), (.int (Int32.ofNat j))] Z h0 (QCh Z i j h0 n0) := by
  refine own_open (by decide +kernel) dB32 fun p e s m b0 meth c s₁ S0 hx D hby hml hown hnm hret hlk hZ X0 e0 c0 => ?_
  replace c0 : Sx p e b0 S0 s₁ (mkF m 0 #[vI (Int32.ofNat i), vI (Int32.ofNat j)] []) := c0
  have Hw := @own_Hw _ _ hw
  have N0 := Fr.nil n0
  obtain ⟨_, _, ⟨T2, L2, k2, n2⟩, -, X2, ⟨Lc2, hQ2, l2, y2, z2⟩, st2⟩ := Jvm.LawKit.callS X0 hx (y := yM31) hown (mvT hZ (Hw 432 rfl)) (mvT hZ (Hw 433 rfl)) (mvT hZ (Hw 434 rfl)) (mvT hZ (Hw 435 rfl)) (by decide) (backOf (W := 0) (rmPc l Z a0 hw [] i j h0 n0 Z0 hi hj) hZ (Hw 435 rfl) (Hw 434 rfl) (by decide) (by decide)) (g := (mkF m 3 #[vI (Int32.ofNat i), vI (Int32.ofNat j)] [.null, (.int (Int32.ofNat j)), (.int (Int32.ofNat i))])) rfl hml.symm (argsL := [(.int (Int32.ofNat i)), (.int (Int32.ofNat j)), .null]) (rest := []) (lenOf pd9 rfl) rfl (nE rfl) (D 3 rfl) (fun _ _ => ⟨rfl, e0, (by decide : 0 + 0 ≤ _), (by decide : 0 + 0 ≤ _)⟩)
  dsimp only [Pt.U, Pt.locs, Pt.cells, Pt.slots] at X2 l2 y2 z2 st2 hQ2
  subst l2 y2 z2
  obtain ⟨rfl, N1, e1⟩ := hQ2
  have c2 : Sx p e b0 S0 T2 (mkF m 6 #[vI (Int32.ofNat i), vI (Int32.ofNat j)] [(.int (Int32.ofNat i))]) := c0.trans (qI X0 hx rfl (D 0 rfl) rfl (qI X0 hx rfl (D 1 rfl) rfl (XS.aconstNull X0.here hx rfl (D 2 rfl) (st2 _ (Steps.refl _)))))
  obtain ⟨fs, hr, r1, r2, hW, r4⟩ := X2.leave (v := some (.int (Int32.ofNat i))) (nV hret)
  refine ⟨_, _, c2.trans ?_, r1, r2, _, _, rfl, ?_, ⟨_, rfl⟩, hW, r4.mono (by decide) (by decide)⟩
  · exact retI X2 hx hret (D 4 rfl) hr
  · show QCh Z i j h0 n0 _ T2.heap _
    rw [e1]
    exact ⟨rfl, Fr.app N0 N1, rfl⟩
def QAg (Z : State) (a ed : Addr) (xs : List Addr) (N : Nat) (mc : Int32) (i : Nat) (u : Addr) (h0 : Heap) (n0 : Nat) (v : Option Value) (h : Heap) (L : List Loc) : Prop := v = some (.ref u) ∧ Fr n0 L ∧ h = h0
theorem rmAg (l : Launch) (Z : State) (a0 : Array Value) (hw : HW a0 Z) (ws : List Jvm.Cond) (a ed : Addr) (xs : List Addr) (N : Nat) (mc : Int32) (i : Nat) (u : Addr) (h0 : Heap) (n0 : Nat) (Z0 : n0 ≤ h0.size) (A : own_ALs Z h0 a ed xs N mc) (hi : xs[i]? = some u) :
    own_M l yM33 jdk_38_method_20_code 2 (some (.object "java/lang/Object")) ws (rK 2 0 0 28) #[(.ref a), (.int (Int32.ofNat i))] Z h0 (QAg Z a ed xs N mc i u h0 n0) := by
  refine own_open (by decide +kernel) dB33 fun p e s m b0 meth c s₁ S0 hx D hby hml hown hnm hret hlk hZ X0 e0 c0 => ?_
  replace c0 : Sx p e b0 S0 s₁ (mkF m 0 #[vR a, vI (Int32.ofNat i)] []) := c0
  have Hw := @own_Hw _ _ hw
  have N0 := Fr.nil n0
  have hlt : i < xs.length := (List.getElem?_eq_some_iff.mp hi).1
  have hN := A.2.2.2.2.2.2
  obtain ⟨T2, X2, e2, st2⟩ := getF X0 hx hZ hown (host := "") (Or.inl (Hw 202 rfl)) Via.refl e0 A.2.2.1 (g := (mkF m 2 #[vR a, vI (Int32.ofNat i)] [(.ref a), (.int (Int32.ofNat i))])) rfl rfl (D 2 rfl)
  have c2 : Sx p e b0 S0 T2 (mkF m 5 #[vR a, vI (Int32.ofNat i)] [(.int (Int32.ofNat xs.length)), (.int (Int32.ofNat i))]) := c0.trans (qI X0 hx rfl (D 0 rfl) rfl (qA X0 hx rfl (D 1 rfl) rfl rfl (st2 _ (Steps.refl _))))
  obtain ⟨_, _, ⟨T3, L3, k3, n3⟩, -, X3, ⟨Lc3, hQ3, l3, y3, z3⟩, st3⟩ := Jvm.LawKit.callS X2 hx (y := yM32) hown (mvT hZ (Hw 429 rfl)) (mvT hZ (Hw 430 rfl)) (mvT hZ (Hw 61 rfl)) (mvT hZ (Hw 431 rfl)) (by decide) (backOf (W := 0) (rmCh l Z a0 hw [] i xs.length h0 n0 Z0 hlt (by omega)) hZ (Hw 431 rfl) (Hw 61 rfl) (by decide) (by decide)) (g := (mkF m 5 #[vR a, vI (Int32.ofNat i)] [(.int (Int32.ofNat xs.length)), (.int (Int32.ofNat i))])) rfl hml.symm (argsL := [(.int (Int32.ofNat i)), (.int (Int32.ofNat xs.length))]) (rest := []) (lenOf pd2 rfl) rfl (nE rfl) (D 3 rfl) (fun _ _ => ⟨rfl, e2, (by decide : 0 + 0 ≤ _), (by decide : 0 + 0 ≤ _)⟩)
  dsimp only [Pt.U, Pt.locs, Pt.cells, Pt.slots] at X3 l3 y3 z3 st3 hQ3
  subst l3 y3 z3
  obtain ⟨rfl, N1, e1⟩ := hQ3
  have c3 : Sx p e b0 S0 T3 (mkF m 8 #[vR a, vI (Int32.ofNat i)] [(.int (Int32.ofNat i))]) := c2.trans (st3 _ (Steps.refl _))
  obtain ⟨cq5, kq5, q5a, q5b, q5c⟩ := isOf hZ e1 A.1
  obtain ⟨_, _, ⟨T5, L5, k5, n5⟩, -, X5, ⟨Lc5, hQ5, l5, y5, z5⟩, st5⟩ := X3.virtualBack hx (y := yM30) (z := yM30) hown (mvT hZ (Hw 436 rfl)) (mvT hZ (Hw 437 rfl)) (notFace_of_selects (args := #[]) (mvT hZ (Hw 439 rfl))) (mvT hZ (Hw 439 rfl)) (mvT hZ (Hw 438 rfl)) (by decide) (backOf (W := 0) (rmAx l Z a0 hw [] a ed xs N mc i u h0 n0 Z0 A hi) hZ (Hw 440 rfl) (Hw 116 rfl) (by decide) (by decide)) q5a q5c (g := (mkF m 11 #[vR a, vI (Int32.ofNat i)] [(.int (Int32.ofNat i)), (.ref a)])) rfl hml.symm (Steps.refl _) (argsL := [(.int (Int32.ofNat i))]) (rest := []) (lenOf pd10 rfl) rfl (nE rfl) (D 7 rfl) (fun _ _ => ⟨rfl, e1, (by decide : 0 + 0 ≤ _), (by decide : 0 + 0 ≤ _)⟩)
  dsimp only [Pt.U, Pt.locs, Pt.cells, Pt.slots] at X5 l5 y5 z5 st5 hQ5
  subst l5 y5 z5
  obtain ⟨rfl, N2, e2⟩ := hQ5
  have c5 : Sx p e b0 S0 T5 (mkF m 14 #[vR a, vI (Int32.ofNat i)] [(.ref u)]) := c3.trans (XS.pop X3.here hx rfl (D 4 rfl) rfl rfl (qA X3 hx rfl (D 5 rfl) rfl rfl (qI X3 hx rfl (D 6 rfl) rfl (st5))))
  obtain ⟨fs, hr, r1, r2, hW, r4⟩ := X5.leave (v := some (.ref u)) (nV hret)
  refine ⟨_, _, c5.trans ?_, r1, r2, _, _, rfl, ?_, ⟨_, rfl⟩, hW, r4.mono (by decide) (by decide)⟩
  · exact retA X5 hx hret rfl rfl (D 8 rfl) hr
  · show QAg Z a ed xs N mc i u h0 n0 _ T5.heap _
    rw [e2]
    exact ⟨rfl, Fr.app (Fr.app N0 N1) N2, rfl⟩
def QAt (Z : State) (a ed : Addr) (xs : List Addr) (N : Nat) (mc : Int32) (gg : own_G) (h0 : Heap) (n0 : Nat) (v : Option Value) (h : Heap) (L : List Loc) : Prop := (∃ b : Addr, v = some (.ref b) ∧ h0.size ≤ b ∧ own_OA Z h b xs xs.length) ∧ Fr n0 L ∧ Keep h0 h []
theorem rmAt (l : Launch) (Z : State) (a0 : Array Value) (hw : HW a0 Z) (ws : List Jvm.Cond) (a ed : Addr) (xs : List Addr) (N : Nat) (mc : Int32) (gg : own_G) (h0 : Heap) (n0 : Nat) (Z0 : n0 ≤ h0.size) (EV : own_Env Z gg) (X00 : Old Z n0 h0) (A : own_ALs Z h0 a ed xs N mc) (El : own_El Z h0 xs) (hl : xs.length ≤ 10) :
    own_M l yM34 jdk_38_method_16_code 1 (some (.array (.object "java/lang/Object"))) ws (rK 3 1 10 60) #[(.ref a)] Z h0 (QAt Z a ed xs N mc gg h0 n0) := by
  refine own_open (by decide +kernel) dB34 fun p e s m b0 meth c s₁ S0 hx D hby hml hown hnm hret hlk hZ X0 e0 c0 => ?_
  replace c0 : Sx p e b0 S0 s₁ (mkF m 0 #[vR a] []) := c0
  have Hw := @own_Hw _ _ hw
  have N0 := Fr.nil n0
  obtain ⟨T2, X2, e2, st2⟩ := getF X0 hx hZ hown (host := "") (Or.inl (Hw 213 rfl)) Via.refl e0 A.2.2.2.1 (g := (mkF m 1 #[vR a] [(.ref a)])) rfl rfl (D 1 rfl)
  have c2 : Sx p e b0 S0 T2 (mkF m 4 #[vR a] [(.ref ed)]) := c0.trans (qA X0 hx rfl (D 0 rfl) rfl rfl (st2 _ (Steps.refl _)))
  obtain ⟨T4, X4, e4, st4⟩ := getF X2 hx hZ hown (host := "") (Or.inl (Hw 202 rfl)) Via.refl e2 A.2.2.1 (g := (mkF m 5 #[vR a] [(.ref a), (.ref ed)])) rfl rfl (D 3 rfl)
  have c4 : Sx p e b0 S0 T4 (mkF m 8 #[vR a] [(.int (Int32.ofNat xs.length)), (.ref ed)]) := c2.trans (qA X2 hx rfl (D 2 rfl) rfl rfl (st4 _ (Steps.refl _)))
  obtain ⟨_, _, ⟨T5, L5, k5, n5⟩, -, X5, ⟨Lc5, hQ5, l5, y5, z5⟩, st5⟩ := Jvm.LawKit.callS X4 hx (y := yM15) hown (mvT hZ (Hw 501 rfl)) (mvT hZ (Hw 180 rfl)) (mvT hZ (Hw 181 rfl)) (mvT hZ (Hw 182 rfl)) (by decide) (backOf (W := 0) (rmC2 l Z a0 hw [] ed xs N xs.length gg h0 n0 Z0 EV X00 A.2.2.2.2 El (Nat.le_refl _) hl) hZ (Hw 182 rfl) (Hw 181 rfl) (by decide) (by decide)) (g := (mkF m 8 #[vR a] [(.int (Int32.ofNat xs.length)), (.ref ed)])) rfl hml.symm (argsL := [(.ref ed), (.int (Int32.ofNat xs.length))]) (rest := []) (lenOf pd4 rfl) rfl (nE rfl) (D 4 rfl) (fun _ _ => ⟨rfl, e4, (by decide : 0 + 1 ≤ _), (by decide : 0 + 10 ≤ _)⟩)
  dsimp only [Pt.U, Pt.locs, Pt.cells, Pt.slots] at X5 l5 y5 z5 st5 hQ5
  subst l5 y5 z5
  obtain ⟨⟨b, rfl, zb, Ob⟩, N1, K1⟩ := hQ5
  have c5 : Sx p e b0 S0 T5 (mkF m 11 #[vR a] [(.ref b)]) := c4.trans (st5 _ (Steps.refl _))
  obtain ⟨fs, hr, r1, r2, hW, r4⟩ := X5.leave (v := some (.ref b)) (nV hret)
  refine ⟨_, _, c5.trans ?_, r1, r2, _, _, rfl, ?_, ⟨_, rfl⟩, hW, r4.mono (by decide) (by decide)⟩
  · exact retA X5 hx hret rfl rfl (D 5 rfl) hr
  · show QAt Z a ed xs N mc gg h0 n0 _ T5.heap _
    exact ⟨⟨b, rfl, zb, Ob⟩, Fr.app N0 N1, K1⟩
def QA0 (Z : State) (a : Addr) (gg : own_G) (h0 : Heap) (n0 : Nat) (v : Option Value) (h : Heap) (L : List Loc) : Prop := v = none ∧ Fr n0 L ∧ Keep h0 h [a] ∧ own_ALs Z h a gg.dc [] 0 0
theorem rmA0 (l : Launch) (Z : State) (a0 : Array Value) (hw : HW a0 Z) (ws : List Jvm.Cond) (a : Addr) (gg : own_G) (h0 : Heap) (n0 : Nat) (Z0 : n0 ≤ h0.size) (EV : own_Env Z gg) (X00 : Old Z n0 h0) (Ea : Exa Z h0 a "java/util/ArrayList") (Fm : Fld Z h0 a "java/util/AbstractList" "modCount" "I" (.int 0)) (Fs : Fld Z h0 a "java/util/ArrayList" "size" "I" (.int 0)) (Fe : Fld Z h0 a "java/util/ArrayList" "elementData" "[Ljava/lang/Object;" .null) (ga : n0 ≤ a) :
    own_M l yM35 jdk_38_method_2_code 1 none ws (rK 3 0 0 36) #[(.ref a)] Z h0 (QA0 Z a gg h0 n0) := by
  refine own_open (by decide +kernel) dB35 fun p e s m b0 meth c s₁ S0 hx D hby hml hown hnm hret hlk hZ X0 e0 c0 => ?_
  replace c0 : Sx p e b0 S0 s₁ (mkF m 0 #[vR a] []) := c0
  have Hw := @own_Hw _ _ hw
  have N0 := Fr.nil n0
  obtain ⟨_, _, ⟨T2, L2, k2, n2⟩, -, X2, ⟨Lc2, hQ2, l2, y2, z2⟩, st2⟩ := X0.specialBack hx (y := yM8) rfl hown (mvT hZ (Hw 160 rfl)) (mvT hZ (Hw 161 rfl)) (mvT hZ (Hw 165 rfl)) (by decide) (backOf (W := 0) (rmAb l Z a0 hw [] a h0 n0 Z0 Ea Fm Fs Fe ga) hZ (Hw 165 rfl) (Hw 164 rfl) (by decide) (by decide)) (g := (mkF m 1 #[vR a] [(.ref a)])) rfl hml.symm (Steps.refl _) (a := a) (argsL := []) (rest := []) (lenOf pd0 rfl) rfl (nE rfl) (D 1 rfl) (fun _ _ => ⟨rfl, e0, (by decide : 0 + 0 ≤ _), (by decide : 0 + 0 ≤ _)⟩)
  dsimp only [Pt.U, Pt.locs, Pt.cells, Pt.slots] at X2 l2 y2 z2 st2 hQ2
  subst l2 y2 z2
  obtain ⟨rfl, N1, K1, Ea, Fm, Fs, Fe⟩ := hQ2
  have c2 : Sx p e b0 S0 T2 (mkF m 4 #[vR a] []) := c0.trans (qA X0 hx rfl (D 0 rfl) rfl rfl (st2))
  have X01 := X00.keep K1 (allS ga all0)
  obtain ⟨T4, X4, e4, st4⟩ := getS2 X2 hx hZ hown (host := "") (Or.inl (Hw 391 rfl)) Via.refl rfl (EV.dc.ext X01.2) (g := (mkF m 5 #[vR a] [(.ref a)])) rfl (D 3 rfl)
  have c4 : Sx p e b0 S0 T4 (mkF m 8 #[vR a] [(.ref gg.dc), (.ref a)]) := c2.trans (qA X2 hx rfl (D 2 rfl) rfl rfl (st4 _ (Steps.refl _)))
  obtain ⟨T5, h5, X5, e5, W5, st5⟩ := putF X4 hx hZ hown (host := "") (Or.inl (Hw 213 rfl)) Via.refl e4 Fe Ea (Or.inl (Hw 214 rfl)) (Hw 115 rfl) (ty := (.array (.object "java/lang/Object"))) (by decide) rfl rfl (g := (mkF m 8 #[vR a] [(.ref gg.dc), (.ref a)])) rfl rfl (D 4 rfl)
  have c5 : Sx p e b0 S0 T5 (mkF m 11 #[vR a] []) := c4.trans (st5 _ (Steps.refl _))
  have Ea := Ea.wr W5
  have Fm := Fm.other W5 (own_sn (Or.inl (Hw 169 rfl)) (Or.inl (Hw 214 rfl)) .int (.array (.object "java/lang/Object")))
  have Fs := Fs.other W5 (own_sn (Or.inl (Hw 203 rfl)) (Or.inl (Hw 214 rfl)) .int (.array (.object "java/lang/Object")))
  have Fe := Fe.same W5
  have D0 := EV.dca.ext (X01.wr W5 ga).2
  obtain ⟨fs, hr, r1, r2, hW, r4⟩ := X5.leave (v := none) (fun _ => rfl)
  refine ⟨_, _, c5.trans ?_, r1, r2, _, _, rfl, ?_, ⟨_, rfl⟩, hW, r4.mono (by decide) (by decide)⟩
  · exact X5.returnOut hx hret (D 5 rfl) hr
  · show QA0 Z a gg h0 n0 _ T5.heap _
    rw [e5]
    exact ⟨rfl, Fr.snoc X5 (Fr.app N0 N1) ga, K1.wr W5 (mI 0 rfl), Ea, Fm, Fs, Fe, D0⟩
def QNl (Z : State) (x y z : Nat) (h0 : Heap) (n0 : Nat) (v : Option Value) (h : Heap) (L : List Loc) : Prop := (∃ r : Nat, v = some (.int (Int32.ofNat r)) ∧ x + y ≤ r ∧ r ≤ 10) ∧ Fr n0 L ∧ h = h0
theorem rmNl (l : Launch) (Z : State) (a0 : Array Value) (hw : HW a0 Z) (ws : List Jvm.Cond) (x y z : Nat) (h0 : Heap) (n0 : Nat) (Z0 : n0 ≤ h0.size) (hs : x + y ≤ 10) (hz : x + z ≤ 10) (hpos : 0 < x + y) :
    own_M l yM36 jdk_48_method_27_code 4 (some .int) ws (rK 1 0 0 14) #[(.int (Int32.ofNat x)), (.int (Int32.ofNat y)), (.int (Int32.ofNat z))] Z h0 (QNl Z x y z h0 n0) := by
  refine own_open (by decide +kernel) dB36 fun p e s m b0 meth c s₁ S0 hx D hby hml hown hnm hret hlk hZ X0 e0 c0 => ?_
  replace c0 : Sx p e b0 S0 s₁ (mkF m 0 (a112 (Int32.ofNat x) (Int32.ofNat y) (Int32.ofNat z)) []) := c0
  have Hw := @own_Hw _ _ hw
  have N0 := Fr.nil n0
  obtain ⟨_, _, ⟨T2, L2, k2, n2⟩, -, X2, ⟨Lc2, hQ2, l2, y2, z2⟩, st2⟩ := Jvm.LawKit.callS X0 hx (y := yM13) hown (mvT hZ (Hw 529 rfl)) (mvT hZ (Hw 413 rfl)) (mvT hZ (Hw 196 rfl)) (mvT hZ (Hw 414 rfl)) (by decide) (backOf (W := 1) (rmMx l Z a0 hw [] (Int32.ofNat y) (Int32.ofNat z) h0 n0 Z0) hZ (Hw 414 rfl) (Hw 196 rfl) (by decide) (by decide)) (g := (mkF m 3 (a112 (Int32.ofNat x) (Int32.ofNat y) (Int32.ofNat z)) [(.int (Int32.ofNat z)), (.int (Int32.ofNat y)), (.int (Int32.ofNat x))])) rfl hml.symm (argsL := [(.int (Int32.ofNat y)), (.int (Int32.ofNat z))]) (rest := [(.int (Int32.ofNat x))]) (lenOf pd2 rfl) rfl (nE rfl) (D 3 rfl) (fun _ _ => ⟨rfl, e0, (by decide : 0 + 0 ≤ _), (by decide : 0 + 0 ≤ _)⟩)
  dsimp only [Pt.U, Pt.locs, Pt.cells, Pt.slots] at X2 l2 y2 z2 st2 hQ2
  subst l2 y2 z2
  obtain ⟨rfl, N1, e1⟩ := hQ2
  have c2 : Sx p e b0 S0 T2 (mkF m 6 (a112 (Int32.ofNat x) (Int32.ofNat y) (Int32.ofNat z)) [(.int (if Int32.ofNat y < Int32.ofNat z then Int32.ofNat z else Int32.ofNat y)), (.int (Int32.ofNat x))]) := c0.trans (qI X0 hx rfl (D 0 rfl) rfl (qI X0 hx rfl (D 1 rfl) rfl (qI X0 hx rfl (D 2 rfl) rfl (st2 _ (Steps.refl _)))))
  obtain ⟨q, hq, hq1, hq2⟩ : ∃ q : Nat, (if Int32.ofNat y < Int32.ofNat z then Int32.ofNat z else Int32.ofNat y) = Int32.ofNat q ∧ y ≤ q ∧ x + q ≤ 10 := by
    by_cases hc : Int32.ofNat y < Int32.ofNat z
    · exact ⟨z, if_pos hc, Nat.le_of_lt ((own_ltn (by omega) (by omega)).mp hc), hz⟩
    · exact ⟨y, if_neg hc, Nat.le_refl _, hs⟩
  rw [hq] at c2
  have c3 : Sx p e b0 S0 T2 (mkF m 7 (a112 (Int32.ofNat x) (Int32.ofNat y) (Int32.ofNat z)) [(.int ((Int32.ofNat x) + (Int32.ofNat q)))]) := c2.trans (XS.iadd X2.here hx rfl (D 4 rfl) rfl (Steps.refl _))
  rw [own_addn (by omega)] at c3
  obtain ⟨fs, hr, r1, r2, hW, r4⟩ := X2.leave (v := some (.int (Int32.ofNat (x + q)))) (nV hret)
  refine ⟨_, _, c3.trans ?_, r1, r2, _, _, rfl, ?_, ⟨_, rfl⟩, hW, r4.mono (by decide) (by decide)⟩
  · refine XS.istoreN X2.here hx rfl (D 5 rfl) rfl (l' := (a113 (Int32.ofNat x) (Int32.ofNat y) (Int32.ofNat z) (Int32.ofNat (x + q)))) rfl ?_
    refine qc X2 hx rfl (D 6 rfl) ?_
    refine qI X2 hx rfl (D 7 rfl) rfl ?_
    refine XS.icmpNo X2.here hx rfl (D 8 rfl) rfl (tlt ((own_ltn (a := 0) (by omega) (by omega)).mpr (by omega))).2.1 ?_
    refine qI X2 hx rfl (D 9 rfl) rfl ?_
    refine X2.ldcInt hx hown (mvT hZ (Hw 530 rfl)) (g := (mkF m 14 (a113 (Int32.ofNat x) (Int32.ofNat y) (Int32.ofNat z) (Int32.ofNat (x + q))) [(.int (Int32.ofNat (x + q)))])) rfl (D 10 rfl) _ ?_
    refine XS.icmpNo X2.here hx rfl (D 11 rfl) rfl (flt (own_soft (by omega))).2.2.1 ?_
    refine qI X2 hx rfl (D 12 rfl) rfl ?_
    exact retI X2 hx hret (D 13 rfl) hr
  · show QNl Z x y z h0 n0 _ T2.heap _
    rw [e1]
    exact ⟨⟨_, rfl, by omega, hq2⟩, Fr.app N0 N1, rfl⟩
def QGf (Z : State) (a ed : Addr) (xs : List Addr) (N : Nat) (mc : Int32) (mn : Nat) (gg : own_G) (h0 : Heap) (n0 : Nat) (v : Option Value) (h : Heap) (L : List Loc) : Prop := (∃ (ed' : Addr) (M : Nat), v = some (.ref ed') ∧ h0.size ≤ ed' ∧ mn ≤ M ∧ M ≤ 10 ∧ own_ALs Z h a ed' xs M mc) ∧ Fr n0 L ∧ Keep h0 h [a]
theorem rmGf (l : Launch) (Z : State) (a0 : Array Value) (hw : HW a0 Z) (ws : List Jvm.Cond) (a ed : Addr) (xs : List Addr) (N : Nat) (mc : Int32) (mn : Nat) (gg : own_G) (h0 : Heap) (n0 : Nat) (Z0 : n0 ≤ h0.size) (EV : own_Env Z gg) (X00 : Old Z n0 h0) (A : own_ALs Z h0 a ed xs N mc) (El : own_El Z h0 xs) (hp : 0 < N) (hN3 : N ≤ 3) (hmn : N < mn) (hm5 : mn ≤ 5) (ga : n0 ≤ a) :
    own_M l yM37 jdk_38_method_6_code 4 (some (.array (.object "java/lang/Object"))) ws (rK 3 1 10 62) #[(.ref a), (.int (Int32.ofNat mn))] Z h0 (QGf Z a ed xs N mc mn gg h0 n0) := by
  refine own_open (by decide +kernel) dB37 fun p e s m b0 meth c s₁ S0 hx D hby hml hown hnm hret hlk hZ X0 e0 c0 => ?_
  replace c0 : Sx p e b0 S0 s₁ (mkF m 0 (a114 a (Int32.ofNat mn)) []) := c0
  have Hw := @own_Hw _ _ hw
  have N0 := Fr.nil n0
  obtain ⟨Ea, Fm, Fs, Fe, Oe⟩ := id A
  obtain ⟨⟨kt, Vt, Ot⟩, Et, hxN, -⟩ := id Oe
  obtain ⟨T2, X2, e2, st2⟩ := getF X0 hx hZ hown (host := "") (Or.inl (Hw 213 rfl)) Via.refl e0 Fe (g := (mkF m 1 (a114 a (Int32.ofNat mn)) [(.ref a)])) rfl rfl (D 1 rfl)
  have c2 : Sx p e b0 S0 T2 (mkF m 4 (a114 a (Int32.ofNat mn)) [(.ref ed)]) := c0.trans (qA X0 hx rfl (D 0 rfl) rfl rfl (st2 _ (Steps.refl _)))
  obtain ⟨cz3, Az3, -, Sz3, Mz3, -, -⟩ := id Vt
  have c4 : Sx p e b0 S0 T2 (mkF m 5 (a114 a (Int32.ofNat mn)) [(.int (Int32.ofNat N))]) := by
    refine c2.trans ?_
    refine X2.arraylength hx (by rw [e2]; exact Az3.1) (State.isArrayOf_alike hZ.alike Az3.2.1) (g := (mkF m 4 (a114 a (Int32.ofNat mn)) [(.ref ed)])) rfl rfl (D 2 rfl) _ ?_
    rw [len_of Sz3 Mz3]
    exact Steps.refl _
  have c6 : Sx p e b0 S0 T2 (mkF m 24 (a115 a (Int32.ofNat mn) (Int32.ofNat N)) [(.int ((Int32.ofNat mn) - (Int32.ofNat N))), (.int (Int32.ofNat N))]) := c4.trans (XS.istoreN X2.here hx rfl (D 3 rfl) rfl (l' := (a115 a (Int32.ofNat mn) (Int32.ofNat N))) rfl (qI X2 hx rfl (D 4 rfl) rfl (XS.ifYes X2.here hx rfl (pc0 := 7) (pc' := 20) rfl (D 5 rfl) rfl ((if0 _ _).trans (tlt ((own_ltn (a := 0) (by omega) (by omega)).mpr hp)).2.2.1) (by decide) (by decide) (qI X2 hx rfl (D 10 rfl) rfl (qI X2 hx rfl (D 11 rfl) rfl (qI X2 hx rfl (D 12 rfl) rfl (XS.isub X2.here hx rfl (D 13 rfl) rfl (Steps.refl _))))))))
  rw [own_subn (a := mn) (b := N) (by omega) (by omega)] at c6
  have c7 : Sx p e b0 S0 T2 (mkF m 27 (a115 a (Int32.ofNat mn) (Int32.ofNat N)) [(.int ((Int32.ofNat N) >>> (J1 &&& 31))), (.int (Int32.ofNat (mn - N))), (.int (Int32.ofNat N))]) := c6.trans (qI X2 hx rfl (D 14 rfl) rfl (qc X2 hx rfl (D 15 rfl) (XS.ishr X2.here hx rfl (D 16 rfl) rfl (Steps.refl _))))
  rw [own_half (by omega)] at c7
  obtain ⟨_, _, ⟨T8, L8, k8, n8⟩, -, X8, ⟨Lc8, hQ8, l8, y8, z8⟩, st8⟩ := Jvm.LawKit.callS X2 hx (y := yM36) hown (mvT hZ (Hw 526 rfl)) (mvT hZ (Hw 527 rfl)) (mvT hZ (Hw 335 rfl)) (mvT hZ (Hw 528 rfl)) (by decide) (backOf (W := 0) (rmNl l Z a0 hw [] N (mn - N) (N / 2) h0 n0 Z0 (by omega) (by omega) (by omega)) hZ (Hw 528 rfl) (Hw 335 rfl) (by decide) (by decide)) (g := (mkF m 27 (a115 a (Int32.ofNat mn) (Int32.ofNat N)) [(.int (Int32.ofNat (N / 2))), (.int (Int32.ofNat (mn - N))), (.int (Int32.ofNat N))])) rfl hml.symm (argsL := [(.int (Int32.ofNat N)), (.int (Int32.ofNat (mn - N))), (.int (Int32.ofNat (N / 2)))]) (rest := []) (lenOf pd11 rfl) rfl (nE rfl) (D 17 rfl) (fun _ _ => ⟨rfl, e2, (by decide : 0 + 0 ≤ _), (by decide : 0 + 0 ≤ _)⟩)
  dsimp only [Pt.U, Pt.locs, Pt.cells, Pt.slots] at X8 l8 y8 z8 st8 hQ8
  subst l8 y8 z8
  obtain ⟨⟨M, rfl, hM1, hM2⟩, N1, e1⟩ := hQ8
  have c8 : Sx p e b0 S0 T8 (mkF m 30 (a115 a (Int32.ofNat mn) (Int32.ofNat N)) [(.int (Int32.ofNat M))]) := c7.trans (st8 _ (Steps.refl _))
  obtain ⟨T10, X10, e10, st10⟩ := getF X8 hx hZ hown (host := "") (Or.inl (Hw 213 rfl)) Via.refl e1 Fe (g := (mkF m 33 (a116 a (Int32.ofNat mn) (Int32.ofNat N) (Int32.ofNat M)) [(.ref a), (.ref a)])) rfl rfl (D 21 rfl)
  have c10 : Sx p e b0 S0 T10 (mkF m 36 (a116 a (Int32.ofNat mn) (Int32.ofNat N) (Int32.ofNat M)) [(.ref ed), (.ref a)]) := c8.trans (XS.istoreN X8.here hx rfl (D 18 rfl) rfl (l' := (a116 a (Int32.ofNat mn) (Int32.ofNat N) (Int32.ofNat M))) rfl (qA X8 hx rfl (D 19 rfl) rfl rfl (qA X8 hx rfl (D 20 rfl) rfl rfl (st10 _ (Steps.refl _)))))
  obtain ⟨_, _, ⟨T12, L12, k12, n12⟩, -, X12, ⟨Lc12, hQ12, l12, y12, z12⟩, st12⟩ := Jvm.LawKit.callS X10 hx (y := yM15) hown (mvT hZ (Hw 501 rfl)) (mvT hZ (Hw 180 rfl)) (mvT hZ (Hw 181 rfl)) (mvT hZ (Hw 182 rfl)) (by decide) (backOf (W := 1) (rmC2 l Z a0 hw [] ed xs N M gg h0 n0 Z0 EV X00 Oe El (by omega) (by omega)) hZ (Hw 182 rfl) (Hw 181 rfl) (by decide) (by decide)) (g := (mkF m 37 (a116 a (Int32.ofNat mn) (Int32.ofNat N) (Int32.ofNat M)) [(.int (Int32.ofNat M)), (.ref ed), (.ref a)])) rfl hml.symm (argsL := [(.ref ed), (.int (Int32.ofNat M))]) (rest := [(.ref a)]) (lenOf pd4 rfl) rfl (nE rfl) (D 23 rfl) (fun _ _ => ⟨rfl, e10, (by decide : 0 + 1 ≤ _), (by decide : 0 + 10 ≤ _)⟩)
  dsimp only [Pt.U, Pt.locs, Pt.cells, Pt.slots] at X12 l12 y12 z12 st12 hQ12
  subst l12 y12 z12
  obtain ⟨⟨b, rfl, zb, Ob⟩, N2, K2⟩ := hQ12
  have c12 : Sx p e b0 S0 T12 (mkF m 40 (a116 a (Int32.ofNat mn) (Int32.ofNat N) (Int32.ofNat M)) [(.ref b), (.ref a)]) := c10.trans (qI X10 hx rfl (D 22 rfl) rfl (st12 _ (Steps.refl _)))
  have Ea := Ea.keep K2
  have Fm := Fm.keep K2 nin0
  have Fs := Fs.keep K2 nin0
  have Fe := Fe.keep K2 nin0
  obtain ⟨T14, h14, X14, e14, W14, st14⟩ := putF X12 hx hZ hown (host := "") (Or.inl (Hw 213 rfl)) Via.refl rfl Fe Ea (Or.inl (Hw 214 rfl)) (Hw 115 rfl) (ty := (.array (.object "java/lang/Object"))) (by decide) rfl rfl (g := (mkF m 41 (a116 a (Int32.ofNat mn) (Int32.ofNat N) (Int32.ofNat M)) [(.ref b), (.ref a), (.ref b)])) rfl rfl (D 25 rfl)
  have c14 : Sx p e b0 S0 T14 (mkF m 44 (a116 a (Int32.ofNat mn) (Int32.ofNat N) (Int32.ofNat M)) [(.ref b)]) := c12.trans (XS.dupX1 X12.here hx rfl (D 24 rfl) rfl rfl rfl (st14 _ (Steps.refl _)))
  have Ea := Ea.wr W14
  have Fm := Fm.other W14 (own_sn (Or.inl (Hw 169 rfl)) (Or.inl (Hw 214 rfl)) .int (.array (.object "java/lang/Object")))
  have Fs := Fs.other W14 (own_sn (Or.inl (Hw 203 rfl)) (Or.inl (Hw 214 rfl)) .int (.array (.object "java/lang/Object")))
  have Fe := Fe.same W14
  have nb : b ≠ a := Ne.symm (Nat.ne_of_lt (Nat.lt_of_lt_of_le A.1.lt zb))
  obtain ⟨fs, hr, r1, r2, hW, r4⟩ := X14.leave (v := some (.ref b)) (nV hret)
  refine ⟨_, _, c14.trans ?_, r1, r2, _, _, rfl, ?_, ⟨_, rfl⟩, hW, r4.mono (by decide) (by decide)⟩
  · exact retA X14 hx hret rfl rfl (D 26 rfl) hr
  · show QGf Z a ed xs N mc mn gg h0 n0 _ T14.heap _
    rw [e14]
    exact ⟨⟨b, M, rfl, zb, by omega, by omega, Ea, Fm, Fs, Fe, Ob.other W14 nb⟩, Fr.snoc X14 (Fr.app (Fr.app N0 N1) N2) ga, (own_Kmono K2 all0).wr W14 (mI 0 rfl)⟩
def QGe (Z : State) (a : Addr) (mc : Int32) (gg : own_G) (h0 : Heap) (n0 : Nat) (v : Option Value) (h : Heap) (L : List Loc) : Prop := (∃ ed' : Addr, v = some (.ref ed') ∧ h0.size ≤ ed' ∧ own_ALs Z h a ed' [] 10 mc) ∧ Fr n0 L ∧ Keep h0 h [a]
theorem rmGe (l : Launch) (Z : State) (a0 : Array Value) (hw : HW a0 Z) (ws : List Jvm.Cond) (a : Addr) (mc : Int32) (gg : own_G) (h0 : Heap) (n0 : Nat) (Z0 : n0 ≤ h0.size) (EV : own_Env Z gg) (X00 : Old Z n0 h0) (A : own_ALs Z h0 a gg.dc [] 0 mc) (ga : n0 ≤ a) :
    own_M l yM37 jdk_38_method_6_code 4 (some (.array (.object "java/lang/Object"))) ws (rK 1 1 10 20) #[(.ref a), (.int J1)] Z h0 (QGe Z a mc gg h0 n0) := by
  refine own_open (by decide +kernel) dB37 fun p e s m b0 meth c s₁ S0 hx D hby hml hown hnm hret hlk hZ X0 e0 c0 => ?_
  replace c0 : Sx p e b0 S0 s₁ (mkF m 0 (a114 a J1) []) := c0
  have Hw := @own_Hw _ _ hw
  have N0 := Fr.nil n0
  obtain ⟨Ea, Fm, Fs, Fe, Oe⟩ := id A
  obtain ⟨⟨kt, Vt, Ot⟩, Et, -, -⟩ := id Oe
  obtain ⟨T2, X2, e2, st2⟩ := getF X0 hx hZ hown (host := "") (Or.inl (Hw 213 rfl)) Via.refl e0 Fe (g := (mkF m 1 (a114 a J1) [(.ref a)])) rfl rfl (D 1 rfl)
  have c2 : Sx p e b0 S0 T2 (mkF m 4 (a114 a J1) [(.ref gg.dc)]) := c0.trans (qA X0 hx rfl (D 0 rfl) rfl rfl (st2 _ (Steps.refl _)))
  obtain ⟨cz3, Az3, -, Sz3, Mz3, -, -⟩ := id Vt
  have c4 : Sx p e b0 S0 T2 (mkF m 5 (a114 a J1) [(.int J0)]) := by
    refine c2.trans ?_
    refine X2.arraylength hx (by rw [e2]; exact Az3.1) (State.isArrayOf_alike hZ.alike Az3.2.1) (g := (mkF m 4 (a114 a J1) [(.ref gg.dc)])) rfl rfl (D 2 rfl) _ ?_
    rw [len_of Sz3 Mz3]
    exact Steps.refl _
  obtain ⟨T7, X7, e7, st7⟩ := getF X2 hx hZ hown (host := "") (Or.inl (Hw 213 rfl)) Via.refl e2 Fe (g := (mkF m 11 (a115 a J1 J0) [(.ref a)])) rfl rfl (D 7 rfl)
  have c7 : Sx p e b0 S0 T7 (mkF m 14 (a115 a J1 J0) [(.ref gg.dc)]) := c4.trans (XS.istoreN X2.here hx rfl (D 3 rfl) rfl (l' := (a115 a J1 J0)) rfl (qI X2 hx rfl (D 4 rfl) rfl (XS.ifNo X2.here hx rfl (D 5 rfl) rfl ((if0 _ _).trans (flt (by decide)).2.2.1) (qA X2 hx rfl (D 6 rfl) rfl rfl (st7 _ (Steps.refl _))))))
  obtain ⟨T8, X8, e8, st8⟩ := getS2 X7 hx hZ hown (host := "") (Or.inl (Hw 391 rfl)) Via.refl e7 (EV.dc.ext X00.2) (g := (mkF m 14 (a115 a J1 J0) [(.ref gg.dc)])) rfl (D 8 rfl)
  have c8 : Sx p e b0 S0 T8 (mkF m 17 (a115 a J1 J0) [(.ref gg.dc), (.ref gg.dc)]) := c7.trans (st8 _ (Steps.refl _))
  obtain ⟨_, _, ⟨T11, L11, k11, n11⟩, -, X11, ⟨Lc11, hQ11, l11, y11, z11⟩, st11⟩ := Jvm.LawKit.callS X8 hx (y := yM13) hown (mvT hZ (Hw 412 rfl)) (mvT hZ (Hw 413 rfl)) (mvT hZ (Hw 196 rfl)) (mvT hZ (Hw 414 rfl)) (by decide) (backOf (W := 1) (rmMx l Z a0 hw [] (10 : Int32) J1 h0 n0 Z0) hZ (Hw 414 rfl) (Hw 196 rfl) (by decide) (by decide)) (g := (mkF m 49 (a115 a J1 J0) [(.int J1), (.int (10 : Int32)), (.ref a)])) rfl hml.symm (argsL := [(.int (10 : Int32)), (.int J1)]) (rest := [(.ref a)]) (lenOf pd2 rfl) rfl (nE rfl) (D 30 rfl) (fun _ _ => ⟨rfl, e8, (by decide : 0 + 0 ≤ _), (by decide : 0 + 0 ≤ _)⟩)
  dsimp only [Pt.U, Pt.locs, Pt.cells, Pt.slots] at X11 l11 y11 z11 st11 hQ11
  subst l11 y11 z11
  obtain ⟨rfl, N1, e1⟩ := hQ11
  have c11 : Sx p e b0 S0 T11 (mkF m 52 (a115 a J1 J0) [(.int (if (10 : Int32) < J1 then J1 else (10 : Int32))), (.ref a)]) := c8.trans (Jvm.RoadKit.acmp (g := (mkF m 17 (a115 a J1 J0) [(.ref gg.dc), (.ref gg.dc)])) X8 hx rfl rfl rfl (pc0 := 17) (pc' := 45) (same := true) rfl (D 9 rfl) rfl (by simp) (by decide) (by decide) (qA X8 hx rfl (D 27 rfl) rfl rfl (XS.bipush X8.here hx rfl (D 28 rfl) (qI X8 hx rfl (D 29 rfl) rfl (st11 _ (Steps.refl _))))))
  rw [if_neg (by decide : ¬ (10 : Int32) < J1)] at c11
  obtain ⟨T12, h12, kA12, X12, e12, E12, A12, A12x, O12, st12⟩ := newRE X11 hx hZ hown (Hw 415 rfl) (Hw 121 rfl) e1 (g := (mkF m 52 (a115 a J1 J0) [(.int (10 : Int32)), (.ref a)])) rfl (D 31 rfl) rfl (by decide) (cap := 10) (by decide) (by decide) (by decide) (by decide) (ad := "[Ljava/lang/Object;") (by decide +kernel)
  obtain ⟨b12, g12⟩ : ∃ z, z = h0.size := ⟨_, rfl⟩
  rw [← g12] at A12 A12x st12
  have V12 := Arv.new A12 (by decide)
  have c12 : Sx p e b0 S0 T12 (mkF m 55 (a115 a J1 J0) [(.ref b12), (.ref a)]) := c11.trans (st12 _ (Steps.refl _))
  have z12 : h0.size ≤ b12 := nE g12.symm
  have n12b : n0 ≤ b12 := nT Z0 z12
  have Ea := Ea.ext E12
  have Fm := Fm.ext E12
  have Fs := Fs.ext E12
  have Fe := Fe.ext E12
  obtain ⟨T14, h14, X14, e14, W14, st14⟩ := putF X12 hx hZ hown (host := "") (Or.inl (Hw 213 rfl)) Via.refl e12 Fe Ea (Or.inl (Hw 214 rfl)) (Hw 115 rfl) (ty := (.array (.object "java/lang/Object"))) (by decide) rfl rfl (g := (mkF m 56 (a115 a J1 J0) [(.ref b12), (.ref a), (.ref b12)])) rfl rfl (D 33 rfl)
  have c14 : Sx p e b0 S0 T14 (mkF m 59 (a115 a J1 J0) [(.ref b12)]) := c12.trans (XS.dupX1 X12.here hx rfl (D 32 rfl) rfl rfl rfl (st14 _ (Steps.refl _)))
  have Ea := Ea.wr W14
  have Fm := Fm.other W14 (own_sn (Or.inl (Hw 169 rfl)) (Or.inl (Hw 214 rfl)) .int (.array (.object "java/lang/Object")))
  have Fs := Fs.other W14 (own_sn (Or.inl (Hw 203 rfl)) (Or.inl (Hw 214 rfl)) .int (.array (.object "java/lang/Object")))
  have Fe := Fe.same W14
  have nb : b12 ≠ a := Ne.symm (Nat.ne_of_lt (Nat.lt_of_lt_of_le A.1.lt z12))
  obtain ⟨fs, hr, r1, r2, hW, r4⟩ := X14.leave (v := some (.ref b12)) (nV hret)
  refine ⟨_, _, c14.trans ?_, r1, r2, _, _, rfl, ?_, ⟨_, rfl⟩, hW, r4.mono (by decide) (by decide)⟩
  · exact retA X14 hx hret rfl rfl (D 34 rfl) hr
  · show QGe Z a mc gg h0 n0 _ T14.heap _
    rw [e14]
    exact ⟨⟨_, rfl, z12, Ea, Fm, Fs, Fe, ⟨_, V12.other W14 nb, O12⟩, A12x.wr W14, by decide, by decide⟩, Fr.snoc X14 (Fr.app N0 N1) ga, ((Keep.refl h0 [a]).ext E12).wr W14 (mI 0 rfl)⟩
def QGr (Z : State) (a : Addr) (mc : Int32) (gg : own_G) (h0 : Heap) (n0 : Nat) (v : Option Value) (h : Heap) (L : List Loc) : Prop := (∃ ed' : Addr, v = some (.ref ed') ∧ h0.size ≤ ed' ∧ own_ALs Z h a ed' [] 10 mc) ∧ Fr n0 L ∧ Keep h0 h [a]
theorem rmGr (l : Launch) (Z : State) (a0 : Array Value) (hw : HW a0 Z) (ws : List Jvm.Cond) (a : Addr) (mc : Int32) (gg : own_G) (h0 : Heap) (n0 : Nat) (Z0 : n0 ≤ h0.size) (EV : own_Env Z gg) (X00 : Old Z n0 h0) (A : own_ALs Z h0 a gg.dc [] 0 mc) (ga : n0 ≤ a) :
    own_M l yM38 jdk_38_method_7_code 1 (some (.array (.object "java/lang/Object"))) ws (rK 2 1 10 36) #[(.ref a)] Z h0 (QGr Z a mc gg h0 n0) := by
  refine own_open (by decide +kernel) dB38 fun p e s m b0 meth c s₁ S0 hx D hby hml hown hnm hret hlk hZ X0 e0 c0 => ?_
  replace c0 : Sx p e b0 S0 s₁ (mkF m 0 #[vR a] []) := c0
  have Hw := @own_Hw _ _ hw
  have N0 := Fr.nil n0
  obtain ⟨T2, X2, e2, st2⟩ := getF X0 hx hZ hown (host := "") (Or.inl (Hw 202 rfl)) Via.refl e0 A.2.2.1 (g := (mkF m 2 #[vR a] [(.ref a), (.ref a)])) rfl rfl (D 2 rfl)
  have c2 : Sx p e b0 S0 T2 (mkF m 5 #[vR a] [(.int (Int32.ofNat ([] : List Addr).length)), (.ref a)]) := c0.trans (qA X0 hx rfl (D 0 rfl) rfl rfl (qA X0 hx rfl (D 1 rfl) rfl rfl (st2 _ (Steps.refl _))))
  have c3 : Sx p e b0 S0 T2 (mkF m 7 #[vR a] [(.int ((Int32.ofNat ([] : List Addr).length) + J1)), (.ref a)]) := c2.trans (qc X2 hx rfl (D 3 rfl) (XS.iadd X2.here hx rfl (D 4 rfl) rfl (Steps.refl _)))
  rw [show (Int32.ofNat ([] : List Addr).length) + J1 = 1 from by decide] at c3
  obtain ⟨cq4, q4, q4'⟩ := (A.1).cell
  obtain ⟨_, _, ⟨T4, L4, k4, n4⟩, -, X4, ⟨Lc4, hQ4, l4, y4, z4⟩, st4⟩ := X2.privateBack hx (y := yM37) hown (mvT hZ (Hw 407 rfl)) (mvT hZ (Hw 408 rfl)) (mvT hZ (own_selself (Hw 410 rfl) (Hw 409 rfl) (Hw 408 rfl) (by decide))) (Cond.privateMethod_at (mvP hZ (Hw 409 rfl) (args := #[]))) (mvT hZ (Hw 411 rfl)) (by decide) (backOf (W := 0) (rmGe l Z a0 hw [] a mc gg h0 n0 Z0 EV X00 A ga) hZ (Hw 411 rfl) (Hw 116 rfl) (by decide) (by decide)) (g := (mkF m 7 #[vR a] [(.int J1), (.ref a)])) rfl hml.symm (Steps.refl _) (a := a) (by rw [e2]; exact q4) q4' (argsL := [(.int J1)]) (rest := []) (lenOf pd12 rfl) rfl (nE rfl) (D 5 rfl) (fun _ _ => ⟨rfl, e2, (by decide : 0 + 1 ≤ _), (by decide : 0 + 10 ≤ _)⟩)
  dsimp only [Pt.U, Pt.locs, Pt.cells, Pt.slots] at X4 l4 y4 z4 st4 hQ4
  subst l4 y4 z4
  obtain ⟨⟨b, rfl, zb, Ab⟩, N1, K1⟩ := hQ4
  have c4 : Sx p e b0 S0 T4 (mkF m 10 #[vR a] [(.ref b)]) := c3.trans st4
  obtain ⟨fs, hr, r1, r2, hW, r4⟩ := X4.leave (v := some (.ref b)) (nV hret)
  refine ⟨_, _, c4.trans ?_, r1, r2, _, _, rfl, ?_, ⟨_, rfl⟩, hW, r4.mono (by decide) (by decide)⟩
  · exact retA X4 hx hret rfl rfl (D 6 rfl) hr
  · show QGr Z a mc gg h0 n0 _ T4.heap _
    exact ⟨⟨b, rfl, zb, Ab⟩, Fr.app N0 N1, K1⟩
def QD1 (Z : State) (a u : Addr) (mc : Int32) (gg : own_G) (h0 : Heap) (n0 : Nat) (v : Option Value) (h : Heap) (L : List Loc) : Prop := (∃ ed' : Addr, h0.size ≤ ed' ∧ own_ALs Z h a ed' [u] 10 mc) ∧ v = none ∧ Fr n0 L ∧ Keep h0 h [a]
theorem rmD1 (l : Launch) (Z : State) (a0 : Array Value) (hw : HW a0 Z) (ws : List Jvm.Cond) (a u : Addr) (mc : Int32) (gg : own_G) (h0 : Heap) (n0 : Nat) (Z0 : n0 ≤ h0.size) (EV : own_Env Z gg) (X00 : Old Z n0 h0) (A : own_ALs Z h0 a gg.dc [] 0 mc) (ga : n0 ≤ a) (Iu : Ins Z h0 u own_OB true) :
    own_M l yM39 jdk_38_method_24_code 4 none ws (rK 3 1 10 50) #[(.ref a), (.ref u), (.ref gg.dc), (.int J0)] Z h0 (QD1 Z a u mc gg h0 n0) := by
  refine own_open (by decide +kernel) dB39 fun p e s m b0 meth c s₁ S0 hx D hby hml hown hnm hret hlk hZ X0 e0 c0 => ?_
  replace c0 : Sx p e b0 S0 s₁ (mkF m 0 (a117 a u gg.dc J0) []) := c0
  have Hw := @own_Hw _ _ hw
  have N0 := Fr.nil n0
  obtain ⟨⟨kz, Vz, -⟩, -⟩ := id A.2.2.2.2
  obtain ⟨cz2, Az2, -, Sz2, Mz2, -, -⟩ := id Vz
  have c3 : Sx p e b0 S0 s₁ (mkF m 3 (a117 a u gg.dc J0) [(.int J0), (.int J0)]) := by
    refine c0.trans ?_
    refine qI X0 hx rfl (D 0 rfl) rfl ?_
    refine qA X0 hx rfl (D 1 rfl) rfl rfl ?_
    refine X0.arraylength hx (by rw [e0]; exact Az2.1) (State.isArrayOf_alike hZ.alike Az2.2.1) (g := (mkF m 2 (a117 a u gg.dc J0) [(.ref gg.dc), (.int J0)])) rfl rfl (D 2 rfl) _ ?_
    rw [len_of Sz2 Mz2]
    exact Steps.refl _
  obtain ⟨cq6, q6, q6'⟩ := (A.1).cell
  obtain ⟨_, _, ⟨T6, L6, k6, n6⟩, -, X6, ⟨Lc6, hQ6, l6, y6, z6⟩, st6⟩ := X0.privateBack hx (y := yM38) hown (mvT hZ (Hw 402 rfl)) (mvT hZ (Hw 403 rfl)) (mvT hZ (own_selself (Hw 405 rfl) (Hw 404 rfl) (Hw 403 rfl) (by decide))) (Cond.privateMethod_at (mvP hZ (Hw 404 rfl) (args := #[]))) (mvT hZ (Hw 406 rfl)) (by decide) (backOf (W := 0) (rmGr l Z a0 hw [] a mc gg h0 n0 Z0 EV X00 A ga) hZ (Hw 406 rfl) (Hw 116 rfl) (by decide) (by decide)) (g := (mkF m 7 (a117 a u gg.dc J0) [(.ref a)])) rfl hml.symm (Steps.refl _) (a := a) (by rw [e0]; exact q6) q6' (argsL := []) (rest := []) (lenOf pd13 rfl) rfl (nE rfl) (D 5 rfl) (fun _ _ => ⟨rfl, e0, (by decide : 0 + 1 ≤ _), (by decide : 0 + 10 ≤ _)⟩)
  dsimp only [Pt.U, Pt.locs, Pt.cells, Pt.slots] at X6 l6 y6 z6 st6 hQ6
  subst l6 y6 z6
  obtain ⟨⟨b, rfl, zb, Ab⟩, N1, K1⟩ := hQ6
  have c6 : Sx p e b0 S0 T6 (mkF m 10 (a117 a u gg.dc J0) [(.ref b)]) := c3.trans (XS.icmpNo X0.here hx rfl (D 3 rfl) rfl (teq rfl).2 (qA X0 hx rfl (D 4 rfl) rfl rfl (st6)))
  obtain ⟨Ea, Fm, Fs, Fe, ⟨kt, Vt, Ot⟩, Et, -, -⟩ := id Ab
  have nb : b ≠ a := Ne.symm (Nat.ne_of_lt (Nat.lt_of_lt_of_le A.1.lt zb))
  have gb : n0 ≤ b := nT Z0 zb
  have Vp8 : Arv Z _ b kt (.object own_OB) (Int32.ofNat 10) (([] : List Addr).map Value.ref ++ List.replicate 1 .null) .null := Vt.pad (pad_rep _ .null 1)
  obtain ⟨cl8, Ar8, qr8, S8, M8, Hs8, U8⟩ := id Vp8
  have zj8 : J0.toNatClampNeg = ([] : List Addr).length := by decide
  have in8 : ¬ (J0 < 0 ∨ cl8.slots.size ≤ J0.toNatClampNeg) := by
    rw [zj8, S8, own_nat (by omega)]
    decide
  obtain ⟨T8, h8, X8, e8, W8, st8⟩ := stR X6 hx hZ rfl Ar8 (j := J0) (v := (.ref u)) in8 rfl (Sto.ofV Ar8 qr8 Ot (own_insK Iu K1)) (g := (mkF m 14 (a117 a u b J0) [(.ref u), (.int J0), (.ref b)])) rfl rfl (D 10 rfl)
  have V8 : Arv Z h8 b kt (.object own_OB) (Int32.ofNat 10) ((([] : List Addr) ++ [u]).map Value.ref) .null := by
    have := Arv.set Ar8 qr8 S8 M8 Hs8 U8 rfl W8 ([] : List Addr).length zj8 (by simp)
    rw [own_setend] at this
    exact this
  have c8 : Sx p e b0 S0 T8 (mkF m 15 (a117 a u b J0) []) := c6.trans (XS.astoreN X6.here hx rfl (D 6 rfl) rfl rfl (l' := (a117 a u b J0)) rfl (qA X6 hx rfl (D 7 rfl) rfl rfl (qI X6 hx rfl (D 8 rfl) rfl (qA X6 hx rfl (D 9 rfl) rfl rfl (st8 _ (Steps.refl _))))))
  have Nf := Fr.snoc X8 (Fr.app N0 N1) gb
  have Ea := Ea.wr W8
  have Fm := Fm.other W8 (Or.inl (Ne.symm nb))
  have Fs := Fs.other W8 (Or.inl (Ne.symm nb))
  have Fe := Fe.other W8 (Or.inl (Ne.symm nb))
  obtain ⟨T10, h10, X10, e10, W10, st10⟩ := putF X8 hx hZ hown (host := "") (Or.inl (Hw 202 rfl)) Via.refl e8 Fs Ea (Or.inl (Hw 203 rfl)) (Hw 115 rfl) (ty := .int) (by decide) rfl rfl (g := (mkF m 19 (a117 a u b J0) [(.int (J0 + J1)), (.ref a)])) rfl rfl (D 15 rfl)
  have c10 : Sx p e b0 S0 T10 (mkF m 22 (a117 a u b J0) []) := c8.trans (qA X8 hx rfl (D 11 rfl) rfl rfl (qI X8 hx rfl (D 12 rfl) rfl (qc X8 hx rfl (D 13 rfl) (XS.iadd X8.here hx rfl (D 14 rfl) rfl (st10 _ (Steps.refl _))))))
  have Ea := Ea.wr W10
  have Fm := Fm.other W10 (own_sn (Or.inl (Hw 169 rfl)) (Or.inl (Hw 203 rfl)) .int .int)
  have Fs := Fs.same W10
  have Fe := Fe.other W10 (own_sn (Or.inl (Hw 214 rfl)) (Or.inl (Hw 203 rfl)) (.array (.object "java/lang/Object")) .int)
  obtain ⟨fs, hr, r1, r2, hW, r4⟩ := X10.leave (v := none) (fun _ => rfl)
  refine ⟨_, _, c10.trans ?_, r1, r2, _, _, rfl, ?_, ⟨_, rfl⟩, hW, r4.mono (by decide) (by decide)⟩
  · exact X10.returnOut hx hret (D 16 rfl) hr
  · show QD1 Z a u mc gg h0 n0 _ T10.heap _
    rw [e10]
    exact ⟨⟨b, zb, Ea, Fm, Fs, Fe, ⟨_, V8.other W10 nb, Ot⟩, (Et.wr W8).wr W10, by simp, by decide⟩, rfl, Fr.snoc X10 Nf ga, (K1.wr W8 (Or.inr zb)).wr W10 (mI 0 rfl)⟩
def QD2 (Z : State) (a ed : Addr) (xs : List Addr) (mc : Int32) (u : Addr) (h0 : Heap) (n0 : Nat) (v : Option Value) (h : Heap) (L : List Loc) : Prop := own_ALs Z h a ed (xs ++ [u]) 10 mc ∧ v = none ∧ Fr n0 L ∧ Keep h0 h [a, ed]
theorem rmD2 (l : Launch) (Z : State) (a0 : Array Value) (hw : HW a0 Z) (ws : List Jvm.Cond) (a ed : Addr) (xs : List Addr) (mc : Int32) (u : Addr) (h0 : Heap) (n0 : Nat) (Z0 : n0 ≤ h0.size) (A : own_ALs Z h0 a ed xs 10 mc) (hl : xs.length < 10) (ga : n0 ≤ a) (ge : n0 ≤ ed) (Iu : Ins Z h0 u own_OB true) :
    own_M l yM39 jdk_38_method_24_code 4 none ws (rK 0 0 0 0) #[(.ref a), (.ref u), (.ref ed), (.int (Int32.ofNat xs.length))] Z h0 (QD2 Z a ed xs mc u h0 n0) := by
  refine own_open (by decide +kernel) dB39 fun p e s m b0 meth c s₁ S0 hx D hby hml hown hnm hret hlk hZ X0 e0 c0 => ?_
  replace c0 : Sx p e b0 S0 s₁ (mkF m 0 (a117 a u ed (Int32.ofNat xs.length)) []) := c0
  have Hw := @own_Hw _ _ hw
  have N0 := Fr.nil n0
  obtain ⟨Ea, Fm, Fs, Fe, ⟨kt, Vt, Ot⟩, Et, -, -⟩ := id A
  have nb : ed ≠ a := Et.ne Ea (by decide)
  obtain ⟨cz2, Az2, -, Sz2, Mz2, -, -⟩ := id Vt
  have c3 : Sx p e b0 S0 s₁ (mkF m 3 (a117 a u ed (Int32.ofNat xs.length)) [(.int (10 : Int32)), (.int (Int32.ofNat xs.length))]) := by
    refine c0.trans ?_
    refine qI X0 hx rfl (D 0 rfl) rfl ?_
    refine qA X0 hx rfl (D 1 rfl) rfl rfl ?_
    refine X0.arraylength hx (by rw [e0]; exact Az2.1) (State.isArrayOf_alike hZ.alike Az2.2.1) (g := (mkF m 2 (a117 a u ed (Int32.ofNat xs.length)) [(.ref ed), (.int (Int32.ofNat xs.length))])) rfl rfl (D 2 rfl) _ ?_
    rw [len_of Sz2 Mz2]
    exact Steps.refl _
  have Vp6 : Arv Z _ ed kt (.object own_OB) (Int32.ofNat 10) (xs.map Value.ref ++ List.replicate 1 .null) .null := Vt.pad (pad_rep _ .null 1)
  obtain ⟨cl6, Ar6, qr6, S6, M6, Hs6, U6⟩ := id Vp6
  have zj6 : (Int32.ofNat xs.length).toNatClampNeg = xs.length := own_nat (by omega)
  have in6 : ¬ ((Int32.ofNat xs.length) < 0 ∨ cl6.slots.size ≤ (Int32.ofNat xs.length).toNatClampNeg) := by
    rw [zj6, S6, own_nat (by omega)]
    exact fun q => q.elim (own_nn (by omega)) (by omega)
  obtain ⟨T6, h6, X6, e6, W6, st6⟩ := stR X0 hx hZ e0 Ar6 (j := (Int32.ofNat xs.length)) (v := (.ref u)) in6 rfl (Sto.ofV Ar6 qr6 Ot Iu) (g := (mkF m 14 (a117 a u ed (Int32.ofNat xs.length)) [(.ref u), (.int (Int32.ofNat xs.length)), (.ref ed)])) rfl rfl (D 10 rfl)
  have V6 : Arv Z h6 ed kt (.object own_OB) (Int32.ofNat 10) ((xs ++ [u]).map Value.ref) .null := by
    have := Arv.set Ar6 qr6 S6 M6 Hs6 U6 rfl W6 xs.length zj6 (by simp)
    rw [own_setend] at this
    exact this
  have c6 : Sx p e b0 S0 T6 (mkF m 15 (a117 a u ed (Int32.ofNat xs.length)) []) := c3.trans (XS.icmpYes X0.here hx rfl (pc0 := 3) (pc' := 11) rfl (D 3 rfl) rfl (feq (fun q => by have := (own_eqn (b := 10) (by omega) (by omega)).mp q; omega)).2 (by decide) (by decide) (qA X0 hx rfl (D 7 rfl) rfl rfl (qI X0 hx rfl (D 8 rfl) rfl (qA X0 hx rfl (D 9 rfl) rfl rfl (st6 _ (Steps.refl _))))))
  have Nf := Fr.snoc X6 N0 ge
  have Ea := Ea.wr W6
  have Fm := Fm.other W6 (Or.inl (Ne.symm nb))
  have Fs := Fs.other W6 (Or.inl (Ne.symm nb))
  have Fe := Fe.other W6 (Or.inl (Ne.symm nb))
  have c7 : Sx p e b0 S0 T6 (mkF m 19 (a117 a u ed (Int32.ofNat xs.length)) [(.int ((Int32.ofNat xs.length) + J1)), (.ref a)]) := c6.trans (qA X6 hx rfl (D 11 rfl) rfl rfl (qI X6 hx rfl (D 12 rfl) rfl (qc X6 hx rfl (D 13 rfl) (XS.iadd X6.here hx rfl (D 14 rfl) rfl (Steps.refl _)))))
  rw [show (Int32.ofNat xs.length) + J1 = Int32.ofNat (xs ++ [u]).length from by rw [List.length_append]; exact own_addn (b := 1) (by omega)] at c7
  obtain ⟨T8, h8, X8, e8, W8, st8⟩ := putF X6 hx hZ hown (host := "") (Or.inl (Hw 202 rfl)) Via.refl e6 Fs Ea (Or.inl (Hw 203 rfl)) (Hw 115 rfl) (ty := .int) (by decide) rfl rfl (g := (mkF m 19 (a117 a u ed (Int32.ofNat xs.length)) [(.int (Int32.ofNat (xs ++ [u]).length)), (.ref a)])) rfl rfl (D 15 rfl)
  have c8 : Sx p e b0 S0 T8 (mkF m 22 (a117 a u ed (Int32.ofNat xs.length)) []) := c7.trans (st8 _ (Steps.refl _))
  have Ea := Ea.wr W8
  have Fm := Fm.other W8 (own_sn (Or.inl (Hw 169 rfl)) (Or.inl (Hw 203 rfl)) .int .int)
  have Fs := Fs.same W8
  have Fe := Fe.other W8 (own_sn (Or.inl (Hw 214 rfl)) (Or.inl (Hw 203 rfl)) (.array (.object "java/lang/Object")) .int)
  obtain ⟨fs, hr, r1, r2, hW, r4⟩ := X8.leave (v := none) (fun _ => rfl)
  refine ⟨_, _, c8.trans ?_, r1, r2, _, _, rfl, ?_, ⟨_, rfl⟩, hW, r4.mono (by decide) (by decide)⟩
  · exact X8.returnOut hx hret (D 16 rfl) hr
  · show QD2 Z a ed xs mc u h0 n0 _ T8.heap _
    rw [e8]
    exact ⟨⟨Ea, Fm, Fs, Fe, ⟨_, V6.other W8 nb, Ot⟩, (Et.wr W6).wr W8, by simp; omega, by decide⟩, rfl, Fr.snoc X8 Nf ga, ((Keep.refl h0 [a, ed]).wr W6 (mI 1 rfl)).wr W8 (mI 0 rfl)⟩
def QB1 (Z : State) (a u : Addr) (mc : Int32) (gg : own_G) (h0 : Heap) (n0 : Nat) (v : Option Value) (h : Heap) (L : List Loc) : Prop := v = some (.int 1) ∧ (∃ ed' : Addr, h0.size ≤ ed' ∧ own_ALs Z h a ed' [u] 10 (mc + 1)) ∧ Fr n0 L ∧ Keep h0 h [a]
theorem rmB1 (l : Launch) (Z : State) (a0 : Array Value) (hw : HW a0 Z) (ws : List Jvm.Cond) (a u : Addr) (mc : Int32) (gg : own_G) (h0 : Heap) (n0 : Nat) (Z0 : n0 ≤ h0.size) (EV : own_Env Z gg) (X00 : Old Z n0 h0) (A : own_ALs Z h0 a gg.dc [] 0 mc) (ga : n0 ≤ a) (Iu : Ins Z h0 u own_OB true) :
    own_M l yM40 jdk_38_method_25_code 2 (some .boolean) ws (rK 4 1 10 68) #[(.ref a), (.ref u)] Z h0 (QB1 Z a u mc gg h0 n0) := by
  refine own_open (by decide +kernel) dB40 fun p e s m b0 meth c s₁ S0 hx D hby hml hown hnm hret hlk hZ X0 e0 c0 => ?_
  replace c0 : Sx p e b0 S0 s₁ (mkF m 0 #[vR a, vR u] []) := c0
  have Hw := @own_Hw _ _ hw
  have N0 := Fr.nil n0
  obtain ⟨Ea, Fm, Fs, Fe, Oe⟩ := id A
  have nb : gg.dc ≠ a := Oe.2.1.ne Ea (by decide)
  obtain ⟨T2, X2, e2, st2⟩ := getF X0 hx hZ hown (host := "") (Or.inl (Hw 220 rfl)) (Via.of (Hw 221 rfl)) e0 Fm (g := (mkF m 2 #[vR a, vR u] [(.ref a), (.ref a)])) rfl rfl (D 2 rfl)
  have c2 : Sx p e b0 S0 T2 (mkF m 5 #[vR a, vR u] [(.int mc), (.ref a)]) := c0.trans (qA X0 hx rfl (D 0 rfl) rfl rfl (XS.dup X0.here hx rfl (D 1 rfl) rfl rfl (st2 _ (Steps.refl _))))
  obtain ⟨T4, h4, X4, e4, W4, st4⟩ := putF X2 hx hZ hown (host := "") (Or.inl (Hw 220 rfl)) (Via.of (Hw 221 rfl)) e2 Fm Ea (Or.inl (Hw 169 rfl)) (Hw 115 rfl) (ty := .int) (by decide) rfl rfl (g := (mkF m 7 #[vR a, vR u] [(.int (mc + J1)), (.ref a)])) rfl rfl (D 5 rfl)
  have c4 : Sx p e b0 S0 T4 (mkF m 10 #[vR a, vR u] []) := c2.trans (qc X2 hx rfl (D 3 rfl) (XS.iadd X2.here hx rfl (D 4 rfl) rfl (st4 _ (Steps.refl _))))
  have Ea := Ea.wr W4
  have Fm := Fm.same W4
  have Fs := Fs.other W4 (own_sn (Or.inl (Hw 203 rfl)) (Or.inl (Hw 169 rfl)) .int .int)
  have Fe := Fe.other W4 (own_sn (Or.inl (Hw 214 rfl)) (Or.inl (Hw 169 rfl)) (.array (.object "java/lang/Object")) .int)
  have Nf := Fr.snoc X4 N0 ga
  have A1 : own_ALs Z h4 a gg.dc ([] : List Addr) 0 (mc + 1) := ⟨Ea, Fm, Fs, Fe, Oe.other W4 nb⟩
  have Zp := nT Z0 (nE (own_wsz W4).symm)
  obtain ⟨T6, X6, e6, st6⟩ := getF X4 hx hZ hown (host := "") (Or.inl (Hw 213 rfl)) Via.refl e4 Fe (g := (mkF m 13 #[vR a, vR u] [(.ref a), (.ref u), (.ref a)])) rfl rfl (D 9 rfl)
  have c6 : Sx p e b0 S0 T6 (mkF m 16 #[vR a, vR u] [(.ref gg.dc), (.ref u), (.ref a)]) := c4.trans (qA X4 hx rfl (D 6 rfl) rfl rfl (qA X4 hx rfl (D 7 rfl) rfl rfl (qA X4 hx rfl (D 8 rfl) rfl rfl (st6 _ (Steps.refl _)))))
  obtain ⟨T8, X8, e8, st8⟩ := getF X6 hx hZ hown (host := "") (Or.inl (Hw 202 rfl)) Via.refl e6 Fs (g := (mkF m 17 #[vR a, vR u] [(.ref a), (.ref gg.dc), (.ref u), (.ref a)])) rfl rfl (D 11 rfl)
  have c8 : Sx p e b0 S0 T8 (mkF m 20 #[vR a, vR u] [(.int (Int32.ofNat ([] : List Addr).length)), (.ref gg.dc), (.ref u), (.ref a)]) := c6.trans (qA X6 hx rfl (D 10 rfl) rfl rfl (st8 _ (Steps.refl _)))
  rw [show (Int32.ofNat ([] : List Addr).length) = J0 from by decide] at c8
  obtain ⟨cq9, q9, q9'⟩ := (A1.1).cell
  obtain ⟨_, _, ⟨T9, L9, k9, n9⟩, -, X9, ⟨Lc9, hQ9, l9, y9, z9⟩, st9⟩ := X8.privateBack hx (y := yM39) hown (mvT hZ (Hw 397 rfl)) (mvT hZ (Hw 398 rfl)) (mvT hZ (own_selself (Hw 400 rfl) (Hw 399 rfl) (Hw 398 rfl) (by decide))) (Cond.privateMethod_at (mvP hZ (Hw 399 rfl) (args := #[]))) (mvT hZ (Hw 401 rfl)) (by decide) (backOf (W := 0) (rmD1 l Z a0 hw [] a u (mc + 1) gg h4 n0 Zp EV (X00.wr W4 ga) A1 ga (Iu.wr W4)) hZ (Hw 401 rfl) (Hw 116 rfl) (by decide) (by decide)) (g := (mkF m 20 #[vR a, vR u] [(.int J0), (.ref gg.dc), (.ref u), (.ref a)])) rfl hml.symm (Steps.refl _) (a := a) (by rw [e8]; exact q9) q9' (argsL := [(.ref u), (.ref gg.dc), (.int J0)]) (rest := []) (lenOf pd14 rfl) rfl (nE rfl) (D 12 rfl) (fun _ _ => ⟨rfl, e8, (by decide : 0 + 1 ≤ _), (by decide : 0 + 10 ≤ _)⟩)
  dsimp only [Pt.U, Pt.locs, Pt.cells, Pt.slots] at X9 l9 y9 z9 st9 hQ9
  subst l9 y9 z9
  obtain ⟨⟨b, zb, Ab⟩, rfl, N1, K1⟩ := hQ9
  have c9 : Sx p e b0 S0 T9 (mkF m 23 #[vR a, vR u] []) := c8.trans st9
  obtain ⟨fs, hr, r1, r2, hW, r4⟩ := X9.leave (v := some (.int 1)) (nV hret)
  refine ⟨_, _, c9.trans ?_, r1, r2, _, _, rfl, ?_, ⟨_, rfl⟩, hW, r4.mono (by decide) (by decide)⟩
  · refine qc X9 hx rfl (D 13 rfl) ?_
    exact retN X9 hx (t := .boolean) hret (by simp) (D 14 rfl) hr
  · show QB1 Z a u mc gg h0 n0 _ T9.heap _
    exact ⟨rfl, ⟨b, nT (nE (own_wsz W4).symm) zb, Ab⟩, Fr.app Nf N1, ((Keep.refl h0 [a]).wr W4 (mI 0 rfl)).trans K1 (fun x hx => Or.inl hx)⟩
def QB2 (Z : State) (a ed : Addr) (xs : List Addr) (mc : Int32) (u : Addr) (h0 : Heap) (n0 : Nat) (v : Option Value) (h : Heap) (L : List Loc) : Prop := v = some (.int 1) ∧ own_ALs Z h a ed (xs ++ [u]) 10 (mc + 1) ∧ Fr n0 L ∧ Keep h0 h [a, ed]
theorem rmB2 (l : Launch) (Z : State) (a0 : Array Value) (hw : HW a0 Z) (ws : List Jvm.Cond) (a ed : Addr) (xs : List Addr) (mc : Int32) (u : Addr) (h0 : Heap) (n0 : Nat) (Z0 : n0 ≤ h0.size) (A : own_ALs Z h0 a ed xs 10 mc) (hl : xs.length < 10) (ga : n0 ≤ a) (ge : n0 ≤ ed) (Iu : Ins Z h0 u own_OB true) :
    own_M l yM40 jdk_38_method_25_code 2 (some .boolean) ws (rK 1 0 0 18) #[(.ref a), (.ref u)] Z h0 (QB2 Z a ed xs mc u h0 n0) := by
  refine own_open (by decide +kernel) dB40 fun p e s m b0 meth c s₁ S0 hx D hby hml hown hnm hret hlk hZ X0 e0 c0 => ?_
  replace c0 : Sx p e b0 S0 s₁ (mkF m 0 #[vR a, vR u] []) := c0
  have Hw := @own_Hw _ _ hw
  have N0 := Fr.nil n0
  obtain ⟨Ea, Fm, Fs, Fe, Oe⟩ := id A
  have nb : ed ≠ a := Oe.2.1.ne Ea (by decide)
  obtain ⟨T2, X2, e2, st2⟩ := getF X0 hx hZ hown (host := "") (Or.inl (Hw 220 rfl)) (Via.of (Hw 221 rfl)) e0 Fm (g := (mkF m 2 #[vR a, vR u] [(.ref a), (.ref a)])) rfl rfl (D 2 rfl)
  have c2 : Sx p e b0 S0 T2 (mkF m 5 #[vR a, vR u] [(.int mc), (.ref a)]) := c0.trans (qA X0 hx rfl (D 0 rfl) rfl rfl (XS.dup X0.here hx rfl (D 1 rfl) rfl rfl (st2 _ (Steps.refl _))))
  obtain ⟨T4, h4, X4, e4, W4, st4⟩ := putF X2 hx hZ hown (host := "") (Or.inl (Hw 220 rfl)) (Via.of (Hw 221 rfl)) e2 Fm Ea (Or.inl (Hw 169 rfl)) (Hw 115 rfl) (ty := .int) (by decide) rfl rfl (g := (mkF m 7 #[vR a, vR u] [(.int (mc + J1)), (.ref a)])) rfl rfl (D 5 rfl)
  have c4 : Sx p e b0 S0 T4 (mkF m 10 #[vR a, vR u] []) := c2.trans (qc X2 hx rfl (D 3 rfl) (XS.iadd X2.here hx rfl (D 4 rfl) rfl (st4 _ (Steps.refl _))))
  have Ea := Ea.wr W4
  have Fm := Fm.same W4
  have Fs := Fs.other W4 (own_sn (Or.inl (Hw 203 rfl)) (Or.inl (Hw 169 rfl)) .int .int)
  have Fe := Fe.other W4 (own_sn (Or.inl (Hw 214 rfl)) (Or.inl (Hw 169 rfl)) (.array (.object "java/lang/Object")) .int)
  have Nf := Fr.snoc X4 N0 ga
  have A1 : own_ALs Z h4 a ed xs 10 (mc + 1) := ⟨Ea, Fm, Fs, Fe, Oe.other W4 nb⟩
  have Zp := nT Z0 (nE (own_wsz W4).symm)
  obtain ⟨T6, X6, e6, st6⟩ := getF X4 hx hZ hown (host := "") (Or.inl (Hw 213 rfl)) Via.refl e4 Fe (g := (mkF m 13 #[vR a, vR u] [(.ref a), (.ref u), (.ref a)])) rfl rfl (D 9 rfl)
  have c6 : Sx p e b0 S0 T6 (mkF m 16 #[vR a, vR u] [(.ref ed), (.ref u), (.ref a)]) := c4.trans (qA X4 hx rfl (D 6 rfl) rfl rfl (qA X4 hx rfl (D 7 rfl) rfl rfl (qA X4 hx rfl (D 8 rfl) rfl rfl (st6 _ (Steps.refl _)))))
  obtain ⟨T8, X8, e8, st8⟩ := getF X6 hx hZ hown (host := "") (Or.inl (Hw 202 rfl)) Via.refl e6 Fs (g := (mkF m 17 #[vR a, vR u] [(.ref a), (.ref ed), (.ref u), (.ref a)])) rfl rfl (D 11 rfl)
  have c8 : Sx p e b0 S0 T8 (mkF m 20 #[vR a, vR u] [(.int (Int32.ofNat xs.length)), (.ref ed), (.ref u), (.ref a)]) := c6.trans (qA X6 hx rfl (D 10 rfl) rfl rfl (st8 _ (Steps.refl _)))
  obtain ⟨cq9, q9, q9'⟩ := (A1.1).cell
  obtain ⟨_, _, ⟨T9, L9, k9, n9⟩, -, X9, ⟨Lc9, hQ9, l9, y9, z9⟩, st9⟩ := X8.privateBack hx (y := yM39) hown (mvT hZ (Hw 397 rfl)) (mvT hZ (Hw 398 rfl)) (mvT hZ (own_selself (Hw 400 rfl) (Hw 399 rfl) (Hw 398 rfl) (by decide))) (Cond.privateMethod_at (mvP hZ (Hw 399 rfl) (args := #[]))) (mvT hZ (Hw 401 rfl)) (by decide) (backOf (W := 0) (rmD2 l Z a0 hw [] a ed xs (mc + 1) u h4 n0 Zp A1 hl ga ge (Iu.wr W4)) hZ (Hw 401 rfl) (Hw 116 rfl) (by decide) (by decide)) (g := (mkF m 20 #[vR a, vR u] [(.int (Int32.ofNat xs.length)), (.ref ed), (.ref u), (.ref a)])) rfl hml.symm (Steps.refl _) (a := a) (by rw [e8]; exact q9) q9' (argsL := [(.ref u), (.ref ed), (.int (Int32.ofNat xs.length))]) (rest := []) (lenOf pd14 rfl) rfl (nE rfl) (D 12 rfl) (fun _ _ => ⟨rfl, e8, (by decide : 0 + 0 ≤ _), (by decide : 0 + 0 ≤ _)⟩)
  dsimp only [Pt.U, Pt.locs, Pt.cells, Pt.slots] at X9 l9 y9 z9 st9 hQ9
  subst l9 y9 z9
  obtain ⟨Ab, rfl, N1, K1⟩ := hQ9
  have c9 : Sx p e b0 S0 T9 (mkF m 23 #[vR a, vR u] []) := c8.trans st9
  obtain ⟨fs, hr, r1, r2, hW, r4⟩ := X9.leave (v := some (.int 1)) (nV hret)
  refine ⟨_, _, c9.trans ?_, r1, r2, _, _, rfl, ?_, ⟨_, rfl⟩, hW, r4.mono (by decide) (by decide)⟩
  · refine qc X9 hx rfl (D 13 rfl) ?_
    exact retN X9 hx (t := .boolean) hret (by simp) (D 14 rfl) hr
  · show QB2 Z a ed xs mc u h0 n0 _ T9.heap _
    exact ⟨rfl, Ab, Fr.app Nf N1, ((Keep.refl h0 [a, ed]).wr W4 (mI 0 rfl)).trans K1 (fun x hx => Or.inl hx)⟩
def QK3 (Z : State) (a r t x0 x1 x2 : Addr) (gg : own_G) (h0 : Heap) (n0 : Nat) (v : Option Value) (h : Heap) (L : List Loc) : Prop := v = none ∧ Fr n0 L ∧ Keep h0 h [a] ∧ ∃ ed : Addr, h0.size ≤ ed ∧ own_ALs Z h a ed [x0, x1, x2] 3 0
theorem rmK3 (l : Launch) (Z : State) (a0 : Array Value) (hw : HW a0 Z) (ws : List Jvm.Cond) (a r t x0 x1 x2 : Addr) (gg : own_G) (h0 : Heap) (n0 : Nat) (Z0 : n0 ≤ h0.size) (EV : own_Env Z gg) (X00 : Old Z n0 h0) (Ea : Exa Z h0 a "java/util/ArrayList") (Fm : Fld Z h0 a "java/util/AbstractList" "modCount" "I" (.int 0)) (Fs : Fld Z h0 a "java/util/ArrayList" "size" "I" (.int 0)) (Fe : Fld Z h0 a "java/util/ArrayList" "elementData" "[Ljava/lang/Object;" .null) (ga : n0 ≤ a) (Er : Exa Z h0 r "java/util/ImmutableCollections$ListN") (Fl : Fld Z h0 r "java/util/ImmutableCollections$ListN" "elements" "[Ljava/lang/Object;" (.ref t)) (Ot : own_OA Z h0 t [x0, x1, x2] 3) (El : own_El Z h0 [x0, x1, x2]) :
    own_M l yM41 jdk_38_method_3_code 3 none ws (rK 4 2 20 76) #[(.ref a), (.ref r)] Z h0 (QK3 Z a r t x0 x1 x2 gg h0 n0) := by
  refine own_open (by decide +kernel) dB41 fun p e s m b0 meth c s₁ S0 hx D hby hml hown hnm hret hlk hZ X0 e0 c0 => ?_
  replace c0 : Sx p e b0 S0 s₁ (mkF m 0 (a110 a r) []) := c0
  have Hw := @own_Hw _ _ hw
  have N0 := Fr.nil n0
  have hlt := Ea.lt
  have nra : r ≠ a := Er.ne Ea (by decide)
  have nta : t ≠ a := Ot.2.1.ne Ea (by decide)
  obtain ⟨_, _, ⟨T2, L2, k2, n2⟩, -, X2, ⟨Lc2, hQ2, l2, y2, z2⟩, st2⟩ := X0.specialBack hx (y := yM8) rfl hown (mvT hZ (Hw 160 rfl)) (mvT hZ (Hw 161 rfl)) (mvT hZ (Hw 165 rfl)) (by decide) (backOf (W := 0) (rmAb l Z a0 hw [] a h0 n0 Z0 Ea Fm Fs Fe ga) hZ (Hw 165 rfl) (Hw 164 rfl) (by decide) (by decide)) (g := (mkF m 1 (a110 a r) [(.ref a)])) rfl hml.symm (Steps.refl _) (a := a) (argsL := []) (rest := []) (lenOf pd0 rfl) rfl (nE rfl) (D 1 rfl) (fun _ _ => ⟨rfl, e0, (by decide : 0 + 0 ≤ _), (by decide : 0 + 0 ≤ _)⟩)
  dsimp only [Pt.U, Pt.locs, Pt.cells, Pt.slots] at X2 l2 y2 z2 st2 hQ2
  subst l2 y2 z2
  obtain ⟨rfl, N1, K1, Ea, Fm, Fs, Fe⟩ := hQ2
  have c2 : Sx p e b0 S0 T2 (mkF m 4 (a110 a r) []) := c0.trans (qA X0 hx rfl (D 0 rfl) rfl rfl (st2))
  have X01 := X00.keep K1 (allS ga all0)
  have Z1 := nT Z0 K1.1
  have El1 := El.keep K1
  have Er := Er.keep K1
  have Fl := Fl.keep K1 (ninS nra nin0)
  have Ot := Ot.keep K1 (ninS nta nin0)
  obtain ⟨cq4, kq4, q4a, q4b, q4c⟩ := isOf hZ rfl Er
  obtain ⟨_, _, ⟨T4, L4, k4, n4⟩, -, X4, ⟨Lc4, hQ4, l4, y4, z4⟩, st4⟩ := X2.interfaceBack hx (xi := yM42) (y := yM16) (C := "java/util/ImmutableCollections$ListN") hown (mvT hZ (Hw 170 rfl)) (mvT hZ (Hw 171 rfl)) (mvT hZ (Hw 172 rfl)) (mvT hZ (Hw 173 rfl)) (mvT hZ (Hw 174 rfl)) (mvT hZ (Hw 175 rfl)) (mvT hZ (Hw 176 rfl)) (mvT hZ (Hw 177 rfl)) (by decide) (backOf (W := 0) (rmNt l Z a0 hw [] r t [x0, x1, x2] gg T2.heap n0 Z1 EV X01 Fl Ot El1 (Nat.le_of_ble_eq_true rfl)) hZ (Hw 178 rfl) (Hw 131 rfl) (by decide) (by decide)) q4a q4b q4c (g := (mkF m 5 (a110 a r) [(.ref r)])) rfl hml.symm (Steps.refl _) (argsL := []) (rest := []) (lenOf pd13 rfl) rfl (nE rfl) (D 3 rfl) (fun _ _ => ⟨rfl, rfl, (by decide : 0 + 1 ≤ _), (by decide : 0 + 10 ≤ _)⟩)
  dsimp only [Pt.U, Pt.locs, Pt.cells, Pt.slots] at X4 l4 y4 z4 st4 hQ4
  subst l4 y4 z4
  obtain ⟨⟨b, rfl, zb, Ob⟩, N2, K2⟩ := hQ4
  have c4 : Sx p e b0 S0 T4 (mkF m 10 (a110 a r) [(.ref b)]) := c2.trans (qA X2 hx rfl (D 2 rfl) rfl rfl (st4))
  have Ea := Ea.keep K2
  have Fm := Fm.keep K2 nin0
  have Fs := Fs.keep K2 nin0
  have Fe := Fe.keep K2 nin0
  have X02 := X01.keep K2 all0
  have Er := Er.keep K2
  have hz1 : a < b := Nat.lt_of_lt_of_le (Nat.lt_of_lt_of_le hlt K1.1) zb
  have nba : b ≠ a := Ne.symm (Nat.ne_of_lt hz1)
  have zb0 : h0.size ≤ b := nT K1.1 zb
  have hKp := K1.trans K2 all0
  have El2 := El1.keep K2
  have Nf := Fr.app (Fr.app N0 N1) N2
  obtain ⟨⟨kb, Vb, Ovb⟩, Exb, hb1, hb2⟩ := id Ob
  obtain ⟨cz6, Az6, -, Sz6, Mz6, -, -⟩ := id Vb
  have c7 : Sx p e b0 S0 T4 (mkF m 14 (a101 a r b) [(.int J3), (.ref a)]) := by
    refine c4.trans ?_
    refine XS.astoreN X4.here hx rfl (D 4 rfl) rfl rfl (l' := (a101 a r b)) rfl ?_
    refine qA X4 hx rfl (D 5 rfl) rfl rfl ?_
    refine qA X4 hx rfl (D 6 rfl) rfl rfl ?_
    refine X4.arraylength hx Az6.1 (State.isArrayOf_alike hZ.alike Az6.2.1) (g := (mkF m 13 (a101 a r b) [(.ref b), (.ref a)])) rfl rfl (D 7 rfl) _ ?_
    rw [len_of Sz6 Mz6]
    exact Steps.refl _
  obtain ⟨T9, h9, X9, e9, W9, st9⟩ := putF X4 hx hZ hown (host := "") (Or.inl (Hw 202 rfl)) Via.refl rfl Fs Ea (Or.inl (Hw 203 rfl)) (Hw 115 rfl) (ty := .int) (by decide) rfl rfl (g := (mkF m 15 (a101 a r b) [(.int J3), (.ref a), (.int J3)])) rfl rfl (D 9 rfl)
  have c9 : Sx p e b0 S0 T9 (mkF m 18 (a101 a r b) [(.int J3)]) := c7.trans (XS.dupX1 X4.here hx rfl (D 8 rfl) rfl rfl rfl (st9 _ (Steps.refl _)))
  have Ea := Ea.wr W9
  have Fm := Fm.other W9 (own_sn (Or.inl (Hw 169 rfl)) (Or.inl (Hw 203 rfl)) .int .int)
  have Fs := Fs.same W9
  have Fe := Fe.other W9 (own_sn (Or.inl (Hw 214 rfl)) (Or.inl (Hw 203 rfl)) (.array (.object "java/lang/Object")) .int)
  have Nf := Fr.snoc X9 Nf ga
  have hKp := hKp.wr W9 (mI 0 rfl)
  have Ob := Ob.other W9 nba
  have X03 := X02.wr W9 ga
  have El3 := El2.keep (Keep.of_wr W9)
  have Er := Er.wr W9
  obtain ⟨T12, X12, e12, st12⟩ := own_gclsI X9 hx hZ hown (Hw 204 rfl) (Hw 184 rfl) (Hw 205 rfl) (Hw 206 rfl) (Hw 185 rfl) (Hw 187 rfl) (Hw 207 rfl) (Hw 208 rfl) (Hw 177 rfl) (by decide) (by decide) e9 Er EV.mn (g := (mkF m 22 (a101 a r b) [(.ref r)])) rfl hml.symm rfl (D 12 rfl) (by decide) (W := 0) (nE rfl) (by decide)
  have c12 : Sx p e b0 S0 T12 (mkF m 27 (a101 a r b) [(.ref gg.mn)]) := c9.trans (XS.ifNo X9.here hx rfl (D 10 rfl) rfl ((if0 _ _).trans (feq (by decide)).1) (qA X9 hx rfl (D 11 rfl) rfl rfl (st12 _ (Steps.refl _))))
  obtain ⟨T13, X13, e13, st13⟩ := own_ldcM X12 hx hZ hown (Hw 209 rfl) e12 EV.ma (g := (mkF m 27 (a101 a r b) [(.ref gg.mn)])) rfl (D 13 rfl)
  have c13 : Sx p e b0 S0 T13 (mkF m 29 (a101 a r b) [(.ref gg.ma), (.ref gg.mn)]) := c12.trans (st13 _ (Steps.refl _))
  by_cases hmm : gg.mn = gg.ma
  · have c14 : Sx p e b0 S0 T13 (mkF m 32 (a101 a r b) []) := by
      refine c13.trans ?_
      refine Jvm.RoadKit.acmp (g := (mkF m 29 (a101 a r b) [(.ref gg.ma), (.ref gg.mn)])) X13 hx rfl rfl rfl (pc0 := 29) (pc' := 32) (same := true) rfl (D 14 rfl) rfl (by simp [hmm]) (by decide) (by decide) ?_
      exact Steps.refl _
    obtain ⟨T16, h16, X16, e16, W16, st16⟩ := putF X13 hx hZ hown (host := "") (Or.inl (Hw 213 rfl)) Via.refl e13 Fe Ea (Or.inl (Hw 214 rfl)) (Hw 115 rfl) (ty := (.array (.object "java/lang/Object"))) (by decide) rfl rfl (g := (mkF m 34 (a101 a r b) [(.ref b), (.ref a)])) rfl rfl (D 17 rfl)
    have c16 : Sx p e b0 S0 T16 (mkF m 37 (a101 a r b) []) := c14.trans (qA X13 hx rfl (D 15 rfl) rfl rfl (qA X13 hx rfl (D 16 rfl) rfl rfl (st16 _ (Steps.refl _))))
    have Ea := Ea.wr W16
    have Fm := Fm.other W16 (own_sn (Or.inl (Hw 169 rfl)) (Or.inl (Hw 214 rfl)) .int (.array (.object "java/lang/Object")))
    have Fs := Fs.other W16 (own_sn (Or.inl (Hw 203 rfl)) (Or.inl (Hw 214 rfl)) .int (.array (.object "java/lang/Object")))
    have Fe := Fe.same W16
    obtain ⟨fs, hr, r1, r2, hW, r4⟩ := X16.leave (v := none) (fun _ => rfl)
    refine ⟨_, _, c16.trans ?_, r1, r2, _, _, rfl, ?_, ⟨_, rfl⟩, hW, r4.mono (by decide) (by decide)⟩
    · refine XS.goto X16.here hx rfl (pc0 := 37) (pc' := 64) rfl (D 18 rfl) (by decide) (by decide) ?_
      exact X16.returnOut hx hret (D 27 rfl) hr
    · show QK3 Z a r t x0 x1 x2 gg h0 n0 _ T16.heap _
      rw [e16]
      exact ⟨rfl, Fr.snoc X16 Nf ga, hKp.wr W16 (mI 0 rfl), b, zb0, Ea, Fm, Fs, Fe, Ob.other W16 nba⟩
  · have c18 : Sx p e b0 S0 T13 (mkF m 40 (a101 a r b) []) := by
      refine c13.trans ?_
      refine Jvm.RoadKit.acmp (g := (mkF m 29 (a101 a r b) [(.ref gg.ma), (.ref gg.mn)])) X13 hx rfl rfl rfl (pc0 := 29) (pc' := 40) (same := false) rfl (D 14 rfl) rfl (by simp [hmm]) (by decide) (by decide) ?_
      exact Steps.refl _
    obtain ⟨T20, X20, e20, st20⟩ := getF X13 hx hZ hown (host := "") (Or.inl (Hw 202 rfl)) Via.refl e13 Fs (g := (mkF m 43 (a101 a r b) [(.ref a), (.ref b), (.ref a)])) rfl rfl (D 22 rfl)
    have c20 : Sx p e b0 S0 T20 (mkF m 46 (a101 a r b) [(.int J3), (.ref b), (.ref a)]) := c18.trans (qA X13 hx rfl (D 19 rfl) rfl rfl (qA X13 hx rfl (D 20 rfl) rfl rfl (qA X13 hx rfl (D 21 rfl) rfl rfl (st20 _ (Steps.refl _)))))
    obtain ⟨T21, X21, e21, st21⟩ := own_ldcM X20 hx hZ hown (Hw 211 rfl) e20 EV.mo (g := (mkF m 46 (a101 a r b) [(.int J3), (.ref b), (.ref a)])) rfl (D 23 rfl)
    have c21 : Sx p e b0 S0 T21 (mkF m 48 (a101 a r b) [(.ref gg.mo), (.int J3), (.ref b), (.ref a)]) := c20.trans (st21 _ (Steps.refl _))
    obtain ⟨_, _, ⟨T22, L22, k22, n22⟩, -, X22, ⟨Lc22, hQ22, l22, y22, z22⟩, st22⟩ := Jvm.LawKit.callS X21 hx (y := yM14) hown (mvT hZ (Hw 212 rfl)) (mvT hZ (Hw 190 rfl)) (mvT hZ (Hw 181 rfl)) (mvT hZ (Hw 191 rfl)) (by decide) (backOf (W := 1) (rmC3 l Z a0 hw [] b [x0, x1, x2] 3 3 gg h9 n0 (nT Z0 hKp.1) EV X03 Ob El3 (Nat.le_of_ble_eq_true rfl) (by decide)) hZ (Hw 191 rfl) (Hw 181 rfl) (by decide) (by decide)) (g := (mkF m 48 (a101 a r b) [(.ref gg.mo), (.int J3), (.ref b), (.ref a)])) rfl hml.symm (argsL := [(.ref b), (.int J3), (.ref gg.mo)]) (rest := [(.ref a)]) (lenOf pd3 rfl) rfl (nE rfl) (D 24 rfl) (fun _ _ => ⟨rfl, e21, (by decide : 1 + 1 ≤ _), (by decide : 10 + 10 ≤ _)⟩)
    dsimp only [Pt.U, Pt.locs, Pt.cells, Pt.slots] at X22 l22 y22 z22 st22 hQ22
    subst l22 y22 z22
    obtain ⟨⟨b', rfl, zb', Ob'⟩, N3, K3⟩ := hQ22
    have c22 : Sx p e b0 S0 T22 (mkF m 51 (a101 a r b) [(.ref b'), (.ref a)]) := c21.trans (st22 _ (Steps.refl _))
    have Ea := Ea.keep K3
    have Fm := Fm.keep K3 nin0
    have Fs := Fs.keep K3 nin0
    have Fe := Fe.keep K3 nin0
    obtain ⟨T23, h23, X23, e23, W23, st23⟩ := putF X22 hx hZ hown (host := "") (Or.inl (Hw 213 rfl)) Via.refl rfl Fe Ea (Or.inl (Hw 214 rfl)) (Hw 115 rfl) (ty := (.array (.object "java/lang/Object"))) (by decide) rfl rfl (g := (mkF m 51 (a101 a r b) [(.ref b'), (.ref a)])) rfl rfl (D 25 rfl)
    have c23 : Sx p e b0 S0 T23 (mkF m 54 (a101 a r b) []) := c22.trans (st23 _ (Steps.refl _))
    have Ea := Ea.wr W23
    have Fm := Fm.other W23 (own_sn (Or.inl (Hw 169 rfl)) (Or.inl (Hw 214 rfl)) .int (.array (.object "java/lang/Object")))
    have Fs := Fs.other W23 (own_sn (Or.inl (Hw 203 rfl)) (Or.inl (Hw 214 rfl)) .int (.array (.object "java/lang/Object")))
    have Fe := Fe.same W23
    have nb' : b' ≠ a := Ne.symm (Nat.ne_of_lt (Nat.lt_of_lt_of_le (Nat.lt_of_lt_of_le hlt hKp.1) zb'))
    obtain ⟨fs, hr, r1, r2, hW, r4⟩ := X23.leave (v := none) (fun _ => rfl)
    refine ⟨_, _, c23.trans ?_, r1, r2, _, _, rfl, ?_, ⟨_, rfl⟩, hW, r4.mono (by decide) (by decide)⟩
    · refine XS.goto X23.here hx rfl (pc0 := 54) (pc' := 64) rfl (D 26 rfl) (by decide) (by decide) ?_
      exact X23.returnOut hx hret (D 27 rfl) hr
    · show QK3 Z a r t x0 x1 x2 gg h0 n0 _ T23.heap _
      rw [e23]
      exact ⟨rfl, Fr.snoc X23 (Fr.app Nf N3) ga, (hKp.trans K3 all0).wr W23 (mI 0 rfl), b', nT hKp.1 zb', Ea, Fm, Fs, Fe, Ob'.other W23 nb'⟩
def QK1 (Z : State) (a r u : Addr) (gg : own_G) (h0 : Heap) (n0 : Nat) (v : Option Value) (h : Heap) (L : List Loc) : Prop := v = none ∧ Fr n0 L ∧ Keep h0 h [a] ∧ ∃ ed : Addr, h0.size ≤ ed ∧ own_ALs Z h a ed [u] 1 0
theorem rmK1 (l : Launch) (Z : State) (a0 : Array Value) (hw : HW a0 Z) (ws : List Jvm.Cond) (a r u : Addr) (gg : own_G) (h0 : Heap) (n0 : Nat) (Z0 : n0 ≤ h0.size) (EV : own_Env Z gg) (X00 : Old Z n0 h0) (Ea : Exa Z h0 a "java/util/ArrayList") (Fm : Fld Z h0 a "java/util/AbstractList" "modCount" "I" (.int 0)) (Fs : Fld Z h0 a "java/util/ArrayList" "size" "I" (.int 0)) (Fe : Fld Z h0 a "java/util/ArrayList" "elementData" "[Ljava/lang/Object;" .null) (ga : n0 ≤ a) (Er : Exa Z h0 r "java/util/ImmutableCollections$List12") (F0 : Fld Z h0 r "java/util/ImmutableCollections$List12" "e0" "Ljava/lang/Object;" (.ref u)) (F1 : Fld Z h0 r "java/util/ImmutableCollections$List12" "e1" "Ljava/lang/Object;" (.ref gg.em)) (El : own_El Z h0 [u]) :
    own_M l yM41 jdk_38_method_3_code 3 none ws (rK 4 2 20 76) #[(.ref a), (.ref r)] Z h0 (QK1 Z a r u gg h0 n0) := by
  refine own_open (by decide +kernel) dB41 fun p e s m b0 meth c s₁ S0 hx D hby hml hown hnm hret hlk hZ X0 e0 c0 => ?_
  replace c0 : Sx p e b0 S0 s₁ (mkF m 0 (a110 a r) []) := c0
  have Hw := @own_Hw _ _ hw
  have N0 := Fr.nil n0
  have hlt := Ea.lt
  have nra : r ≠ a := Er.ne Ea (by decide)
  obtain ⟨_, _, ⟨T2, L2, k2, n2⟩, -, X2, ⟨Lc2, hQ2, l2, y2, z2⟩, st2⟩ := X0.specialBack hx (y := yM8) rfl hown (mvT hZ (Hw 160 rfl)) (mvT hZ (Hw 161 rfl)) (mvT hZ (Hw 165 rfl)) (by decide) (backOf (W := 0) (rmAb l Z a0 hw [] a h0 n0 Z0 Ea Fm Fs Fe ga) hZ (Hw 165 rfl) (Hw 164 rfl) (by decide) (by decide)) (g := (mkF m 1 (a110 a r) [(.ref a)])) rfl hml.symm (Steps.refl _) (a := a) (argsL := []) (rest := []) (lenOf pd0 rfl) rfl (nE rfl) (D 1 rfl) (fun _ _ => ⟨rfl, e0, (by decide : 0 + 0 ≤ _), (by decide : 0 + 0 ≤ _)⟩)
  dsimp only [Pt.U, Pt.locs, Pt.cells, Pt.slots] at X2 l2 y2 z2 st2 hQ2
  subst l2 y2 z2
  obtain ⟨rfl, N1, K1, Ea, Fm, Fs, Fe⟩ := hQ2
  have c2 : Sx p e b0 S0 T2 (mkF m 4 (a110 a r) []) := c0.trans (qA X0 hx rfl (D 0 rfl) rfl rfl (st2))
  have X01 := X00.keep K1 (allS ga all0)
  have Z1 := nT Z0 K1.1
  have El1 := El.keep K1
  have Er := Er.keep K1
  have F0 := F0.keep K1 (ninS nra nin0)
  have F1 := F1.keep K1 (ninS nra nin0)
  obtain ⟨cq4, kq4, q4a, q4b, q4c⟩ := isOf hZ rfl Er
  obtain ⟨_, _, ⟨T4, L4, k4, n4⟩, -, X4, ⟨Lc4, hQ4, l4, y4, z4⟩, st4⟩ := X2.interfaceBack hx (xi := yM42) (y := yM19) (C := "java/util/ImmutableCollections$List12") hown (mvT hZ (Hw 170 rfl)) (mvT hZ (Hw 171 rfl)) (mvT hZ (Hw 172 rfl)) (mvT hZ (Hw 467 rfl)) (mvT hZ (Hw 468 rfl)) (mvT hZ (Hw 469 rfl)) (mvT hZ (Hw 470 rfl)) (mvT hZ (Hw 471 rfl)) (by decide) (backOf (W := 0) (rmTt1 l Z a0 hw [] r u gg T2.heap n0 Z1 EV X01 Er F0 F1 (El1 u (by simp))) hZ (Hw 472 rfl) (Hw 452 rfl) (by decide) (by decide)) q4a q4b q4c (g := (mkF m 5 (a110 a r) [(.ref r)])) rfl hml.symm (Steps.refl _) (argsL := []) (rest := []) (lenOf pd13 rfl) rfl (nE rfl) (D 3 rfl) (fun _ _ => ⟨rfl, rfl, (by decide : 0 + 1 ≤ _), (by decide : 0 + 10 ≤ _)⟩)
  dsimp only [Pt.U, Pt.locs, Pt.cells, Pt.slots] at X4 l4 y4 z4 st4 hQ4
  subst l4 y4 z4
  obtain ⟨⟨b, rfl, zb, Ob⟩, N2, K2⟩ := hQ4
  have c4 : Sx p e b0 S0 T4 (mkF m 10 (a110 a r) [(.ref b)]) := c2.trans (qA X2 hx rfl (D 2 rfl) rfl rfl (st4))
  have Ea := Ea.keep K2
  have Fm := Fm.keep K2 nin0
  have Fs := Fs.keep K2 nin0
  have Fe := Fe.keep K2 nin0
  have X02 := X01.keep K2 all0
  have Er := Er.keep K2
  have hz1 : a < b := Nat.lt_of_lt_of_le (Nat.lt_of_lt_of_le hlt K1.1) zb
  have nba : b ≠ a := Ne.symm (Nat.ne_of_lt hz1)
  have zb0 : h0.size ≤ b := nT K1.1 zb
  have hKp := K1.trans K2 all0
  have El2 := El1.keep K2
  have Nf := Fr.app (Fr.app N0 N1) N2
  obtain ⟨⟨kb, Vb, Ovb⟩, Exb, hb1, hb2⟩ := id Ob
  obtain ⟨cz6, Az6, -, Sz6, Mz6, -, -⟩ := id Vb
  have c7 : Sx p e b0 S0 T4 (mkF m 14 (a101 a r b) [(.int J1), (.ref a)]) := by
    refine c4.trans ?_
    refine XS.astoreN X4.here hx rfl (D 4 rfl) rfl rfl (l' := (a101 a r b)) rfl ?_
    refine qA X4 hx rfl (D 5 rfl) rfl rfl ?_
    refine qA X4 hx rfl (D 6 rfl) rfl rfl ?_
    refine X4.arraylength hx Az6.1 (State.isArrayOf_alike hZ.alike Az6.2.1) (g := (mkF m 13 (a101 a r b) [(.ref b), (.ref a)])) rfl rfl (D 7 rfl) _ ?_
    rw [len_of Sz6 Mz6]
    exact Steps.refl _
  obtain ⟨T9, h9, X9, e9, W9, st9⟩ := putF X4 hx hZ hown (host := "") (Or.inl (Hw 202 rfl)) Via.refl rfl Fs Ea (Or.inl (Hw 203 rfl)) (Hw 115 rfl) (ty := .int) (by decide) rfl rfl (g := (mkF m 15 (a101 a r b) [(.int J1), (.ref a), (.int J1)])) rfl rfl (D 9 rfl)
  have c9 : Sx p e b0 S0 T9 (mkF m 18 (a101 a r b) [(.int J1)]) := c7.trans (XS.dupX1 X4.here hx rfl (D 8 rfl) rfl rfl rfl (st9 _ (Steps.refl _)))
  have Ea := Ea.wr W9
  have Fm := Fm.other W9 (own_sn (Or.inl (Hw 169 rfl)) (Or.inl (Hw 203 rfl)) .int .int)
  have Fs := Fs.same W9
  have Fe := Fe.other W9 (own_sn (Or.inl (Hw 214 rfl)) (Or.inl (Hw 203 rfl)) (.array (.object "java/lang/Object")) .int)
  have Nf := Fr.snoc X9 Nf ga
  have hKp := hKp.wr W9 (mI 0 rfl)
  have Ob := Ob.other W9 nba
  have X03 := X02.wr W9 ga
  have El3 := El2.keep (Keep.of_wr W9)
  have Er := Er.wr W9
  obtain ⟨T12, X12, e12, st12⟩ := own_gclsI X9 hx hZ hown (Hw 204 rfl) (Hw 184 rfl) (Hw 205 rfl) (Hw 474 rfl) (Hw 185 rfl) (Hw 187 rfl) (Hw 207 rfl) (Hw 475 rfl) (Hw 471 rfl) (by decide) (by decide) e9 Er EV.m2 (g := (mkF m 22 (a101 a r b) [(.ref r)])) rfl hml.symm rfl (D 12 rfl) (by decide) (W := 0) (nE rfl) (by decide)
  have c12 : Sx p e b0 S0 T12 (mkF m 27 (a101 a r b) [(.ref gg.m2)]) := c9.trans (XS.ifNo X9.here hx rfl (D 10 rfl) rfl ((if0 _ _).trans (feq (by decide)).1) (qA X9 hx rfl (D 11 rfl) rfl rfl (st12 _ (Steps.refl _))))
  obtain ⟨T13, X13, e13, st13⟩ := own_ldcM X12 hx hZ hown (Hw 209 rfl) e12 EV.ma (g := (mkF m 27 (a101 a r b) [(.ref gg.m2)])) rfl (D 13 rfl)
  have c13 : Sx p e b0 S0 T13 (mkF m 29 (a101 a r b) [(.ref gg.ma), (.ref gg.m2)]) := c12.trans (st13 _ (Steps.refl _))
  by_cases hmm : gg.m2 = gg.ma
  · have c14 : Sx p e b0 S0 T13 (mkF m 32 (a101 a r b) []) := by
      refine c13.trans ?_
      refine Jvm.RoadKit.acmp (g := (mkF m 29 (a101 a r b) [(.ref gg.ma), (.ref gg.m2)])) X13 hx rfl rfl rfl (pc0 := 29) (pc' := 32) (same := true) rfl (D 14 rfl) rfl (by simp [hmm]) (by decide) (by decide) ?_
      exact Steps.refl _
    obtain ⟨T16, h16, X16, e16, W16, st16⟩ := putF X13 hx hZ hown (host := "") (Or.inl (Hw 213 rfl)) Via.refl e13 Fe Ea (Or.inl (Hw 214 rfl)) (Hw 115 rfl) (ty := (.array (.object "java/lang/Object"))) (by decide) rfl rfl (g := (mkF m 34 (a101 a r b) [(.ref b), (.ref a)])) rfl rfl (D 17 rfl)
    have c16 : Sx p e b0 S0 T16 (mkF m 37 (a101 a r b) []) := c14.trans (qA X13 hx rfl (D 15 rfl) rfl rfl (qA X13 hx rfl (D 16 rfl) rfl rfl (st16 _ (Steps.refl _))))
    have Ea := Ea.wr W16
    have Fm := Fm.other W16 (own_sn (Or.inl (Hw 169 rfl)) (Or.inl (Hw 214 rfl)) .int (.array (.object "java/lang/Object")))
    have Fs := Fs.other W16 (own_sn (Or.inl (Hw 203 rfl)) (Or.inl (Hw 214 rfl)) .int (.array (.object "java/lang/Object")))
    have Fe := Fe.same W16
    obtain ⟨fs, hr, r1, r2, hW, r4⟩ := X16.leave (v := none) (fun _ => rfl)
    refine ⟨_, _, c16.trans ?_, r1, r2, _, _, rfl, ?_, ⟨_, rfl⟩, hW, r4.mono (by decide) (by decide)⟩
    · refine XS.goto X16.here hx rfl (pc0 := 37) (pc' := 64) rfl (D 18 rfl) (by decide) (by decide) ?_
      exact X16.returnOut hx hret (D 27 rfl) hr
    · show QK1 Z a r u gg h0 n0 _ T16.heap _
      rw [e16]
      exact ⟨rfl, Fr.snoc X16 Nf ga, hKp.wr W16 (mI 0 rfl), b, zb0, Ea, Fm, Fs, Fe, Ob.other W16 nba⟩
  · have c18 : Sx p e b0 S0 T13 (mkF m 40 (a101 a r b) []) := by
      refine c13.trans ?_
      refine Jvm.RoadKit.acmp (g := (mkF m 29 (a101 a r b) [(.ref gg.ma), (.ref gg.m2)])) X13 hx rfl rfl rfl (pc0 := 29) (pc' := 40) (same := false) rfl (D 14 rfl) rfl (by simp [hmm]) (by decide) (by decide) ?_
      exact Steps.refl _
    obtain ⟨T20, X20, e20, st20⟩ := getF X13 hx hZ hown (host := "") (Or.inl (Hw 202 rfl)) Via.refl e13 Fs (g := (mkF m 43 (a101 a r b) [(.ref a), (.ref b), (.ref a)])) rfl rfl (D 22 rfl)
    have c20 : Sx p e b0 S0 T20 (mkF m 46 (a101 a r b) [(.int J1), (.ref b), (.ref a)]) := c18.trans (qA X13 hx rfl (D 19 rfl) rfl rfl (qA X13 hx rfl (D 20 rfl) rfl rfl (qA X13 hx rfl (D 21 rfl) rfl rfl (st20 _ (Steps.refl _)))))
    obtain ⟨T21, X21, e21, st21⟩ := own_ldcM X20 hx hZ hown (Hw 211 rfl) e20 EV.mo (g := (mkF m 46 (a101 a r b) [(.int J1), (.ref b), (.ref a)])) rfl (D 23 rfl)
    have c21 : Sx p e b0 S0 T21 (mkF m 48 (a101 a r b) [(.ref gg.mo), (.int J1), (.ref b), (.ref a)]) := c20.trans (st21 _ (Steps.refl _))
    obtain ⟨_, _, ⟨T22, L22, k22, n22⟩, -, X22, ⟨Lc22, hQ22, l22, y22, z22⟩, st22⟩ := Jvm.LawKit.callS X21 hx (y := yM14) hown (mvT hZ (Hw 212 rfl)) (mvT hZ (Hw 190 rfl)) (mvT hZ (Hw 181 rfl)) (mvT hZ (Hw 191 rfl)) (by decide) (backOf (W := 1) (rmC3 l Z a0 hw [] b [u] 1 1 gg h9 n0 (nT Z0 hKp.1) EV X03 Ob El3 (Nat.le_of_ble_eq_true rfl) (by decide)) hZ (Hw 191 rfl) (Hw 181 rfl) (by decide) (by decide)) (g := (mkF m 48 (a101 a r b) [(.ref gg.mo), (.int J1), (.ref b), (.ref a)])) rfl hml.symm (argsL := [(.ref b), (.int J1), (.ref gg.mo)]) (rest := [(.ref a)]) (lenOf pd3 rfl) rfl (nE rfl) (D 24 rfl) (fun _ _ => ⟨rfl, e21, (by decide : 1 + 1 ≤ _), (by decide : 10 + 10 ≤ _)⟩)
    dsimp only [Pt.U, Pt.locs, Pt.cells, Pt.slots] at X22 l22 y22 z22 st22 hQ22
    subst l22 y22 z22
    obtain ⟨⟨b', rfl, zb', Ob'⟩, N3, K3⟩ := hQ22
    have c22 : Sx p e b0 S0 T22 (mkF m 51 (a101 a r b) [(.ref b'), (.ref a)]) := c21.trans (st22 _ (Steps.refl _))
    have Ea := Ea.keep K3
    have Fm := Fm.keep K3 nin0
    have Fs := Fs.keep K3 nin0
    have Fe := Fe.keep K3 nin0
    obtain ⟨T23, h23, X23, e23, W23, st23⟩ := putF X22 hx hZ hown (host := "") (Or.inl (Hw 213 rfl)) Via.refl rfl Fe Ea (Or.inl (Hw 214 rfl)) (Hw 115 rfl) (ty := (.array (.object "java/lang/Object"))) (by decide) rfl rfl (g := (mkF m 51 (a101 a r b) [(.ref b'), (.ref a)])) rfl rfl (D 25 rfl)
    have c23 : Sx p e b0 S0 T23 (mkF m 54 (a101 a r b) []) := c22.trans (st23 _ (Steps.refl _))
    have Ea := Ea.wr W23
    have Fm := Fm.other W23 (own_sn (Or.inl (Hw 169 rfl)) (Or.inl (Hw 214 rfl)) .int (.array (.object "java/lang/Object")))
    have Fs := Fs.other W23 (own_sn (Or.inl (Hw 203 rfl)) (Or.inl (Hw 214 rfl)) .int (.array (.object "java/lang/Object")))
    have Fe := Fe.same W23
    have nb' : b' ≠ a := Ne.symm (Nat.ne_of_lt (Nat.lt_of_lt_of_le (Nat.lt_of_lt_of_le hlt hKp.1) zb'))
    obtain ⟨fs, hr, r1, r2, hW, r4⟩ := X23.leave (v := none) (fun _ => rfl)
    refine ⟨_, _, c23.trans ?_, r1, r2, _, _, rfl, ?_, ⟨_, rfl⟩, hW, r4.mono (by decide) (by decide)⟩
    · refine XS.goto X23.here hx rfl (pc0 := 54) (pc' := 64) rfl (D 26 rfl) (by decide) (by decide) ?_
      exact X23.returnOut hx hret (D 27 rfl) hr
    · show QK1 Z a r u gg h0 n0 _ T23.heap _
      rw [e23]
      exact ⟨rfl, Fr.snoc X23 (Fr.app Nf N3) ga, (hKp.trans K3 all0).wr W23 (mI 0 rfl), b', nT hKp.1 zb', Ea, Fm, Fs, Fe, Ob'.other W23 nb'⟩
def QAa (Z : State) (a ed : Addr) (xs : List Addr) (N : Nat) (mc : Int32) (r : Addr) (ys : List Addr) (gg : own_G) (h0 : Heap) (n0 : Nat) (v : Option Value) (h : Heap) (L : List Loc) : Prop := (∃ z : Int32, v = some (.int z)) ∧ (∃ (ed' : Addr) (M : Nat) (mc' : Int32), own_ALs Z h a ed' (xs ++ ys) M mc' ∧ (ed' = ed ∨ h0.size ≤ ed')) ∧ Fr n0 L ∧ Keep h0 h [a]
theorem rmAa (l : Launch) (Z : State) (a0 : Array Value) (hw : HW a0 Z) (ws : List Jvm.Cond) (a ed : Addr) (xs : List Addr) (N : Nat) (mc : Int32) (r : Addr) (ys : List Addr) (gg : own_G) (h0 : Heap) (n0 : Nat) (Z0 : n0 ≤ h0.size) (EV : own_Env Z gg) (X00 : Old Z n0 h0) (A : own_ALs Z h0 a ed xs N mc) (hN : xs.length = N) (hp : 0 < N) (hN3 : N ≤ 3) (Lr : own_Lst Z gg h0 r ys) (hy2 : ys.length ≤ 2) (Ex : own_El Z h0 xs) (Ey : own_El Z h0 ys) (ga : n0 ≤ a) :
    own_M l yM43 jdk_38_method_41_code 6 (some .boolean) ws (rK 4 2 20 84) #[(.ref a), (.ref r)] Z h0 (QAa Z a ed xs N mc r ys gg h0 n0) := by
  refine own_open (by decide +kernel) dB42 fun p e s m b0 meth c s₁ S0 hx D hby hml hown hnm hret hlk hZ X0 e0 c0 => ?_
  replace c0 : Sx p e b0 S0 s₁ (mkF m 0 (a118 a r) []) := c0
  have Hw := @own_Hw _ _ hw
  have N0 := Fr.nil n0
  have Nf := N0
  have hlt := A.1.lt
  have c1 : Sx p e b0 S0 s₁ (mkF m 1 (a118 a r) [(.ref r)]) := c0.trans (qA X0 hx rfl (D 0 rfl) rfl rfl (Steps.refl _))
  obtain ⟨b2, T2, LL2, X2, z2, O2, Nf, K2, c2⟩ : ∃ (b : Addr) (T : State) (Lx : List Loc), Stand p l e (rK 4 2 20 84) s m #[(.ref a), (.ref r)] b0 meth c T Lx 1 10 ∧ h0.size ≤ b ∧ own_OA Z T.heap b ys ys.length ∧ Fr n0 Lx ∧ Keep h0 T.heap [] ∧ Sx p e b0 S0 T (mkF m 6 (a118 a r) [(.ref b)]) := by
    rcases Lr with ⟨Er, u, F0, ⟨hx1, F1⟩ | ⟨y, hx2, F1, hy⟩⟩ | ⟨Er, t, Fl, Fw, Ot⟩
    · subst hx1
      obtain ⟨cq3, kq3, q3a, q3b, q3c⟩ := isOf hZ e0 Er
      obtain ⟨_, _, ⟨T3, L3, k3, n3⟩, -, X3, ⟨Lc3, hQ3, l3, y3, z3⟩, st3⟩ := X0.interfaceBack hx (xi := yM42) (y := yM19) (C := "java/util/ImmutableCollections$List12") hown (mvT hZ (Hw 170 rfl)) (mvT hZ (Hw 171 rfl)) (mvT hZ (Hw 172 rfl)) (mvT hZ (Hw 467 rfl)) (mvT hZ (Hw 468 rfl)) (mvT hZ (Hw 469 rfl)) (mvT hZ (Hw 470 rfl)) (mvT hZ (Hw 471 rfl)) (by decide) (backOf (W := 0) (rmTt1 l Z a0 hw [] r u gg h0 n0 Z0 EV X00 Er F0 F1 (Ey u (by simp))) hZ (Hw 472 rfl) (Hw 452 rfl) (by decide) (by decide)) q3a q3b q3c (g := (mkF m 1 (a118 a r) [(.ref r)])) rfl hml.symm (Steps.refl _) (argsL := []) (rest := []) (lenOf pd13 rfl) rfl (nE rfl) (D 1 rfl) (fun _ _ => ⟨rfl, e0, (by decide : 0 + 1 ≤ _), (by decide : 0 + 10 ≤ _)⟩)
      dsimp only [Pt.U, Pt.locs, Pt.cells, Pt.slots] at X3 l3 y3 z3 st3 hQ3
      subst l3 y3 z3
      obtain ⟨⟨b, rfl, zb, Ob⟩, N1, K1⟩ := hQ3
      have c3 : Sx p e b0 S0 T3 (mkF m 6 (a118 a r) [(.ref b)]) := c1.trans st3
      exact ⟨b, _, _, X3, zb, Ob, Fr.app Nf N1, K1, c3⟩
    · subst hx2
      obtain ⟨cq4, kq4, q4a, q4b, q4c⟩ := isOf hZ e0 Er
      obtain ⟨_, _, ⟨T4, L4, k4, n4⟩, -, X4, ⟨Lc4, hQ4, l4, y4, z4⟩, st4⟩ := X0.interfaceBack hx (xi := yM42) (y := yM19) (C := "java/util/ImmutableCollections$List12") hown (mvT hZ (Hw 170 rfl)) (mvT hZ (Hw 171 rfl)) (mvT hZ (Hw 172 rfl)) (mvT hZ (Hw 467 rfl)) (mvT hZ (Hw 468 rfl)) (mvT hZ (Hw 469 rfl)) (mvT hZ (Hw 470 rfl)) (mvT hZ (Hw 471 rfl)) (by decide) (backOf (W := 0) (rmTt2 l Z a0 hw [] r u y gg h0 n0 Z0 EV X00 Er F0 F1 hy (Ey u (by simp)) (Ey y (by simp))) hZ (Hw 472 rfl) (Hw 452 rfl) (by decide) (by decide)) q4a q4b q4c (g := (mkF m 1 (a118 a r) [(.ref r)])) rfl hml.symm (Steps.refl _) (argsL := []) (rest := []) (lenOf pd13 rfl) rfl (nE rfl) (D 1 rfl) (fun _ _ => ⟨rfl, e0, (by decide : 0 + 1 ≤ _), (by decide : 0 + 10 ≤ _)⟩)
      dsimp only [Pt.U, Pt.locs, Pt.cells, Pt.slots] at X4 l4 y4 z4 st4 hQ4
      subst l4 y4 z4
      obtain ⟨⟨b, rfl, zb, Ob⟩, N1, K1⟩ := hQ4
      have c4 : Sx p e b0 S0 T4 (mkF m 6 (a118 a r) [(.ref b)]) := c1.trans st4
      exact ⟨b, _, _, X4, zb, Ob, Fr.app Nf N1, K1, c4⟩
    · have := Er
      obtain ⟨cq5, kq5, q5a, q5b, q5c⟩ := isOf hZ e0 Er
      obtain ⟨_, _, ⟨T5, L5, k5, n5⟩, -, X5, ⟨Lc5, hQ5, l5, y5, z5⟩, st5⟩ := X0.interfaceBack hx (xi := yM42) (y := yM16) (C := "java/util/ImmutableCollections$ListN") hown (mvT hZ (Hw 170 rfl)) (mvT hZ (Hw 171 rfl)) (mvT hZ (Hw 172 rfl)) (mvT hZ (Hw 173 rfl)) (mvT hZ (Hw 174 rfl)) (mvT hZ (Hw 175 rfl)) (mvT hZ (Hw 176 rfl)) (mvT hZ (Hw 177 rfl)) (by decide) (backOf (W := 0) (rmNt l Z a0 hw [] r t ys gg h0 n0 Z0 EV X00 Fl Ot Ey (nT hy2 (by decide))) hZ (Hw 178 rfl) (Hw 131 rfl) (by decide) (by decide)) q5a q5b q5c (g := (mkF m 1 (a118 a r) [(.ref r)])) rfl hml.symm (Steps.refl _) (argsL := []) (rest := []) (lenOf pd13 rfl) rfl (nE rfl) (D 1 rfl) (fun _ _ => ⟨rfl, e0, (by decide : 0 + 1 ≤ _), (by decide : 0 + 10 ≤ _)⟩)
      dsimp only [Pt.U, Pt.locs, Pt.cells, Pt.slots] at X5 l5 y5 z5 st5 hQ5
      subst l5 y5 z5
      obtain ⟨⟨b, rfl, zb, Ob⟩, N1, K1⟩ := hQ5
      have c5 : Sx p e b0 S0 T5 (mkF m 6 (a118 a r) [(.ref b)]) := c1.trans st5
      exact ⟨b, _, _, X5, zb, Ob, Fr.app Nf N1, K1, c5⟩
  obtain ⟨Ea, Fm, Fs, Fe, Oe⟩ := A.keep0 K2
  have nba : b2 ≠ a := Ne.symm (Nat.ne_of_lt (Nat.lt_of_lt_of_le hlt z2))
  have X01 := X00.keep K2 all0
  have Ob := O2
  have hKp := own_Kmono K2 (ws' := [a]) all0
  have nea : ed ≠ a := Oe.2.1.ne Ea (by decide)
  obtain ⟨T7, X7, e7, st7⟩ := getF X2 hx hZ hown (host := "") (Or.inl (Hw 220 rfl)) (Via.of (Hw 221 rfl)) rfl Fm (g := (mkF m 9 (a119 a r b2) [(.ref a), (.ref a)])) rfl rfl (D 5 rfl)
  have c7 : Sx p e b0 S0 T7 (mkF m 12 (a119 a r b2) [(.int mc), (.ref a)]) := c2.trans (XS.astoreN X2.here hx rfl (D 2 rfl) rfl rfl (l' := (a119 a r b2)) rfl (qA X2 hx rfl (D 3 rfl) rfl rfl (XS.dup X2.here hx rfl (D 4 rfl) rfl rfl (st7 _ (Steps.refl _)))))
  obtain ⟨T9, h9, X9, e9, W9, st9⟩ := putF X7 hx hZ hown (host := "") (Or.inl (Hw 220 rfl)) (Via.of (Hw 221 rfl)) e7 Fm Ea (Or.inl (Hw 169 rfl)) (Hw 115 rfl) (ty := .int) (by decide) rfl rfl (g := (mkF m 14 (a119 a r b2) [(.int (mc + J1)), (.ref a)])) rfl rfl (D 8 rfl)
  have c9 : Sx p e b0 S0 T9 (mkF m 17 (a119 a r b2) []) := c7.trans (qc X7 hx rfl (D 6 rfl) (XS.iadd X7.here hx rfl (D 7 rfl) rfl (st9 _ (Steps.refl _))))
  have Ea := Ea.wr W9
  have Fm := Fm.same W9
  have Fs := Fs.other W9 (own_sn (Or.inl (Hw 203 rfl)) (Or.inl (Hw 169 rfl)) .int .int)
  have Fe := Fe.other W9 (own_sn (Or.inl (Hw 214 rfl)) (Or.inl (Hw 169 rfl)) (.array (.object "java/lang/Object")) .int)
  have Nf := Fr.snoc X9 Nf ga
  have hKp := hKp.wr W9 (mI 0 rfl)
  have Ob := Ob.other W9 nba
  have Oe := Oe.other W9 nea
  have X02 := X01.wr W9 ga
  have Ex := (Ex.keep K2).keep (Keep.of_wr W9)
  have Ey := (Ey.keep K2).keep (Keep.of_wr W9)
  obtain ⟨⟨kb, Vb, Ovb⟩, Exb, hb1, hb2⟩ := id Ob
  obtain ⟨⟨ke, Ve, Ove⟩, Exe, he1, he2⟩ := id Oe
  obtain ⟨cz11, Az11, -, Sz11, Mz11, -, -⟩ := id Vb
  have c12 : Sx p e b0 S0 T9 (mkF m 19 (a119 a r b2) [(.int (Int32.ofNat ys.length))]) := by
    refine c9.trans ?_
    refine qA X9 hx rfl (D 9 rfl) rfl rfl ?_
    refine X9.arraylength hx (by rw [e9]; exact Az11.1) (State.isArrayOf_alike hZ.alike Az11.2.1) (g := (mkF m 18 (a119 a r b2) [(.ref b2)])) rfl rfl (D 10 rfl) _ ?_
    rw [len_of Sz11 Mz11]
    exact Steps.refl _
  have c13 : Sx p e b0 S0 T9 (mkF m 21 (a120 a r b2 (Int32.ofNat ys.length)) [(.int (Int32.ofNat ys.length))]) := c12.trans (XS.istoreN X9.here hx rfl (D 11 rfl) rfl (l' := (a120 a r b2 (Int32.ofNat ys.length))) rfl (qI X9 hx rfl (D 12 rfl) rfl (Steps.refl _)))
  by_cases hy0 : ys.length = 0
  · have c14 : Sx p e b0 S0 T9 (mkF m 24 (a120 a r b2 (Int32.ofNat ys.length)) []) := by
      refine c13.trans ?_
      refine XS.ifNo X9.here hx rfl (D 13 rfl) rfl ((if0 _ _).trans (teq (by rw [hy0]; rfl)).2) ?_
      exact Steps.refl _
    obtain ⟨fs, hr, r1, r2, hW, r4⟩ := X9.leave (v := some (.int 0)) (nV hret)
    refine ⟨_, _, c14.trans ?_, r1, r2, _, _, rfl, ?_, ⟨_, rfl⟩, hW, r4.mono (by decide) (by decide)⟩
    · refine qc X9 hx rfl (D 14 rfl) ?_
      exact retN X9 hx (t := .boolean) hret (by simp) (D 15 rfl) hr
    · show QAa Z a ed xs N mc r ys gg h0 n0 _ T9.heap _
      rw [e9]
      exact ⟨⟨_, rfl⟩, ⟨ed, N, mc + 1, by rw [List.length_eq_zero_iff.mp hy0, List.append_nil]; exact ⟨Ea, Fm, Fs, Fe, Oe⟩, Or.inl rfl⟩, Nf, hKp⟩
  · have c16 : Sx p e b0 S0 T9 (mkF m 26 (a120 a r b2 (Int32.ofNat ys.length)) []) := by
      refine c13.trans ?_
      refine XS.ifYes X9.here hx rfl (pc0 := 21) (pc' := 26) rfl (D 13 rfl) rfl ((if0 _ _).trans (feq (fun q => hy0 ((own_eqn (b := 0) (by omega) (by omega)).mp q))).2) (by decide) (by decide) ?_
      exact Steps.refl _
    obtain ⟨T18, X18, e18, st18⟩ := getF X9 hx hZ hown (host := "") (Or.inl (Hw 213 rfl)) Via.refl e9 Fe (g := (mkF m 28 (a120 a r b2 (Int32.ofNat ys.length)) [(.ref a), (.int (Int32.ofNat ys.length))])) rfl rfl (D 18 rfl)
    have c18 : Sx p e b0 S0 T18 (mkF m 31 (a120 a r b2 (Int32.ofNat ys.length)) [(.ref ed), (.int (Int32.ofNat ys.length))]) := c16.trans (qI X9 hx rfl (D 16 rfl) rfl (qA X9 hx rfl (D 17 rfl) rfl rfl (st18 _ (Steps.refl _))))
    obtain ⟨cz20, Az20, -, Sz20, Mz20, -, -⟩ := id Ve
    have c21 : Sx p e b0 S0 T18 (mkF m 35 (a121 a r b2 (Int32.ofNat ys.length) ed) [(.int (Int32.ofNat N)), (.int (Int32.ofNat ys.length))]) := by
      refine c18.trans ?_
      refine XS.dup X18.here hx rfl (D 19 rfl) rfl rfl ?_
      refine XS.astore X18.here hx rfl (D 20 rfl) rfl rfl (l' := (a121 a r b2 (Int32.ofNat ys.length) ed)) rfl ?_
      refine X18.arraylength hx (by rw [e18]; exact Az20.1) (State.isArrayOf_alike hZ.alike Az20.2.1) (g := (mkF m 34 (a121 a r b2 (Int32.ofNat ys.length) ed) [(.ref ed), (.int (Int32.ofNat ys.length))])) rfl rfl (D 21 rfl) _ ?_
      rw [len_of Sz20 Mz20]
      exact Steps.refl _
    obtain ⟨T23, X23, e23, st23⟩ := getF X18 hx hZ hown (host := "") (Or.inl (Hw 202 rfl)) Via.refl e18 Fs (g := (mkF m 36 (a121 a r b2 (Int32.ofNat ys.length) ed) [(.ref a), (.int (Int32.ofNat N)), (.int (Int32.ofNat ys.length))])) rfl rfl (D 23 rfl)
    have c23 : Sx p e b0 S0 T23 (mkF m 39 (a121 a r b2 (Int32.ofNat ys.length) ed) [(.int (Int32.ofNat xs.length)), (.int (Int32.ofNat N)), (.int (Int32.ofNat ys.length))]) := c21.trans (qA X18 hx rfl (D 22 rfl) rfl rfl (st23 _ (Steps.refl _)))
    have c24 : Sx p e b0 S0 T23 (mkF m 43 (a122 a r b2 (Int32.ofNat ys.length) ed (Int32.ofNat xs.length)) [(.int ((Int32.ofNat N) - (Int32.ofNat xs.length))), (.int (Int32.ofNat ys.length))]) := c23.trans (XS.dup X23.here hx rfl (D 24 rfl) rfl rfl (XS.istore X23.here hx rfl (D 25 rfl) rfl (l' := (a122 a r b2 (Int32.ofNat ys.length) ed (Int32.ofNat xs.length))) rfl (XS.isub X23.here hx rfl (D 26 rfl) rfl (Steps.refl _))))
    rw [own_subn (a := N) (b := xs.length) (by omega) (by omega)] at c24
    have c26 : Sx p e b0 S0 T23 (mkF m 51 (a122 a r b2 (Int32.ofNat ys.length) ed (Int32.ofNat xs.length)) [(.int ((Int32.ofNat xs.length) + (Int32.ofNat ys.length))), (.ref a)]) := c24.trans (XS.icmpNo X23.here hx rfl (D 27 rfl) rfl (tlt ((own_ltn (by omega) (by omega)).mpr (by omega))).2.2.2 (qA X23 hx rfl (D 28 rfl) rfl rfl (qi X23 hx rfl (D 29 rfl) rfl (qI X23 hx rfl (D 30 rfl) rfl (XS.iadd X23.here hx rfl (D 31 rfl) rfl (Steps.refl _))))))
    rw [own_addn (a := xs.length) (b := ys.length) (by omega)] at c26
    obtain ⟨cq27, q27, q27'⟩ := (Ea).cell
    obtain ⟨_, _, ⟨T27, L27, k27, n27⟩, -, X27, ⟨Lc27, hQ27, l27, y27, z27⟩, st27⟩ := X23.privateBack hx (y := yM37) hown (mvT hZ (Hw 407 rfl)) (mvT hZ (Hw 408 rfl)) (mvT hZ (own_selself (Hw 410 rfl) (Hw 409 rfl) (Hw 408 rfl) (by decide))) (Cond.privateMethod_at (mvP hZ (Hw 409 rfl) (args := #[]))) (mvT hZ (Hw 411 rfl)) (by decide) (backOf (W := 0) (rmGf l Z a0 hw [] a ed xs N (mc + 1) (xs.length + ys.length) gg h9 n0 (nT Z0 hKp.1) EV X02 ⟨Ea, Fm, Fs, Fe, Oe⟩ Ex hp hN3 (by omega) (by omega) ga) hZ (Hw 411 rfl) (Hw 116 rfl) (by decide) (by decide)) (g := (mkF m 51 (a122 a r b2 (Int32.ofNat ys.length) ed (Int32.ofNat xs.length)) [(.int (Int32.ofNat (xs.length + ys.length))), (.ref a)])) rfl hml.symm (Steps.refl _) (a := a) (by rw [e23]; exact q27) q27' (argsL := [(.int (Int32.ofNat (xs.length + ys.length)))]) (rest := []) (lenOf pd12 rfl) rfl (nE rfl) (D 32 rfl) (fun _ _ => ⟨rfl, e23, (by decide : 1 + 1 ≤ _), (by decide : 10 + 10 ≤ _)⟩)
    dsimp only [Pt.U, Pt.locs, Pt.cells, Pt.slots] at X27 l27 y27 z27 st27 hQ27
    subst l27 y27 z27
    obtain ⟨⟨e2, M, rfl, ze, hM1, hM2, Ag⟩, N3, K3⟩ := hQ27
    have c27 : Sx p e b0 S0 T27 (mkF m 54 (a122 a r b2 (Int32.ofNat ys.length) ed (Int32.ofNat xs.length)) [(.ref e2)]) := c26.trans st27
    obtain ⟨Ea, Fm, Fs, Fe, Og⟩ := id Ag
    obtain ⟨⟨kg, Vg, Ovg⟩, Exg, -, -⟩ := id Og
    have Vb := Vb.keep K3 (ninS nba nin0)
    have ze0 : h0.size ≤ e2 := nT hKp.1 ze
    have ge : n0 ≤ e2 := nT Z0 ze0
    have hKp := hKp.trans K3 (fun x hx => Or.inl hx)
    have Ey := Ey.keep K3
    have Nf := Fr.app Nf N3
    have Vd : Arv Z _ e2 kg (.object own_OB) (Int32.ofNat M) (xs.map Value.ref ++ List.replicate ys.length .null) .null := Vg.pad (pad_rep _ .null ys.length)
    have zx := own_nat (n := xs.length) (by omega)
    have zy := own_nat (n := ys.length) (by omega)
    have zM := own_nat (n := M) (by omega)
    have z0 : J0.toNatClampNeg = 0 := rfl
    have hlm : (ys.map Value.ref).length = ys.length := List.length_map _
    have hlx : (xs.map Value.ref).length = xs.length := List.length_map _
    have nea2 : e2 ≠ a := Exg.ne Ea (by decide)
    obtain ⟨T29, h29, L29, X29, e29, N29, K29, V29, st29⟩ := cpA X27 hx hZ hown (Hw 531 rfl) (Hw 201 rfl) (Hw 199 rfl) (Hw 200 rfl) rfl (us := ys.map Value.ref) Vb Vd (Or.inr ⟨rfl, rfl, by simpa using own_stol Vd Ovg ys 0 Ey⟩) (by decide) (own_nn (by omega)) (own_nn (by omega)) (by rw [z0, zy]; omega) (by rw [zx, zy, zM]; exact hM1) (by rw [z0, zy, ← hlm]; exact (own_rangeget _ _).symm) (by rw [zx, zy]; simp) Nf ge (g := (mkF m 63 (a122 a r b2 (Int32.ofNat ys.length) e2 (Int32.ofNat xs.length)) [(.int (Int32.ofNat ys.length)), (.int (Int32.ofNat xs.length)), (.ref e2), (.int J0), (.ref b2)])) rfl hml.symm rfl (D 39 rfl) (by decide) (W := 0) (nE rfl) (by decide)
    have c29 : Sx p e b0 S0 T29 (mkF m 66 (a122 a r b2 (Int32.ofNat ys.length) e2 (Int32.ofNat xs.length)) []) := c27.trans (XS.astore X27.here hx rfl (D 33 rfl) rfl rfl (l' := (a122 a r b2 (Int32.ofNat ys.length) e2 (Int32.ofNat xs.length))) rfl (qA X27 hx rfl (D 34 rfl) rfl rfl (qc X27 hx rfl (D 35 rfl) (qa X27 hx rfl (D 36 rfl) rfl rfl (qi X27 hx rfl (D 37 rfl) rfl (qI X27 hx rfl (D 38 rfl) rfl (st29 _ (Steps.refl _))))))))
    have Vf : Arv Z h29 e2 kg (.object own_OB) (Int32.ofNat M) ((xs ++ ys).map Value.ref) .null := by
      have := V29
      rw [zx, zy, List.take_left' hlx, List.drop_of_length_le (by simp), List.append_nil, ← List.map_append] at this
      exact this
    have Ea := Ea.keep K29
    have Fm := Fm.keep K29 (ninS (Ne.symm nea2) nin0)
    have Fs := Fs.keep K29 (ninS (Ne.symm nea2) nin0)
    have Fe := Fe.keep K29 (ninS (Ne.symm nea2) nin0)
    have c30 : Sx p e b0 S0 T29 (mkF m 71 (a122 a r b2 (Int32.ofNat ys.length) e2 (Int32.ofNat xs.length)) [(.int ((Int32.ofNat xs.length) + (Int32.ofNat ys.length))), (.ref a)]) := c29.trans (qA X29 hx rfl (D 40 rfl) rfl rfl (qi X29 hx rfl (D 41 rfl) rfl (qI X29 hx rfl (D 42 rfl) rfl (XS.iadd X29.here hx rfl (D 43 rfl) rfl (Steps.refl _)))))
    rw [own_addn (a := xs.length) (b := ys.length) (by omega), ← List.length_append] at c30
    obtain ⟨T31, h31, X31, e31, W31, st31⟩ := putF X29 hx hZ hown (host := "") (Or.inl (Hw 202 rfl)) Via.refl e29 Fs Ea (Or.inl (Hw 203 rfl)) (Hw 115 rfl) (ty := .int) (by decide) rfl rfl (g := (mkF m 71 (a122 a r b2 (Int32.ofNat ys.length) e2 (Int32.ofNat xs.length)) [(.int (Int32.ofNat (xs ++ ys).length)), (.ref a)])) rfl rfl (D 44 rfl)
    have c31 : Sx p e b0 S0 T31 (mkF m 74 (a122 a r b2 (Int32.ofNat ys.length) e2 (Int32.ofNat xs.length)) []) := c30.trans (st31 _ (Steps.refl _))
    have Ea := Ea.wr W31
    have Fm := Fm.other W31 (own_sn (Or.inl (Hw 169 rfl)) (Or.inl (Hw 203 rfl)) .int .int)
    have Fs := Fs.same W31
    have Fe := Fe.other W31 (own_sn (Or.inl (Hw 214 rfl)) (Or.inl (Hw 203 rfl)) (.array (.object "java/lang/Object")) .int)
    obtain ⟨fs, hr, r1, r2, hW, r4⟩ := X31.leave (v := some (.int 1)) (nV hret)
    refine ⟨_, _, c31.trans ?_, r1, r2, _, _, rfl, ?_, ⟨_, rfl⟩, hW, r4.mono (by decide) (by decide)⟩
    · refine qc X31 hx rfl (D 45 rfl) ?_
      exact retN X31 hx (t := .boolean) hret (by simp) (D 46 rfl) hr
    · show QAa Z a ed xs N mc r ys gg h0 n0 _ T31.heap _
      rw [e31]
      exact ⟨⟨_, rfl⟩, ⟨e2, M, mc + 1, ⟨Ea, Fm, Fs, Fe, ⟨_, Vf.other W31 nea2, Ovg⟩, (Exg.keep K29).wr W31, by rw [List.length_append]; omega, by omega⟩, Or.inr ze0⟩, Fr.snoc X31 N29 ga, (hKp.trans K29 (fun x hx => by cases List.mem_singleton.mp hx; exact Or.inr ze0)).wr W31 (mI 0 rfl)⟩
def QI0 (Z : State) (t a : Addr) (mc : Int32) (h0 : Heap) (n0 : Nat) (v : Option Value) (h : Heap) (L : List Loc) : Prop := v = none ∧ Fr n0 L ∧ Keep h0 h [t] ∧ own_It Z h t a 0 mc
theorem rmI0 (l : Launch) (Z : State) (a0 : Array Value) (hw : HW a0 Z) (ws : List Jvm.Cond) (t a : Addr) (mc : Int32) (h0 : Heap) (n0 : Nat) (Z0 : n0 ≤ h0.size) (Et : Exa Z h0 t "java/util/ArrayList$Itr") (Ft : Fld Z h0 t "java/util/ArrayList$Itr" "this$0" "Ljava/util/ArrayList;" .null) (Fc : Fld Z h0 t "java/util/ArrayList$Itr" "cursor" "I" (.int 0)) (Fl : Fld Z h0 t "java/util/ArrayList$Itr" "lastRet" "I" (.int 0)) (Fx : Fld Z h0 t "java/util/ArrayList$Itr" "expectedModCount" "I" (.int 0)) (Fm : Fld Z h0 a "java/util/AbstractList" "modCount" "I" (.int mc)) (nat : a ≠ t) (gt : n0 ≤ t) :
    own_M l yM44 jdk_49_method_1_code 2 none ws (rK 1 0 0 12) #[(.ref t), (.ref a)] Z h0 (QI0 Z t a mc h0 n0) := by
  refine own_open (by decide +kernel) dB43 fun p e s m b0 meth c s₁ S0 hx D hby hml hown hnm hret hlk hZ X0 e0 c0 => ?_
  replace c0 : Sx p e b0 S0 s₁ (mkF m 0 #[vR t, vR a] []) := c0
  have Hw := @own_Hw _ _ hw
  have N0 := Fr.nil n0
  have Nf := N0
  have hKp := Keep.refl h0 [t]
  obtain ⟨T2, h2, X2, e2, W2, st2⟩ := putF X0 hx hZ hown (host := "") (Or.inl (Hw 267 rfl)) Via.refl e0 Ft Et (Or.inr ⟨(Hw 268 rfl), rfl, hnm⟩) (Hw 261 rfl) (ty := (.object "java/util/ArrayList")) (by decide) rfl rfl (g := (mkF m 2 #[vR t, vR a] [(.ref a), (.ref t)])) rfl rfl (D 2 rfl)
  have c2 : Sx p e b0 S0 T2 (mkF m 5 #[vR t, vR a] []) := c0.trans (qA X0 hx rfl (D 0 rfl) rfl rfl (qA X0 hx rfl (D 1 rfl) rfl rfl (st2 _ (Steps.refl _))))
  have Et := Et.wr W2
  have Ft := Ft.same W2
  have Fc := Fc.other W2 (own_sn (Or.inl (Hw 285 rfl)) (Or.inr (Hw 268 rfl)) .int (.object "java/util/ArrayList"))
  have Fl := Fl.other W2 (own_sn (Or.inl (Hw 271 rfl)) (Or.inr (Hw 268 rfl)) .int (.object "java/util/ArrayList"))
  have Fx := Fx.other W2 (own_sn (Or.inl (Hw 274 rfl)) (Or.inr (Hw 268 rfl)) .int (.object "java/util/ArrayList"))
  have Nf := Fr.snoc X2 Nf gt
  have hKp := hKp.wr W2 (mI 0 rfl)
  have Fm := Fm.other W2 (Or.inl nat)
  obtain ⟨T4, X4, e4, st4⟩ := initO X2 hx hZ hown (Hw 269 rfl) (Hw 25 rfl) (Hw 26 rfl) e2 (g := (mkF m 6 #[vR t, vR a] [(.ref t)])) rfl hml.symm rfl (D 4 rfl) (by decide) (W := 0) (nE rfl) (by decide)
  have c4 : Sx p e b0 S0 T4 (mkF m 9 #[vR t, vR a] []) := c2.trans (qA X2 hx rfl (D 3 rfl) rfl rfl (st4 _ (Steps.refl _)))
  obtain ⟨T6, h6, X6, e6, W6, st6⟩ := putF X4 hx hZ hown (host := "") (Or.inl (Hw 270 rfl)) Via.refl e4 Fl Et (Or.inl (Hw 271 rfl)) (Hw 261 rfl) (ty := .int) (by decide) rfl rfl (g := (mkF m 11 #[vR t, vR a] [(.int (-1 : Int32)), (.ref t)])) rfl rfl (D 7 rfl)
  have c6 : Sx p e b0 S0 T6 (mkF m 14 #[vR t, vR a] []) := c4.trans (qA X4 hx rfl (D 5 rfl) rfl rfl (qc X4 hx rfl (D 6 rfl) (st6 _ (Steps.refl _))))
  have Et := Et.wr W6
  have Ft := Ft.other W6 (own_sn (Or.inr (Hw 268 rfl)) (Or.inl (Hw 271 rfl)) (.object "java/util/ArrayList") .int)
  have Fc := Fc.other W6 (own_sn (Or.inl (Hw 285 rfl)) (Or.inl (Hw 271 rfl)) .int .int)
  have Fl := Fl.same W6
  have Fx := Fx.other W6 (own_sn (Or.inl (Hw 274 rfl)) (Or.inl (Hw 271 rfl)) .int .int)
  have Nf := Fr.snoc X6 Nf gt
  have hKp := hKp.wr W6 (mI 0 rfl)
  have Fm := Fm.other W6 (Or.inl nat)
  obtain ⟨T8, X8, e8, st8⟩ := getF X6 hx hZ hown (host := "") (Or.inl (Hw 267 rfl)) Via.refl e6 Ft (g := (mkF m 16 #[vR t, vR a] [(.ref t), (.ref t)])) rfl rfl (D 10 rfl)
  have c8 : Sx p e b0 S0 T8 (mkF m 19 #[vR t, vR a] [(.ref a), (.ref t)]) := c6.trans (qA X6 hx rfl (D 8 rfl) rfl rfl (qA X6 hx rfl (D 9 rfl) rfl rfl (st8 _ (Steps.refl _))))
  obtain ⟨T9, X9, e9, st9⟩ := getF X8 hx hZ hown (host := "") (Or.inl (Hw 272 rfl)) (Via.of (Hw 221 rfl)) e8 Fm (g := (mkF m 19 #[vR t, vR a] [(.ref a), (.ref t)])) rfl rfl (D 11 rfl)
  have c9 : Sx p e b0 S0 T9 (mkF m 22 #[vR t, vR a] [(.int mc), (.ref t)]) := c8.trans (st9 _ (Steps.refl _))
  obtain ⟨T10, h10, X10, e10, W10, st10⟩ := putF X9 hx hZ hown (host := "") (Or.inl (Hw 273 rfl)) Via.refl e9 Fx Et (Or.inl (Hw 274 rfl)) (Hw 261 rfl) (ty := .int) (by decide) rfl rfl (g := (mkF m 22 #[vR t, vR a] [(.int mc), (.ref t)])) rfl rfl (D 12 rfl)
  have c10 : Sx p e b0 S0 T10 (mkF m 25 #[vR t, vR a] []) := c9.trans (st10 _ (Steps.refl _))
  have Et := Et.wr W10
  have Ft := Ft.other W10 (own_sn (Or.inr (Hw 268 rfl)) (Or.inl (Hw 274 rfl)) (.object "java/util/ArrayList") .int)
  have Fc := Fc.other W10 (own_sn (Or.inl (Hw 285 rfl)) (Or.inl (Hw 274 rfl)) .int .int)
  have Fl := Fl.other W10 (own_sn (Or.inl (Hw 271 rfl)) (Or.inl (Hw 274 rfl)) .int .int)
  have Fx := Fx.same W10
  have Nf := Fr.snoc X10 Nf gt
  have hKp := hKp.wr W10 (mI 0 rfl)
  have Fm := Fm.other W10 (Or.inl nat)
  obtain ⟨fs, hr, r1, r2, hW, r4⟩ := X10.leave (v := none) (fun _ => rfl)
  refine ⟨_, _, c10.trans ?_, r1, r2, _, _, rfl, ?_, ⟨_, rfl⟩, hW, r4.mono (by decide) (by decide)⟩
  · exact X10.returnOut hx hret (D 13 rfl) hr
  · show QI0 Z t a mc h0 n0 _ T10.heap _
    rw [e10]
    exact ⟨rfl, Nf, hKp, Et, Ft, Fc, ⟨_, Fl⟩, Fx⟩
def QI1 (Z : State) (a ed : Addr) (xs : List Addr) (N : Nat) (mc : Int32) (h0 : Heap) (n0 : Nat) (v : Option Value) (h : Heap) (L : List Loc) : Prop := (∃ t : Addr, v = some (.ref t) ∧ h0.size ≤ t ∧ own_It Z h t a 0 mc) ∧ Fr n0 L ∧ Keep h0 h []
theorem rmI1 (l : Launch) (Z : State) (a0 : Array Value) (hw : HW a0 Z) (ws : List Jvm.Cond) (a ed : Addr) (xs : List Addr) (N : Nat) (mc : Int32) (h0 : Heap) (n0 : Nat) (Z0 : n0 ≤ h0.size) (A : own_ALs Z h0 a ed xs N mc) :
    own_M l yM45 jdk_38_method_55_code 1 (some (.object "java/util/Iterator")) ws (rK 2 1 4 30) #[(.ref a)] Z h0 (QI1 Z a ed xs N mc h0 n0) := by
  refine own_open (by decide +kernel) dB44 fun p e s m b0 meth c s₁ S0 hx D hby hml hown hnm hret hlk hZ X0 e0 c0 => ?_
  replace c0 : Sx p e b0 S0 s₁ (mkF m 0 #[vR a] []) := c0
  have Hw := @own_Hw _ _ hw
  have N0 := Fr.nil n0
  obtain ⟨T1, h1, X1, e1, E1, A1, D1, -, st1⟩ := newO X0 hx hZ hown (Hw 260 rfl) (Hw 261 rfl) (Hw 262 rfl) e0 (g := (mkF m 0 #[vR a] [])) rfl (D 0 rfl) (by decide) (by decide)
  obtain ⟨b1, g1⟩ : ∃ z, z = h0.size := ⟨_, rfl⟩
  rw [← g1] at A1 D1 st1
  have c1 : Sx p e b0 S0 T1 (mkF m 3 #[vR a] [(.ref b1)]) := c0.trans (st1 _ (Steps.refl _))
  have Et := A1
  have Ft : Fld Z h1 b1 "java/util/ArrayList$Itr" "this$0" "Ljava/util/ArrayList;" .null := D1 (Or.inr (Hw 268 rfl)) (ty := (.object "java/util/ArrayList")) (by decide)
  have Fc : Fld Z h1 b1 "java/util/ArrayList$Itr" "cursor" "I" (.int 0) := D1 (Or.inl (Hw 285 rfl)) (ty := .int) (by decide)
  have Fl : Fld Z h1 b1 "java/util/ArrayList$Itr" "lastRet" "I" (.int 0) := D1 (Or.inl (Hw 271 rfl)) (ty := .int) (by decide)
  have Fx : Fld Z h1 b1 "java/util/ArrayList$Itr" "expectedModCount" "I" (.int 0) := D1 (Or.inl (Hw 274 rfl)) (ty := .int) (by decide)
  have z1 : h0.size ≤ b1 := nE g1.symm
  have n1b : n0 ≤ b1 := nT Z0 z1
  obtain ⟨_, _, ⟨T3, L3, k3, n3⟩, -, X3, ⟨Lc3, hQ3, l3, y3, z3⟩, st3⟩ := X1.specialBack hx (y := yM44) rfl hown (mvT hZ (Hw 263 rfl)) (mvT hZ (Hw 264 rfl)) (mvT hZ (Hw 266 rfl)) (by decide) (backOf (W := 1) (rmI0 l Z a0 hw [] b1 a mc h1 n0 (nT Z0 E1.1) Et Ft Fc Fl Fx (A.2.1.ext E1) (Nat.ne_of_lt (Nat.lt_of_lt_of_le A.1.lt z1)) n1b) hZ (Hw 266 rfl) (Hw 262 rfl) (by decide) (by decide)) (g := (mkF m 5 #[vR a] [(.ref a), (.ref b1), (.ref b1)])) rfl hml.symm (Steps.refl _) (a := b1) (argsL := [(.ref a)]) (rest := [(.ref b1)]) (lenOf pd15 rfl) rfl (nE rfl) (D 3 rfl) (fun _ _ => ⟨rfl, e1, (by decide : 1 + 0 ≤ _), (by decide : 4 + 0 ≤ _)⟩)
  dsimp only [Pt.U, Pt.locs, Pt.cells, Pt.slots] at X3 l3 y3 z3 st3 hQ3
  subst l3 y3 z3
  obtain ⟨rfl, N1, K1, D1⟩ := hQ3
  have c3 : Sx p e b0 S0 T3 (mkF m 8 #[vR a] [(.ref b1)]) := c1.trans (XS.dup X1.here hx rfl (D 1 rfl) rfl rfl (qA X1 hx rfl (D 2 rfl) rfl rfl (st3)))
  obtain ⟨fs, hr, r1, r2, hW, r4⟩ := X3.leave (v := some (.ref b1)) (nV hret)
  refine ⟨_, _, c3.trans ?_, r1, r2, _, _, rfl, ?_, ⟨_, rfl⟩, hW, r4.mono (by decide) (by decide)⟩
  · exact retA X3 hx hret rfl rfl (D 4 rfl) hr
  · show QI1 Z a ed xs N mc h0 n0 _ T3.heap _
    exact ⟨⟨_, rfl, z1, D1⟩, Fr.app N0 N1, ((Keep.refl h0 []).ext E1).trans K1 (fun x hx => by cases List.mem_singleton.mp hx; exact Or.inr z1)⟩
def QH1 (Z : State) (t a ed : Addr) (xs : List Addr) (N : Nat) (mc : Int32) (i : Nat) (h0 : Heap) (n0 : Nat) (v : Option Value) (h : Heap) (L : List Loc) : Prop := v = some (.int 1) ∧ Fr n0 L ∧ h = h0
theorem rmH1 (l : Launch) (Z : State) (a0 : Array Value) (hw : HW a0 Z) (ws : List Jvm.Cond) (t a ed : Addr) (xs : List Addr) (N : Nat) (mc : Int32) (i : Nat) (h0 : Heap) (n0 : Nat) (Z0 : n0 ≤ h0.size) (I : own_It Z h0 t a i mc) (A : own_ALs Z h0 a ed xs N mc) (hi : i < xs.length) :
    own_M l yM46 jdk_49_method_2_code 1 (some .boolean) ws (rK 0 0 0 0) #[(.ref t)] Z h0 (QH1 Z t a ed xs N mc i h0 n0) := by
  refine own_open (by decide +kernel) dB45 fun p e s m b0 meth c s₁ S0 hx D hby hml hown hnm hret hlk hZ X0 e0 c0 => ?_
  replace c0 : Sx p e b0 S0 s₁ (mkF m 0 #[vR t] []) := c0
  have Hw := @own_Hw _ _ hw
  have N0 := Fr.nil n0
  have hN := A.2.2.2.2.2.2
  obtain ⟨T2, X2, e2, st2⟩ := getF X0 hx hZ hown (host := "") (Or.inl (Hw 284 rfl)) Via.refl e0 I.2.2.1 (g := (mkF m 1 #[vR t] [(.ref t)])) rfl rfl (D 1 rfl)
  have c2 : Sx p e b0 S0 T2 (mkF m 4 #[vR t] [(.int (Int32.ofNat i))]) := c0.trans (qA X0 hx rfl (D 0 rfl) rfl rfl (st2 _ (Steps.refl _)))
  obtain ⟨T4, X4, e4, st4⟩ := getF X2 hx hZ hown (host := "") (Or.inl (Hw 267 rfl)) Via.refl e2 I.2.1 (g := (mkF m 5 #[vR t] [(.ref t), (.int (Int32.ofNat i))])) rfl rfl (D 3 rfl)
  have c4 : Sx p e b0 S0 T4 (mkF m 8 #[vR t] [(.ref a), (.int (Int32.ofNat i))]) := c2.trans (qA X2 hx rfl (D 2 rfl) rfl rfl (st4 _ (Steps.refl _)))
  obtain ⟨T5, X5, e5, st5⟩ := getF X4 hx hZ hown (Or.inr (Hw 286 rfl)) Via.refl e4 A.2.2.1 (g := (mkF m 8 #[vR t] [(.ref a), (.int (Int32.ofNat i))])) rfl rfl (D 4 rfl)
  have c5 : Sx p e b0 S0 T5 (mkF m 11 #[vR t] [(.int (Int32.ofNat xs.length)), (.int (Int32.ofNat i))]) := c4.trans (st5 _ (Steps.refl _))
  obtain ⟨fs, hr, r1, r2, hW, r4⟩ := X5.leave (v := some (.int 1)) (nV hret)
  refine ⟨_, _, c5.trans ?_, r1, r2, _, _, rfl, ?_, ⟨_, rfl⟩, hW, r4.mono (by decide) (by decide)⟩
  · refine XS.icmpNo X5.here hx rfl (D 5 rfl) rfl (feq (fun q => by have := (own_eqn (by omega) (by omega)).mp q; omega)).1 ?_
    refine qc X5 hx rfl (D 6 rfl) ?_
    refine XS.goto X5.here hx rfl (pc0 := 15) (pc' := 19) rfl (D 7 rfl) (by decide) (by decide) ?_
    exact retN X5 hx (t := .boolean) hret (by simp) (D 9 rfl) hr
  · show QH1 Z t a ed xs N mc i h0 n0 _ T5.heap _
    rw [e5]
    exact ⟨rfl, N0, rfl⟩
def QH0 (Z : State) (t a ed : Addr) (xs : List Addr) (N : Nat) (mc : Int32) (i : Nat) (h0 : Heap) (n0 : Nat) (v : Option Value) (h : Heap) (L : List Loc) : Prop := v = some (.int 0) ∧ Fr n0 L ∧ h = h0
theorem rmH0 (l : Launch) (Z : State) (a0 : Array Value) (hw : HW a0 Z) (ws : List Jvm.Cond) (t a ed : Addr) (xs : List Addr) (N : Nat) (mc : Int32) (i : Nat) (h0 : Heap) (n0 : Nat) (Z0 : n0 ≤ h0.size) (I : own_It Z h0 t a i mc) (A : own_ALs Z h0 a ed xs N mc) (hi : i = xs.length) :
    own_M l yM46 jdk_49_method_2_code 1 (some .boolean) ws (rK 0 0 0 0) #[(.ref t)] Z h0 (QH0 Z t a ed xs N mc i h0 n0) := by
  refine own_open (by decide +kernel) dB45 fun p e s m b0 meth c s₁ S0 hx D hby hml hown hnm hret hlk hZ X0 e0 c0 => ?_
  replace c0 : Sx p e b0 S0 s₁ (mkF m 0 #[vR t] []) := c0
  have Hw := @own_Hw _ _ hw
  have N0 := Fr.nil n0
  have hN := A.2.2.2.2.2.2
  obtain ⟨T2, X2, e2, st2⟩ := getF X0 hx hZ hown (host := "") (Or.inl (Hw 284 rfl)) Via.refl e0 I.2.2.1 (g := (mkF m 1 #[vR t] [(.ref t)])) rfl rfl (D 1 rfl)
  have c2 : Sx p e b0 S0 T2 (mkF m 4 #[vR t] [(.int (Int32.ofNat i))]) := c0.trans (qA X0 hx rfl (D 0 rfl) rfl rfl (st2 _ (Steps.refl _)))
  obtain ⟨T4, X4, e4, st4⟩ := getF X2 hx hZ hown (host := "") (Or.inl (Hw 267 rfl)) Via.refl e2 I.2.1 (g := (mkF m 5 #[vR t] [(.ref t), (.int (Int32.ofNat i))])) rfl rfl (D 3 rfl)
  have c4 : Sx p e b0 S0 T4 (mkF m 8 #[vR t] [(.ref a), (.int (Int32.ofNat i))]) := c2.trans (qA X2 hx rfl (D 2 rfl) rfl rfl (st4 _ (Steps.refl _)))
  obtain ⟨T5, X5, e5, st5⟩ := getF X4 hx hZ hown (Or.inr (Hw 286 rfl)) Via.refl e4 A.2.2.1 (g := (mkF m 8 #[vR t] [(.ref a), (.int (Int32.ofNat i))])) rfl rfl (D 4 rfl)
  have c5 : Sx p e b0 S0 T5 (mkF m 11 #[vR t] [(.int (Int32.ofNat xs.length)), (.int (Int32.ofNat i))]) := c4.trans (st5 _ (Steps.refl _))
  obtain ⟨fs, hr, r1, r2, hW, r4⟩ := X5.leave (v := some (.int 0)) (nV hret)
  refine ⟨_, _, c5.trans ?_, r1, r2, _, _, rfl, ?_, ⟨_, rfl⟩, hW, r4.mono (by decide) (by decide)⟩
  · refine XS.icmpYes X5.here hx rfl (pc0 := 11) (pc' := 18) rfl (D 5 rfl) rfl (teq ((own_eqn (by omega) (by omega)).mpr hi)).1 (by decide) (by decide) ?_
    refine qc X5 hx rfl (D 8 rfl) ?_
    exact retN X5 hx (t := .boolean) hret (by simp) (D 9 rfl) hr
  · show QH0 Z t a ed xs N mc i h0 n0 _ T5.heap _
    rw [e5]
    exact ⟨rfl, N0, rfl⟩
def QCm (Z : State) (t a ed : Addr) (xs : List Addr) (N : Nat) (mc : Int32) (i : Nat) (h0 : Heap) (n0 : Nat) (v : Option Value) (h : Heap) (L : List Loc) : Prop := v = none ∧ Fr n0 L ∧ h = h0
theorem rmCm (l : Launch) (Z : State) (a0 : Array Value) (hw : HW a0 Z) (ws : List Jvm.Cond) (t a ed : Addr) (xs : List Addr) (N : Nat) (mc : Int32) (i : Nat) (h0 : Heap) (n0 : Nat) (Z0 : n0 ≤ h0.size) (I : own_It Z h0 t a i mc) (A : own_ALs Z h0 a ed xs N mc) :
    own_M l yM47 jdk_49_method_6_code 1 none ws (rK 0 0 0 0) #[(.ref t)] Z h0 (QCm Z t a ed xs N mc i h0 n0) := by
  refine own_open (by decide +kernel) dB46 fun p e s m b0 meth c s₁ S0 hx D hby hml hown hnm hret hlk hZ X0 e0 c0 => ?_
  replace c0 : Sx p e b0 S0 s₁ (mkF m 0 #[vR t] []) := c0
  have Hw := @own_Hw _ _ hw
  have N0 := Fr.nil n0
  obtain ⟨T2, X2, e2, st2⟩ := getF X0 hx hZ hown (host := "") (Or.inl (Hw 267 rfl)) Via.refl e0 I.2.1 (g := (mkF m 1 #[vR t] [(.ref t)])) rfl rfl (D 1 rfl)
  have c2 : Sx p e b0 S0 T2 (mkF m 4 #[vR t] [(.ref a)]) := c0.trans (qA X0 hx rfl (D 0 rfl) rfl rfl (st2 _ (Steps.refl _)))
  obtain ⟨T3, X3, e3, st3⟩ := getF X2 hx hZ hown (host := "") (Or.inl (Hw 272 rfl)) (Via.of (Hw 221 rfl)) e2 A.2.1 (g := (mkF m 4 #[vR t] [(.ref a)])) rfl rfl (D 2 rfl)
  have c3 : Sx p e b0 S0 T3 (mkF m 7 #[vR t] [(.int mc)]) := c2.trans (st3 _ (Steps.refl _))
  obtain ⟨T5, X5, e5, st5⟩ := getF X3 hx hZ hown (host := "") (Or.inl (Hw 273 rfl)) Via.refl e3 I.2.2.2.2 (g := (mkF m 8 #[vR t] [(.ref t), (.int mc)])) rfl rfl (D 4 rfl)
  have c5 : Sx p e b0 S0 T5 (mkF m 11 #[vR t] [(.int mc), (.int mc)]) := c3.trans (qA X3 hx rfl (D 3 rfl) rfl rfl (st5 _ (Steps.refl _)))
  obtain ⟨fs, hr, r1, r2, hW, r4⟩ := X5.leave (v := none) (fun _ => rfl)
  refine ⟨_, _, c5.trans ?_, r1, r2, _, _, rfl, ?_, ⟨_, rfl⟩, hW, r4.mono (by decide) (by decide)⟩
  · refine XS.icmpYes X5.here hx rfl (pc0 := 11) (pc' := 22) rfl (D 5 rfl) rfl (teq rfl).1 (by decide) (by decide) ?_
    exact X5.returnOut hx hret (D 6 rfl) hr
  · show QCm Z t a ed xs N mc i h0 n0 _ T5.heap _
    rw [e5]
    exact ⟨rfl, N0, rfl⟩
def QNx (Z : State) (t a ed : Addr) (xs : List Addr) (N : Nat) (mc : Int32) (i : Nat) (u : Addr) (h0 : Heap) (n0 : Nat) (v : Option Value) (h : Heap) (L : List Loc) : Prop := v = some (.ref u) ∧ Fr n0 L ∧ Keep h0 h [t] ∧ own_It Z h t a (i + 1) mc
theorem rmNx (l : Launch) (Z : State) (a0 : Array Value) (hw : HW a0 Z) (ws : List Jvm.Cond) (t a ed : Addr) (xs : List Addr) (N : Nat) (mc : Int32) (i : Nat) (u : Addr) (h0 : Heap) (n0 : Nat) (Z0 : n0 ≤ h0.size) (I : own_It Z h0 t a i mc) (A : own_ALs Z h0 a ed xs N mc) (hi : xs[i]? = some u) (gt : n0 ≤ t) (nte : ed ≠ t) (nta : a ≠ t) :
    own_M l yM48 jdk_49_method_3_code 3 (some (.object "java/lang/Object")) ws (rK 1 0 0 12) #[(.ref t)] Z h0 (QNx Z t a ed xs N mc i u h0 n0) := by
  refine own_open (by decide +kernel) dB47 fun p e s m b0 meth c s₁ S0 hx D hby hml hown hnm hret hlk hZ X0 e0 c0 => ?_
  replace c0 : Sx p e b0 S0 s₁ (mkF m 0 (a109 t) []) := c0
  have Hw := @own_Hw _ _ hw
  have N0 := Fr.nil n0
  have hlt : i < xs.length := (List.getElem?_eq_some_iff.mp hi).1
  obtain ⟨Ea, Fm, Fs, Fe, ⟨kt, Vt, Ot⟩, -, hxN, hN⟩ := id A
  obtain ⟨Et, Ft, Fc, ⟨lr, Fl⟩, Fx⟩ := id I
  obtain ⟨cq2, kq2, q2a, q2b, q2c⟩ := isOf hZ e0 Et
  obtain ⟨_, _, ⟨T2, L2, k2, n2⟩, -, X2, ⟨Lc2, hQ2, l2, y2, z2⟩, st2⟩ := X0.virtualBack hx (y := yM47) (z := yM47) hown (mvT hZ (Hw 295 rfl)) (mvT hZ (Hw 296 rfl)) (notFace_of_selects (args := #[]) (mvT hZ (Hw 298 rfl))) (mvT hZ (Hw 298 rfl)) (mvT hZ (Hw 297 rfl)) (by decide) (backOf (W := 0) (rmCm l Z a0 hw [] t a ed xs N mc i h0 n0 Z0 I A) hZ (Hw 299 rfl) (Hw 262 rfl) (by decide) (by decide)) q2a q2c (g := (mkF m 1 (a109 t) [(.ref t)])) rfl hml.symm (Steps.refl _) (argsL := []) (rest := []) (lenOf pd0 rfl) rfl (nE rfl) (D 1 rfl) (fun _ _ => ⟨rfl, e0, (by decide : 0 + 0 ≤ _), (by decide : 0 + 0 ≤ _)⟩)
  dsimp only [Pt.U, Pt.locs, Pt.cells, Pt.slots] at X2 l2 y2 z2 st2 hQ2
  subst l2 y2 z2
  obtain ⟨rfl, N1, e1⟩ := hQ2
  have c2 : Sx p e b0 S0 T2 (mkF m 4 (a109 t) []) := c0.trans (qA X0 hx rfl (D 0 rfl) rfl rfl (st2))
  obtain ⟨T4, X4, e4, st4⟩ := getF X2 hx hZ hown (host := "") (Or.inl (Hw 284 rfl)) Via.refl e1 Fc (g := (mkF m 5 (a109 t) [(.ref t)])) rfl rfl (D 3 rfl)
  have c4 : Sx p e b0 S0 T4 (mkF m 8 (a109 t) [(.int (Int32.ofNat i))]) := c2.trans (qA X2 hx rfl (D 2 rfl) rfl rfl (st4 _ (Steps.refl _)))
  obtain ⟨T6, X6, e6, st6⟩ := getF X4 hx hZ hown (host := "") (Or.inl (Hw 267 rfl)) Via.refl e4 Ft (g := (mkF m 11 (a123 t (Int32.ofNat i)) [(.ref t), (.int (Int32.ofNat i))])) rfl rfl (D 7 rfl)
  have c6 : Sx p e b0 S0 T6 (mkF m 14 (a123 t (Int32.ofNat i)) [(.ref a), (.int (Int32.ofNat i))]) := c4.trans (XS.istoreN X4.here hx rfl (D 4 rfl) rfl (l' := (a123 t (Int32.ofNat i))) rfl (qI X4 hx rfl (D 5 rfl) rfl (qA X4 hx rfl (D 6 rfl) rfl rfl (st6 _ (Steps.refl _)))))
  obtain ⟨T7, X7, e7, st7⟩ := getF X6 hx hZ hown (Or.inr (Hw 286 rfl)) Via.refl e6 Fs (g := (mkF m 14 (a123 t (Int32.ofNat i)) [(.ref a), (.int (Int32.ofNat i))])) rfl rfl (D 8 rfl)
  have c7 : Sx p e b0 S0 T7 (mkF m 17 (a123 t (Int32.ofNat i)) [(.int (Int32.ofNat xs.length)), (.int (Int32.ofNat i))]) := c6.trans (st7 _ (Steps.refl _))
  obtain ⟨T10, X10, e10, st10⟩ := getF X7 hx hZ hown (host := "") (Or.inl (Hw 267 rfl)) Via.refl e7 Ft (g := (mkF m 29 (a123 t (Int32.ofNat i)) [(.ref t)])) rfl rfl (D 11 rfl)
  have c10 : Sx p e b0 S0 T10 (mkF m 32 (a123 t (Int32.ofNat i)) [(.ref a)]) := c7.trans (XS.icmpYes X7.here hx rfl (pc0 := 17) (pc' := 28) rfl (D 9 rfl) rfl (tlt ((own_ltn (by omega) (by omega)).mpr hlt)).1 (by decide) (by decide) (qA X7 hx rfl (D 10 rfl) rfl rfl (st10 _ (Steps.refl _))))
  obtain ⟨T11, X11, e11, st11⟩ := getF X10 hx hZ hown (host := "") (Or.inl (Hw 300 rfl)) Via.refl e10 Fe (g := (mkF m 32 (a123 t (Int32.ofNat i)) [(.ref a)])) rfl rfl (D 12 rfl)
  have c11 : Sx p e b0 S0 T11 (mkF m 35 (a123 t (Int32.ofNat i)) [(.ref ed)]) := c10.trans (st11 _ (Steps.refl _))
  obtain ⟨cz13, Az13, -, Sz13, Mz13, -, -⟩ := id Vt
  have c14 : Sx p e b0 S0 T11 (mkF m 39 (a124 t (Int32.ofNat i) ed) [(.int (Int32.ofNat N)), (.int (Int32.ofNat i))]) := by
    refine c11.trans ?_
    refine XS.astoreN X11.here hx rfl (D 13 rfl) rfl rfl (l' := (a124 t (Int32.ofNat i) ed)) rfl ?_
    refine qI X11 hx rfl (D 14 rfl) rfl ?_
    refine qA X11 hx rfl (D 15 rfl) rfl rfl ?_
    refine X11.arraylength hx (by rw [e11]; exact Az13.1) (State.isArrayOf_alike hZ.alike Az13.2.1) (g := (mkF m 38 (a124 t (Int32.ofNat i) ed) [(.ref ed), (.int (Int32.ofNat i))])) rfl rfl (D 16 rfl) _ ?_
    rw [len_of Sz13 Mz13]
    exact Steps.refl _
  have c16 : Sx p e b0 S0 T11 (mkF m 54 (a124 t (Int32.ofNat i) ed) [(.int ((Int32.ofNat i) + J1)), (.ref t)]) := c14.trans (XS.icmpYes X11.here hx rfl (pc0 := 39) (pc' := 50) rfl (D 17 rfl) rfl (tlt ((own_ltn (by omega) (by omega)).mpr (by omega))).1 (by decide) (by decide) (qA X11 hx rfl (D 18 rfl) rfl rfl (qI X11 hx rfl (D 19 rfl) rfl (qc X11 hx rfl (D 20 rfl) (XS.iadd X11.here hx rfl (D 21 rfl) rfl (Steps.refl _))))))
  rw [show Int32.ofNat i + J1 = Int32.ofNat (i + 1) from own_addn (b := 1) (by omega)] at c16
  obtain ⟨T17, h17, X17, e17, W17, st17⟩ := putF X11 hx hZ hown (host := "") (Or.inl (Hw 284 rfl)) Via.refl e11 Fc Et (Or.inl (Hw 285 rfl)) (Hw 261 rfl) (ty := .int) (by decide) rfl rfl (g := (mkF m 54 (a124 t (Int32.ofNat i) ed) [(.int (Int32.ofNat (i + 1))), (.ref t)])) rfl rfl (D 22 rfl)
  have c17 : Sx p e b0 S0 T17 (mkF m 57 (a124 t (Int32.ofNat i) ed) []) := c16.trans (st17 _ (Steps.refl _))
  have Et := Et.wr W17
  have Ft := Ft.other W17 (own_sn (Or.inr (Hw 268 rfl)) (Or.inl (Hw 285 rfl)) (.object "java/util/ArrayList") .int)
  have Fc := Fc.same W17
  have Fl := Fl.other W17 (own_sn (Or.inl (Hw 271 rfl)) (Or.inl (Hw 285 rfl)) .int .int)
  have Fx := Fx.other W17 (own_sn (Or.inl (Hw 274 rfl)) (Or.inl (Hw 285 rfl)) .int .int)
  have Nf := Fr.snoc X17 (Fr.app N0 N1) gt
  have hKp := (Keep.refl h0 [t]).wr W17 (mI 0 rfl)
  have Vt := Vt.other W17 nte
  obtain ⟨T19, h19, X19, e19, W19, st19⟩ := putF X17 hx hZ hown (host := "") (Or.inl (Hw 270 rfl)) Via.refl e17 Fl Et (Or.inl (Hw 271 rfl)) (Hw 261 rfl) (ty := .int) (by decide) rfl rfl (g := (mkF m 61 (a124 t (Int32.ofNat i) ed) [(.int (Int32.ofNat i)), (.ref t), (.int (Int32.ofNat i)), (.ref ed)])) rfl rfl (D 27 rfl)
  have c19 : Sx p e b0 S0 T19 (mkF m 64 (a124 t (Int32.ofNat i) ed) [(.int (Int32.ofNat i)), (.ref ed)]) := c17.trans (qA X17 hx rfl (D 23 rfl) rfl rfl (qA X17 hx rfl (D 24 rfl) rfl rfl (qI X17 hx rfl (D 25 rfl) rfl (XS.dupX1 X17.here hx rfl (D 26 rfl) rfl rfl rfl (st19 _ (Steps.refl _))))))
  have Et := Et.wr W19
  have Ft := Ft.other W19 (own_sn (Or.inr (Hw 268 rfl)) (Or.inl (Hw 271 rfl)) (.object "java/util/ArrayList") .int)
  have Fc := Fc.other W19 (own_sn (Or.inl (Hw 285 rfl)) (Or.inl (Hw 271 rfl)) .int .int)
  have Fl := Fl.same W19
  have Fx := Fx.other W19 (own_sn (Or.inl (Hw 274 rfl)) (Or.inl (Hw 271 rfl)) .int .int)
  have Nf := Fr.snoc X19 Nf gt
  have hKp := hKp.wr W19 (mI 0 rfl)
  have Vt := Vt.other W19 nte
  obtain ⟨cl20, Ar20, in20, hv20⟩ := own_ld (N := N) Vt (by omega) (i := i) (by omega) (j := (Int32.ofNat i)) rfl (v := (.ref u)) (own_get hi)
  obtain ⟨fs, hr, r1, r2, hW, r4⟩ := X19.leave (v := some (.ref u)) (nV hret)
  refine ⟨_, _, c19.trans ?_, r1, r2, _, _, rfl, ?_, ⟨_, rfl⟩, hW, r4.mono (by decide) (by decide)⟩
  · refine X19.aaload hx (j := (Int32.ofNat i)) (by rw [e19]; exact Ar20.1) (State.isArrayOf_alike hZ.alike Ar20.2.1) rfl Ar20.2.2 in20 hv20 (g := (mkF m 64 (a124 t (Int32.ofNat i) ed) [(.int (Int32.ofNat i)), (.ref ed)])) rfl rfl (D 28 rfl) _ ?_
    exact retA X19 hx hret rfl rfl (D 29 rfl) hr
  · show QNx Z t a ed xs N mc i u h0 n0 _ T19.heap _
    rw [e19]
    exact ⟨rfl, Nf, hKp, Et, Ft, Fc, ⟨_, Fl⟩, Fx⟩
def QZ5 (Z : State) (b t : Addr) (kb kt : ClassId) (tg ch : Nat) (h0 : Heap) (n0 : Nat) (v : Option Value) (h : Heap) (L : List Loc) : Prop := v = some (.int 2) ∧ Fr n0 L ∧ Keep h0 h [t] ∧ Arv Z h t kt .byte J2 (own_b2 tg ch) (.int 0)
theorem rmZ5 (l : Launch) (Z : State) (a0 : Array Value) (hw : HW a0 Z) (ws : List Jvm.Cond) (b t : Addr) (kb kt : ClassId) (tg ch : Nat) (h0 : Heap) (n0 : Nat) (Z0 : n0 ≤ h0.size) (ht : tg < 120) (hc : ch < 256) (Vb : Arv Z h0 b kb .char J2 [(.int (Int32.ofNat tg)), (.int (Int32.ofNat ch))] (.int 0)) (Vt : Arv Z h0 t kt .byte J2 [] (.int 0)) (nbt : b ≠ t) (gt : n0 ≤ t) :
    own_M l yM49 jdk_52_method_21_code 7 (some .int) ws (rK 0 0 0 0) #[(.ref b), (.int J0), (.ref t), (.int J0), (.int J2)] Z h0 (QZ5 Z b t kb kt tg ch h0 n0) := by
  refine own_open (by decide +kernel) dB48 fun p e s m b0 meth c s₁ S0 hx D hby hml hown hnm hret hlk hZ X0 e0 c0 => ?_
  replace c0 : Sx p e b0 S0 s₁ (mkF m 0 (a125 b J0 t J0 J2) []) := c0
  have Hw := @own_Hw _ _ hw
  have N0 := Fr.nil n0
  have Nf := N0
  have hKp := Keep.refl h0 [t]
  obtain ⟨cl4, Ar4, in4, hv4⟩ := own_ld (N := 2) Vb (by decide) (i := 0) (by decide) (j := J0) (by decide) (v := (.int (Int32.ofNat tg))) rfl
  have Vp7 : Arv Z _ t kt .byte J2 [(.int 0)] (.int 0) := Vt.pad (pad_rep [] (.int 0) 1)
  obtain ⟨cl7, Ar7, qr7, S7, M7, Hs7, U7⟩ := Vp7
  obtain ⟨T7, h7, X7, e7, W7, st7⟩ := stB X0 hx hZ e0 Ar7 (j := J0) (inb_of S7 ⟨(by decide), (by decide)⟩) (g := (mkF m 31 (a126 b J0 t J0 J2 J0 (Int32.ofNat tg)) [(.int ((Int32.ofNat tg).toInt8.toInt32)), (.int J0), (.ref t)])) rfl rfl (D 16 rfl)
  have V7 : Arv Z h7 t kt .byte J2 [(.int (nar .byte ((Int32.ofNat tg).toInt8.toInt32)))] (.int 0) := Arv.set Ar7 qr7 S7 M7 Hs7 U7 (fits_nar_byte _) W7 0 (by decide) (Nat.le_of_ble_eq_true rfl)
  have c7 : Sx p e b0 S0 T7 (mkF m 32 (a126 b J0 t J0 J2 J0 (Int32.ofNat tg)) []) := c0.trans (qc X0 hx rfl (D 0 rfl) (XS.istore X0.here hx rfl (D 1 rfl) rfl (l' := (a127 b J0 t J0 J2 J0)) rfl (qi X0 hx rfl (D 2 rfl) rfl (qi X0 hx rfl (D 3 rfl) rfl (XS.icmpNo X0.here hx rfl (D 4 rfl) rfl (tlt (by decide)).2.1 (qA X0 hx rfl (D 5 rfl) rfl rfl (qI X0 hx rfl (D 6 rfl) rfl (X0.caload hx (j := J0) (by rw [e0]; exact Ar4.1) (State.isArrayOf_alike hZ.alike Ar4.2.1) Ar4.2.2 in4 hv4 (g := (mkF m 12 (a127 b J0 t J0 J2 J0) [(.int J0), (.ref b)])) rfl rfl (D 7 rfl) _ (XS.istore X0.here hx rfl (D 8 rfl) rfl (l' := (a126 b J0 t J0 J2 J0 (Int32.ofNat tg))) rfl (qi X0 hx rfl (D 9 rfl) rfl (XS.sipush X0.here hx rfl (D 10 rfl) (XS.icmpYes X0.here hx rfl (pc0 := 20) (pc' := 26) rfl (D 11 rfl) rfl (flt (own_le255 (by omega))).2.2.2 (by decide) (by decide) (qA X0 hx rfl (D 12 rfl) rfl rfl (qI X0 hx rfl (D 13 rfl) rfl (qi X0 hx rfl (D 14 rfl) rfl (XS.i2b X0.here hx rfl (D 15 rfl) rfl (st7 _ (Steps.refl _))))))))))))))))))
  have Nf := Fr.snoc X7 Nf gt
  have hKp := hKp.wr W7 (mI 0 rfl)
  have Vb := Vb.other W7 nbt
  obtain ⟨cl11, Ar11, in11, hv11⟩ := own_ld (N := 2) Vb (by decide) (i := 1) (by decide) (j := (J0 + J1)) (by decide) (v := (.int (Int32.ofNat ch))) rfl
  have Vp14 : Arv Z _ t kt .byte J2 [(.int (nar .byte ((Int32.ofNat tg).toInt8.toInt32))), (.int 0)] (.int 0) := V7.pad (pad_rep [(.int (nar .byte ((Int32.ofNat tg).toInt8.toInt32)))] (.int 0) 1)
  obtain ⟨cl14, Ar14, qr14, S14, M14, Hs14, U14⟩ := Vp14
  obtain ⟨T14, h14, X14, e14, W14, st14⟩ := stB X7 hx hZ e7 Ar14 (j := (J0 + J1)) (inb_of S14 ⟨(by decide), (by decide)⟩) (g := (mkF m 31 (a126 b (J0 + J1) t (J0 + J1) J2 (J0 + J1) (Int32.ofNat ch)) [(.int ((Int32.ofNat ch).toInt8.toInt32)), (.int (J0 + J1)), (.ref t)])) rfl rfl (D 16 rfl)
  have V14 : Arv Z h14 t kt .byte J2 [(.int (nar .byte ((Int32.ofNat tg).toInt8.toInt32))), (.int (nar .byte ((Int32.ofNat ch).toInt8.toInt32)))] (.int 0) := Arv.set Ar14 qr14 S14 M14 Hs14 U14 (fits_nar_byte _) W14 1 (by decide) (Nat.le_of_ble_eq_true rfl)
  have c14 : Sx p e b0 S0 T14 (mkF m 32 (a126 b (J0 + J1) t (J0 + J1) J2 (J0 + J1) (Int32.ofNat ch)) []) := c7.trans (XS.iinc X7.here hx rfl (D 17 rfl) rfl (l' := (a126 b (J0 + J1) t J0 J2 J0 (Int32.ofNat tg))) rfl (XS.iinc X7.here hx rfl (D 18 rfl) rfl (l' := (a126 b (J0 + J1) t (J0 + J1) J2 J0 (Int32.ofNat tg))) rfl (XS.iinc X7.here hx rfl (D 19 rfl) rfl (l' := (a126 b (J0 + J1) t (J0 + J1) J2 (J0 + J1) (Int32.ofNat tg))) rfl (XS.goto X7.here hx rfl (pc0 := 41) (pc' := 3) rfl (D 20 rfl) (by decide) (by decide) (qi X7 hx rfl (D 2 rfl) rfl (qi X7 hx rfl (D 3 rfl) rfl (XS.icmpNo X7.here hx rfl (D 4 rfl) rfl (tlt (by decide)).2.1 (qA X7 hx rfl (D 5 rfl) rfl rfl (qI X7 hx rfl (D 6 rfl) rfl (X7.caload hx (j := (J0 + J1)) (by rw [e7]; exact Ar11.1) (State.isArrayOf_alike hZ.alike Ar11.2.1) Ar11.2.2 in11 hv11 (g := (mkF m 12 (a126 b (J0 + J1) t (J0 + J1) J2 (J0 + J1) (Int32.ofNat tg)) [(.int (J0 + J1)), (.ref b)])) rfl rfl (D 7 rfl) _ (XS.istore X7.here hx rfl (D 8 rfl) rfl (l' := (a126 b (J0 + J1) t (J0 + J1) J2 (J0 + J1) (Int32.ofNat ch))) rfl (qi X7 hx rfl (D 9 rfl) rfl (XS.sipush X7.here hx rfl (D 10 rfl) (XS.icmpYes X7.here hx rfl (pc0 := 20) (pc' := 26) rfl (D 11 rfl) rfl (flt (own_le255 (by omega))).2.2.2 (by decide) (by decide) (qA X7 hx rfl (D 12 rfl) rfl rfl (qI X7 hx rfl (D 13 rfl) rfl (qi X7 hx rfl (D 14 rfl) rfl (XS.i2b X7.here hx rfl (D 15 rfl) rfl (st14 _ (Steps.refl _))))))))))))))))))))
  have Nf := Fr.snoc X14 Nf gt
  have hKp := hKp.wr W14 (mI 0 rfl)
  have Vb := Vb.other W14 nbt
  rw [own_nar8, own_nar8] at V14
  obtain ⟨fs, hr, r1, r2, hW, r4⟩ := X14.leave (v := some (.int 2)) (nV hret)
  refine ⟨_, _, c14.trans ?_, r1, r2, _, _, rfl, ?_, ⟨_, rfl⟩, hW, r4.mono (by decide) (by decide)⟩
  · refine XS.iinc X14.here hx rfl (D 17 rfl) rfl (l' := (a126 b ((J0 + J1) + J1) t (J0 + J1) J2 (J0 + J1) (Int32.ofNat ch))) rfl ?_
    refine XS.iinc X14.here hx rfl (D 18 rfl) rfl (l' := (a126 b ((J0 + J1) + J1) t ((J0 + J1) + J1) J2 (J0 + J1) (Int32.ofNat ch))) rfl ?_
    refine XS.iinc X14.here hx rfl (D 19 rfl) rfl (l' := (a126 b ((J0 + J1) + J1) t ((J0 + J1) + J1) J2 ((J0 + J1) + J1) (Int32.ofNat ch))) rfl ?_
    refine XS.goto X14.here hx rfl (pc0 := 41) (pc' := 3) rfl (D 20 rfl) (by decide) (by decide) ?_
    refine qi X14 hx rfl (D 2 rfl) rfl ?_
    refine qi X14 hx rfl (D 3 rfl) rfl ?_
    refine XS.icmpYes X14.here hx rfl (pc0 := 7) (pc' := 44) rfl (D 4 rfl) rfl (flt (by decide)).2.1 (by decide) (by decide) ?_
    refine qi X14 hx rfl (D 21 rfl) rfl ?_
    exact retI X14 hx hret (D 22 rfl) hr
  · show QZ5 Z b t kb kt tg ch h0 n0 _ T14.heap _
    rw [e14]
    exact ⟨rfl, Nf, hKp, V14⟩
def QZ3 (Z : State) (b : Addr) (kb : ClassId) (tg ch : Nat) (h0 : Heap) (n0 : Nat) (v : Option Value) (h : Heap) (L : List Loc) : Prop := (∃ (t : Addr) (k : ClassId), v = some (.ref t) ∧ h0.size ≤ t ∧ Arv Z h t k .byte J2 (own_b2 tg ch) (.int 0) ∧ Exa Z h t "[B") ∧ Fr n0 L ∧ Keep h0 h []
theorem rmZ3 (l : Launch) (Z : State) (a0 : Array Value) (hw : HW a0 Z) (ws : List Jvm.Cond) (b : Addr) (kb : ClassId) (tg ch : Nat) (h0 : Heap) (n0 : Nat) (Z0 : n0 ≤ h0.size) (ht : tg < 120) (hc : ch < 256) (Vb : Arv Z h0 b kb .char J2 [(.int (Int32.ofNat tg)), (.int (Int32.ofNat ch))] (.int 0)) :
    own_M l yM50 jdk_52_method_16_code 6 (some (.array .byte)) ws (rK 1 1 2 20) #[(.ref b), (.int J0), (.int J2)] Z h0 (QZ3 Z b kb tg ch h0 n0) := by
  refine own_open (by decide +kernel) dB49 fun p e s m b0 meth c s₁ S0 hx D hby hml hown hnm hret hlk hZ X0 e0 c0 => ?_
  replace c0 : Sx p e b0 S0 s₁ (mkF m 0 (a128 b J0 J2) []) := c0
  have Hw := @own_Hw _ _ hw
  have N0 := Fr.nil n0
  obtain ⟨T2, h2, kA2, X2, e2, E2, A2, A2x, st2⟩ := newPE X0 hx hZ (Hw 19 rfl) e0 (g := (mkF m 1 (a128 b J0 J2) [(.int J2)])) rfl (D 1 rfl) rfl (by decide) (cap := 2) (by decide) (by decide) (by decide) (by decide) (ad := "[B") (by decide +kernel)
  obtain ⟨b2, g2⟩ : ∃ z, z = h0.size := ⟨_, rfl⟩
  rw [← g2] at A2 A2x st2
  have c2 : Sx p e b0 S0 T2 (mkF m 3 (a128 b J0 J2) [(.ref b2)]) := c0.trans (qI X0 hx rfl (D 0 rfl) rfl (st2 _ (Steps.refl _)))
  have V2 := Arv.new A2 (by decide)
  have z2 : h0.size ≤ b2 := nE g2.symm
  have n2b : n0 ≤ b2 := nT Z0 z2
  obtain ⟨_, _, ⟨T4, L4, k4, n4⟩, -, X4, ⟨Lc4, hQ4, l4, y4, z4⟩, st4⟩ := Jvm.LawKit.callS X2 hx (y := yM49) hown (mvT hZ (Hw 46 rfl)) (mvT hZ (Hw 47 rfl)) (mvT hZ (Hw 44 rfl)) (mvT hZ (Hw 48 rfl)) (by decide) (backOf (W := 0) (rmZ5 l Z a0 hw [] b b2 kb kA2 tg ch h2 n0 (nT Z0 E2.1) ht hc (Vb.ext E2) V2 (Nat.ne_of_lt (Nat.lt_of_lt_of_le Vb.lt z2)) n2b) hZ (Hw 48 rfl) (Hw 44 rfl) (by decide) (by decide)) (g := (mkF m 9 (a129 b J0 J2 b2) [(.int J2), (.int J0), (.ref b2), (.int J0), (.ref b)])) rfl hml.symm (argsL := [(.ref b), (.int J0), (.ref b2), (.int J0), (.int J2)]) (rest := []) (lenOf pd16 rfl) rfl (nE rfl) (D 8 rfl) (fun _ _ => ⟨rfl, e2, (by decide : 1 + 0 ≤ _), (by decide : 2 + 0 ≤ _)⟩)
  dsimp only [Pt.U, Pt.locs, Pt.cells, Pt.slots] at X4 l4 y4 z4 st4 hQ4
  subst l4 y4 z4
  obtain ⟨rfl, N1, K1, V1⟩ := hQ4
  have c4 : Sx p e b0 S0 T4 (mkF m 12 (a129 b J0 J2 b2) [(.int J2)]) := c2.trans (XS.astoreN X2.here hx rfl (D 2 rfl) rfl rfl (l' := (a129 b J0 J2 b2)) rfl (qA X2 hx rfl (D 3 rfl) rfl rfl (qI X2 hx rfl (D 4 rfl) rfl (qA X2 hx rfl (D 5 rfl) rfl rfl (qc X2 hx rfl (D 6 rfl) (qI X2 hx rfl (D 7 rfl) rfl (st4 _ (Steps.refl _))))))))
  obtain ⟨fs, hr, r1, r2, hW, r4⟩ := X4.leave (v := some (.ref b2)) (nV hret)
  refine ⟨_, _, c4.trans ?_, r1, r2, _, _, rfl, ?_, ⟨_, rfl⟩, hW, r4.mono (by decide) (by decide)⟩
  · refine XS.istore X4.here hx rfl (D 9 rfl) rfl (l' := (a130 b J0 J2 b2 J2)) rfl ?_
    refine qi X4 hx rfl (D 10 rfl) rfl ?_
    refine qI X4 hx rfl (D 11 rfl) rfl ?_
    refine XS.icmpYes X4.here hx rfl (pc0 := 17) (pc' := 57) rfl (D 12 rfl) rfl (teq rfl).1 (by decide) (by decide) ?_
    refine qA X4 hx rfl (D 13 rfl) rfl rfl ?_
    exact retA X4 hx hret rfl rfl (D 14 rfl) hr
  · show QZ3 Z b kb tg ch h0 n0 _ T4.heap _
    exact ⟨⟨_, _, rfl, z2, V1, A2x.keep K1⟩, Fr.app N0 N1, ((Keep.refl h0 []).ext E2).trans K1 (fun x hx => by cases List.mem_singleton.mp hx; exact Or.inr z2)⟩
def QCl (Z : State) (t : Addr) (kt : ClassId) (vs : List Value) (h0 : Heap) (n0 : Nat) (v : Option Value) (h : Heap) (L : List Loc) : Prop := v = some (.int 0) ∧ Fr n0 L ∧ h = h0
theorem rmCl (l : Launch) (Z : State) (a0 : Array Value) (hw : HW a0 Z) (ws : List Jvm.Cond) (t : Addr) (kt : ClassId) (vs : List Value) (h0 : Heap) (n0 : Nat) (Z0 : n0 ≤ h0.size) (Vt : Arv Z h0 t kt .byte J2 vs (.int 0)) :
    own_M l yM51 jdk_52_method_15_code 2 (some .byte) ws (rK 0 0 0 0) #[(.ref t), (.int J2)] Z h0 (QCl Z t kt vs h0 n0) := by
  refine own_open (by decide +kernel) dB50 fun p e s m b0 meth c s₁ S0 hx D hby hml hown hnm hret hlk hZ X0 e0 c0 => ?_
  replace c0 : Sx p e b0 S0 s₁ (mkF m 0 #[vR t, vI J2] []) := c0
  have Hw := @own_Hw _ _ hw
  have N0 := Fr.nil n0
  obtain ⟨cz2, Az2, -, Sz2, Mz2, -, -⟩ := id Vt
  have c3 : Sx p e b0 S0 s₁ (mkF m 3 #[vR t, vI J2] [(.int J2), (.int J2)]) := by
    refine c0.trans ?_
    refine qI X0 hx rfl (D 0 rfl) rfl ?_
    refine qA X0 hx rfl (D 1 rfl) rfl rfl ?_
    refine X0.arraylength hx (by rw [e0]; exact Az2.1) (State.isArrayOf_alike hZ.alike Az2.2.1) (g := (mkF m 2 #[vR t, vI J2] [(.ref t), (.int J2)])) rfl rfl (D 2 rfl) _ ?_
    rw [len_of Sz2 Mz2]
    exact Steps.refl _
  have c4 : Sx p e b0 S0 s₁ (mkF m 8 #[vR t, vI J2] [(.int ((((J2 - J2).toUInt32 >>> ((31 : Int32) &&& 31).toUInt32).toInt32).toInt8.toInt32))]) := c3.trans (XS.isub X0.here hx rfl (D 3 rfl) rfl (XS.bipush X0.here hx rfl (D 4 rfl) (XS.iushr X0.here hx rfl (D 5 rfl) rfl (XS.i2b X0.here hx rfl (D 6 rfl) rfl (Steps.refl _)))))
  rw [show ((((J2 - J2).toUInt32 >>> ((31 : Int32) &&& 31).toUInt32).toInt32).toInt8.toInt32) = J0 from by decide] at c4
  obtain ⟨fs, hr, r1, r2, hW, r4⟩ := X0.leave (v := some (.int 0)) (nV hret)
  refine ⟨_, _, c4.trans ?_, r1, r2, _, _, rfl, ?_, ⟨_, rfl⟩, hW, r4.mono (by decide) (by decide)⟩
  · exact retN X0 hx (t := .byte) hret (by simp) (D 7 rfl) hr
  · show QCl Z t kt vs h0 n0 _ s₁.heap _
    rw [e0]
    exact ⟨rfl, N0, rfl⟩
def QS4 (Z : State) (a b : Addr) (kb : ClassId) (tg ch : Nat) (gg : own_G) (h0 : Heap) (n0 : Nat) (v : Option Value) (h : Heap) (L : List Loc) : Prop := v = none ∧ Fr n0 L ∧ Keep h0 h [a] ∧ own_S2 Z h a tg ch
theorem rmS4 (l : Launch) (Z : State) (a0 : Array Value) (hw : HW a0 Z) (ws : List Jvm.Cond) (a b : Addr) (kb : ClassId) (tg ch : Nat) (gg : own_G) (h0 : Heap) (n0 : Nat) (Z0 : n0 ≤ h0.size) (EV : own_Env Z gg) (X00 : Old Z n0 h0) (Ea : Exa Z h0 a "java/lang/String") (Fc : Fld Z h0 a "java/lang/String" "coder" "B" (.int 0)) (Fv : Fld Z h0 a "java/lang/String" "value" "[B" .null) (Fh : Fld Z h0 a "java/lang/String" "hash" "I" (.int 0)) (Fz : Fld Z h0 a "java/lang/String" "hashIsZero" "Z" (.int 0)) (ga : n0 ≤ a) (ht : tg < 120) (hc : ch < 256) (Vb : Arv Z h0 b kb .char J2 [(.int (Int32.ofNat tg)), (.int (Int32.ofNat ch))] (.int 0)) :
    own_M l yM52 jdk_42_method_149_code 6 none ws (rK 2 1 2 40) #[(.ref a), (.ref b), (.int J0), (.int J2), .null] Z h0 (QS4 Z a b kb tg ch gg h0 n0) := by
  refine own_open (by decide +kernel) dB51 fun p e s m b0 meth c s₁ S0 hx D hby hml hown hnm hret hlk hZ X0 e0 c0 => ?_
  replace c0 : Sx p e b0 S0 s₁ (mkF m 0 (a131 a b J0 J2) []) := c0
  have Hw := @own_Hw _ _ hw
  have N0 := Fr.nil n0
  obtain ⟨T2, X2, e2, st2⟩ := initO X0 hx hZ hown (Hw 24 rfl) (Hw 25 rfl) (Hw 26 rfl) e0 (g := (mkF m 1 (a131 a b J0 J2) [(.ref a)])) rfl hml.symm rfl (D 1 rfl) (by decide) (W := 0) (nE rfl) (by decide)
  have c2 : Sx p e b0 S0 T2 (mkF m 4 (a131 a b J0 J2) []) := c0.trans (qA X0 hx rfl (D 0 rfl) rfl rfl (st2 _ (Steps.refl _)))
  obtain ⟨T4, X4, e4, st4⟩ := getS2 X2 hx hZ hown (host := "") (Or.inl (Hw 9 rfl)) Via.refl e2 (EV.cs.ext X00.2) (g := (mkF m 27 (a131 a b J0 J2) [])) rfl (D 4 rfl)
  have c4 : Sx p e b0 S0 T4 (mkF m 30 (a131 a b J0 J2) [(.int gg.G1)]) := c2.trans (qI X2 hx rfl (D 2 rfl) rfl (XS.ifYes X2.here hx rfl (pc0 := 5) (pc' := 27) rfl (D 3 rfl) rfl ((if0 _ _).trans (feq (by decide)).2) (by decide) (by decide) (st4 _ (Steps.refl _))))
  obtain ⟨_, _, ⟨T7, L7, k7, n7⟩, -, X7, ⟨Lc7, hQ7, l7, y7, z7⟩, st7⟩ := Jvm.LawKit.callS X4 hx (y := yM50) hown (mvT hZ (Hw 42 rfl)) (mvT hZ (Hw 43 rfl)) (mvT hZ (Hw 44 rfl)) (mvT hZ (Hw 45 rfl)) (by decide) (backOf (W := 0) (rmZ3 l Z a0 hw [] b kb tg ch h0 n0 Z0 ht hc Vb) hZ (Hw 45 rfl) (Hw 44 rfl) (by decide) (by decide)) (g := (mkF m 36 (a131 a b J0 J2) [(.int J2), (.int J0), (.ref b)])) rfl hml.symm (argsL := [(.ref b), (.int J0), (.int J2)]) (rest := []) (lenOf pd17 rfl) rfl (nE rfl) (D 9 rfl) (fun _ _ => ⟨rfl, e4, (by decide : 0 + 1 ≤ _), (by decide : 0 + 2 ≤ _)⟩)
  dsimp only [Pt.U, Pt.locs, Pt.cells, Pt.slots] at X7 l7 y7 z7 st7 hQ7
  subst l7 y7 z7
  obtain ⟨⟨t, kt, rfl, zt, Vt, Et⟩, N1, K1⟩ := hQ7
  have c7 : Sx p e b0 S0 T7 (mkF m 39 (a131 a b J0 J2) [(.ref t)]) := c4.trans (XS.ifNo X4.here hx rfl (D 5 rfl) rfl ((if0 _ _).trans (feq EV.nz).1) (qA X4 hx rfl (D 6 rfl) rfl rfl (qI X4 hx rfl (D 7 rfl) rfl (qI X4 hx rfl (D 8 rfl) rfl (st7 _ (Steps.refl _))))))
  have Ea := Ea.keep K1
  have Fc := Fc.keep K1 nin0
  have Fv := Fv.keep K1 nin0
  have Fh := Fh.keep K1 nin0
  have Fz := Fz.keep K1 nin0
  obtain ⟨_, _, ⟨T9, L9, k9, n9⟩, -, X9, ⟨Lc9, hQ9, l9, y9, z9⟩, st9⟩ := Jvm.LawKit.callS X7 hx (y := yM51) hown (mvT hZ (Hw 49 rfl)) (mvT hZ (Hw 50 rfl)) (mvT hZ (Hw 44 rfl)) (mvT hZ (Hw 51 rfl)) (by decide) (backOf (W := 1) (rmCl l Z a0 hw [] t kt _ T7.heap n0 (nT Z0 K1.1) Vt) hZ (Hw 51 rfl) (Hw 44 rfl) (by decide) (by decide)) (g := (mkF m 45 (a132 a b J0 J2 t) [(.int J2), (.ref t), (.ref a)])) rfl hml.symm (argsL := [(.ref t), (.int J2)]) (rest := [(.ref a)]) (lenOf pd18 rfl) rfl (nE rfl) (D 14 rfl) (fun _ _ => ⟨rfl, rfl, (by decide : 1 + 0 ≤ _), (by decide : 2 + 0 ≤ _)⟩)
  dsimp only [Pt.U, Pt.locs, Pt.cells, Pt.slots] at X9 l9 y9 z9 st9 hQ9
  subst l9 y9 z9
  obtain ⟨rfl, N2, e2⟩ := hQ9
  have c9 : Sx p e b0 S0 T9 (mkF m 48 (a132 a b J0 J2 t) [(.int J0), (.ref a)]) := c7.trans (XS.astore X7.here hx rfl (D 10 rfl) rfl rfl (l' := (a132 a b J0 J2 t)) rfl (qA X7 hx rfl (D 11 rfl) rfl rfl (qa X7 hx rfl (D 12 rfl) rfl rfl (qI X7 hx rfl (D 13 rfl) rfl (st9 _ (Steps.refl _))))))
  have nat : t ≠ a := Et.ne Ea (by decide)
  obtain ⟨T10, h10, X10, e10, W10, st10⟩ := putFN X9 hx hZ hown (Hw 29 rfl) Via.refl e2 Fc Ea (Or.inr ⟨(Hw 30 rfl), rfl, hnm⟩) (Hw 15 rfl) (ty := .byte) (v' := (.int J0)) (by decide) rfl rfl (g := (mkF m 48 (a132 a b J0 J2 t) [(.int J0), (.ref a)])) rfl rfl (D 15 rfl)
  have c10 : Sx p e b0 S0 T10 (mkF m 51 (a132 a b J0 J2 t) []) := c9.trans (st10 _ (Steps.refl _))
  have Ea := Ea.wr W10
  have Fc := Fc.same W10
  have Fv := Fv.other W10 (own_sn (Or.inr (Hw 28 rfl)) (Or.inr (Hw 30 rfl)) (.array .byte) .byte)
  have Fh := Fh.other W10 (own_sn (Or.inl (Hw 322 rfl)) (Or.inr (Hw 30 rfl)) .int .byte)
  have Fz := Fz.other W10 (own_sn (Or.inl (Hw 324 rfl)) (Or.inr (Hw 30 rfl)) .boolean .byte)
  have Nf := Fr.snoc X10 (Fr.app (Fr.app N0 N1) N2) ga
  have hKp := (own_Kmono K1 (ws' := [a]) all0).wr W10 (mI 0 rfl)
  obtain ⟨T12, h12, X12, e12, W12, st12⟩ := putF X10 hx hZ hown (host := "") (Or.inl (Hw 27 rfl)) Via.refl e10 Fv Ea (Or.inr ⟨(Hw 28 rfl), rfl, hnm⟩) (Hw 15 rfl) (ty := (.array .byte)) (by decide) rfl rfl (g := (mkF m 54 (a132 a b J0 J2 t) [(.ref t), (.ref a)])) rfl rfl (D 18 rfl)
  have c12 : Sx p e b0 S0 T12 (mkF m 57 (a132 a b J0 J2 t) []) := c10.trans (qA X10 hx rfl (D 16 rfl) rfl rfl (qa X10 hx rfl (D 17 rfl) rfl rfl (st12 _ (Steps.refl _))))
  have Ea := Ea.wr W12
  have Fc := Fc.other W12 (own_sn (Or.inr (Hw 30 rfl)) (Or.inr (Hw 28 rfl)) .byte (.array .byte))
  have Fv := Fv.same W12
  have Fh := Fh.other W12 (own_sn (Or.inl (Hw 322 rfl)) (Or.inr (Hw 28 rfl)) .int (.array .byte))
  have Fz := Fz.other W12 (own_sn (Or.inl (Hw 324 rfl)) (Or.inr (Hw 28 rfl)) .boolean (.array .byte))
  obtain ⟨fs, hr, r1, r2, hW, r4⟩ := X12.leave (v := none) (fun _ => rfl)
  refine ⟨_, _, c12.trans ?_, r1, r2, _, _, rfl, ?_, ⟨_, rfl⟩, hW, r4.mono (by decide) (by decide)⟩
  · exact X12.returnOut hx hret (D 19 rfl) hr
  · show QS4 Z a b kb tg ch gg h0 n0 _ T12.heap _
    rw [e12]
    exact ⟨rfl, Fr.snoc X12 Nf ga, hKp.wr W12 (mI 0 rfl), t, 0, Ea, Fc, Fv, Fh, Fz, ⟨_, (Vt.other W10 nat).other W12 nat⟩, (Et.wr W10).wr W12, Or.inl rfl⟩
def QS1 (Z : State) (a b : Addr) (kb : ClassId) (tg ch : Nat) (gg : own_G) (h0 : Heap) (n0 : Nat) (v : Option Value) (h : Heap) (L : List Loc) : Prop := v = none ∧ Fr n0 L ∧ Keep h0 h [a] ∧ own_S2 Z h a tg ch
theorem rmS1 (l : Launch) (Z : State) (a0 : Array Value) (hw : HW a0 Z) (ws : List Jvm.Cond) (a b : Addr) (kb : ClassId) (tg ch : Nat) (gg : own_G) (h0 : Heap) (n0 : Nat) (Z0 : n0 ≤ h0.size) (EV : own_Env Z gg) (X00 : Old Z n0 h0) (Ea : Exa Z h0 a "java/lang/String") (Fc : Fld Z h0 a "java/lang/String" "coder" "B" (.int 0)) (Fv : Fld Z h0 a "java/lang/String" "value" "[B" .null) (Fh : Fld Z h0 a "java/lang/String" "hash" "I" (.int 0)) (Fz : Fld Z h0 a "java/lang/String" "hashIsZero" "Z" (.int 0)) (ga : n0 ≤ a) (ht : tg < 120) (hc : ch < 256) (Vb : Arv Z h0 b kb .char J2 [(.int (Int32.ofNat tg)), (.int (Int32.ofNat ch))] (.int 0)) :
    own_M l yM53 jdk_42_method_3_code 2 none ws (rK 3 1 2 58) #[(.ref a), (.ref b)] Z h0 (QS1 Z a b kb tg ch gg h0 n0) := by
  refine own_open (by decide +kernel) dB52 fun p e s m b0 meth c s₁ S0 hx D hby hml hown hnm hret hlk hZ X0 e0 c0 => ?_
  replace c0 : Sx p e b0 S0 s₁ (mkF m 0 #[vR a, vR b] []) := c0
  have Hw := @own_Hw _ _ hw
  have N0 := Fr.nil n0
  obtain ⟨cz2, Az2, -, Sz2, Mz2, -, -⟩ := id Vb
  have c3 : Sx p e b0 S0 s₁ (mkF m 5 #[vR a, vR b] [(.int J2), (.int J0), (.ref b), (.ref a)]) := by
    refine c0.trans ?_
    refine qA X0 hx rfl (D 0 rfl) rfl rfl ?_
    refine qA X0 hx rfl (D 1 rfl) rfl rfl ?_
    refine qc X0 hx rfl (D 2 rfl) ?_
    refine qA X0 hx rfl (D 3 rfl) rfl rfl ?_
    refine X0.arraylength hx (by rw [e0]; exact Az2.1) (State.isArrayOf_alike hZ.alike Az2.2.1) (g := (mkF m 4 #[vR a, vR b] [(.ref b), (.int J0), (.ref b), (.ref a)])) rfl rfl (D 4 rfl) _ ?_
    rw [len_of Sz2 Mz2]
    exact Steps.refl _
  obtain ⟨_, _, ⟨T5, L5, k5, n5⟩, -, X5, ⟨Lc5, hQ5, l5, y5, z5⟩, st5⟩ := X0.specialBack hx (y := yM52) rfl hown (mvT hZ (Hw 39 rfl)) (mvT hZ (Hw 40 rfl)) (mvT hZ (Hw 41 rfl)) (by decide) (backOf (W := 0) (rmS4 l Z a0 hw [] a b kb tg ch gg h0 n0 Z0 EV X00 Ea Fc Fv Fh Fz ga ht hc Vb) hZ (Hw 41 rfl) (Hw 7 rfl) (by decide) (by decide)) (g := (mkF m 6 #[vR a, vR b] [.null, (.int J2), (.int J0), (.ref b), (.ref a)])) rfl hml.symm (Steps.refl _) (a := a) (argsL := [(.ref b), (.int J0), (.int J2), .null]) (rest := []) (lenOf pd19 rfl) rfl (nE rfl) (D 6 rfl) (fun _ _ => ⟨rfl, e0, (by decide : 0 + 1 ≤ _), (by decide : 0 + 2 ≤ _)⟩)
  dsimp only [Pt.U, Pt.locs, Pt.cells, Pt.slots] at X5 l5 y5 z5 st5 hQ5
  subst l5 y5 z5
  obtain ⟨rfl, N1, D1⟩ := hQ5
  have c5 : Sx p e b0 S0 T5 (mkF m 9 #[vR a, vR b] []) := c3.trans (XS.aconstNull X0.here hx rfl (D 5 rfl) (st5))
  obtain ⟨fs, hr, r1, r2, hW, r4⟩ := X5.leave (v := none) (fun _ => rfl)
  refine ⟨_, _, c5.trans ?_, r1, r2, _, _, rfl, ?_, ⟨_, rfl⟩, hW, r4.mono (by decide) (by decide)⟩
  · exact X5.returnOut hx hret (D 7 rfl) hr
  · show QS1 Z a b kb tg ch gg h0 n0 _ T5.heap _
    exact ⟨rfl, Fr.app N0 N1, D1⟩
def QNm (Z : State) (cc : Int32) (tg ch : Nat) (gg : own_G) (h0 : Heap) (n0 : Nat) (v : Option Value) (h : Heap) (L : List Loc) : Prop := (∃ r : Addr, v = some (.ref r) ∧ h0.size ≤ r ∧ own_S2 Z h r tg ch) ∧ Fr n0 L ∧ Keep h0 h []
theorem rmNm (l : Launch) (Z : State) (a0 : Array Value) (hw : HW a0 Z) (ws : List Jvm.Cond) (cc : Int32) (tg ch : Nat) (gg : own_G) (h0 : Heap) (n0 : Nat) (Z0 : n0 ≤ h0.size) (EV : own_Env Z gg) (X00 : Old Z n0 h0) (ht : tg < 120) (hc : ch < 256) (hcc : cc &&& (255 : Int32) = Int32.ofNat ch) :
    own_M l yM54 method_2_code 2 (some (.object "java/lang/String")) ws (rK 4 3 8 74) #[(.int (Int32.ofNat tg)), (.int cc)] Z h0 (QNm Z cc tg ch gg h0 n0) := by
  refine own_open (plainFor_of_name pn1) dB53 fun p e s m b0 meth c s₁ S0 hx D hby hml hown hnm hret hlk hZ X0 e0 c0 => ?_
  replace c0 : Sx p e b0 S0 s₁ (mkF m 0 #[vI (Int32.ofNat tg), vI cc] []) := c0
  have Hw := @own_Hw _ _ hw
  have N0 := Fr.nil n0
  obtain ⟨T1, h1, X1, e1, E1, A1, D1, -, st1⟩ := newO X0 hx hZ hown (Hw 34 rfl) (Hw 15 rfl) (Hw 7 rfl) e0 (g := (mkF m 0 #[vI (Int32.ofNat tg), vI cc] [])) rfl (D 0 rfl) (by decide) (by decide)
  obtain ⟨b1, g1⟩ : ∃ z, z = h0.size := ⟨_, rfl⟩
  rw [← g1] at A1 D1 st1
  have c1 : Sx p e b0 S0 T1 (mkF m 3 #[vI (Int32.ofNat tg), vI cc] [(.ref b1)]) := c0.trans (st1 _ (Steps.refl _))
  have Ea := A1
  have Fc : Fld Z h1 b1 "java/lang/String" "coder" "B" (.int 0) := D1 (Or.inr (Hw 30 rfl)) (ty := .byte) (by decide)
  have Fv : Fld Z h1 b1 "java/lang/String" "value" "[B" .null := D1 (Or.inr (Hw 28 rfl)) (ty := (.array .byte)) (by decide)
  have Fh : Fld Z h1 b1 "java/lang/String" "hash" "I" (.int 0) := D1 (Or.inl (Hw 322 rfl)) (ty := .int) (by decide)
  have Fz : Fld Z h1 b1 "java/lang/String" "hashIsZero" "Z" (.int 0) := D1 (Or.inl (Hw 324 rfl)) (ty := .boolean) (by decide)
  have z1 : h0.size ≤ b1 := nE g1.symm
  have n1b : n0 ≤ b1 := nT Z0 z1
  obtain ⟨T3, h3, kA3, X3, e3, E3, A3, st3⟩ := newP X1 hx hZ (Hw 35 rfl) e1 (g := (mkF m 5 #[vI (Int32.ofNat tg), vI cc] [(.int J2), (.ref b1), (.ref b1)])) rfl (D 3 rfl) rfl (by decide : ¬ (J2 < J0)) (cap := 2) (by decide) (by decide) (by decide) (by decide)
  obtain ⟨b3, g3⟩ : ∃ z, z = h1.size := ⟨_, rfl⟩
  rw [← g3] at A3 st3
  have c3 : Sx p e b0 S0 T3 (mkF m 7 #[vI (Int32.ofNat tg), vI cc] [(.ref b3), (.ref b1), (.ref b1)]) := c1.trans (XS.dup X1.here hx rfl (D 1 rfl) rfl rfl (qc X1 hx rfl (D 2 rfl) (st3 _ (Steps.refl _))))
  have Ea := Ea.ext E3
  have Fc := Fc.ext E3
  have Fv := Fv.ext E3
  have Fh := Fh.ext E3
  have Fz := Fz.ext E3
  have V3 := Arv.new A3 (by decide)
  have zj : h0.size ≤ b3 := nT E1.1 (nE g3.symm)
  have gj : n0 ≤ b3 := nT Z0 zj
  have njk : b1 ≠ b3 := Nat.ne_of_lt (Nat.lt_of_lt_of_le A1.lt (nE g3.symm))
  have Nf := N0
  have hKp := ((Keep.refl h0 []).ext E1).ext E3
  have X01 := (X00.ext E1).ext E3
  have Vp5 : Arv Z _ b3 kA3 .char J2 [(.int 0)] (.int 0) := V3.pad (pad_rep [] (.int 0) 1)
  obtain ⟨cl5, Ar5, qr5, S5, M5, Hs5, U5⟩ := Vp5
  obtain ⟨T5, h5, X5, e5, W5, st5⟩ := stC X3 hx hZ e3 Ar5 (j := J0) (inb_of S5 ⟨(by decide), (by decide)⟩) (g := (mkF m 10 #[vI (Int32.ofNat tg), vI cc] [(.int (Int32.ofNat tg)), (.int J0), (.ref b3), (.ref b3), (.ref b1), (.ref b1)])) rfl rfl (D 7 rfl)
  have V5 : Arv Z h5 b3 kA3 .char J2 [(.int (nar .char (Int32.ofNat tg)))] (.int 0) := Arv.set Ar5 qr5 S5 M5 Hs5 U5 (fits_nar_char _) W5 0 (by decide) (Nat.le_of_ble_eq_true rfl)
  have c5 : Sx p e b0 S0 T5 (mkF m 11 #[vI (Int32.ofNat tg), vI cc] [(.ref b3), (.ref b1), (.ref b1)]) := c3.trans (XS.dup X3.here hx rfl (D 4 rfl) rfl rfl (qc X3 hx rfl (D 5 rfl) (qI X3 hx rfl (D 6 rfl) rfl (st5 _ (Steps.refl _)))))
  have Ea := Ea.wr W5
  have Fc := Fc.other W5 (Or.inl njk)
  have Fv := Fv.other W5 (Or.inl njk)
  have Fh := Fh.other W5 (Or.inl njk)
  have Fz := Fz.other W5 (Or.inl njk)
  have Nf := Fr.snoc X5 Nf gj
  have hKp := hKp.wr W5 (Or.inr zj)
  have X01 := X01.wr W5 gj
  have Vp7 : Arv Z _ b3 kA3 .char J2 [(.int (nar .char (Int32.ofNat tg))), (.int 0)] (.int 0) := V5.pad (pad_rep [(.int (nar .char (Int32.ofNat tg)))] (.int 0) 1)
  obtain ⟨cl7, Ar7, qr7, S7, M7, Hs7, U7⟩ := Vp7
  obtain ⟨T7, h7, X7, e7, W7, st7⟩ := stC X5 hx hZ e5 Ar7 (j := J1) (inb_of S7 ⟨(by decide), (by decide)⟩) (g := (mkF m 19 #[vI (Int32.ofNat tg), vI cc] [(.int ((cc &&& (255 : Int32)).toUInt32.toUInt16.toUInt32.toInt32)), (.int J1), (.ref b3), (.ref b3), (.ref b1), (.ref b1)])) rfl rfl (D 14 rfl)
  have V7 : Arv Z h7 b3 kA3 .char J2 [(.int (nar .char (Int32.ofNat tg))), (.int (nar .char ((cc &&& (255 : Int32)).toUInt32.toUInt16.toUInt32.toInt32)))] (.int 0) := Arv.set Ar7 qr7 S7 M7 Hs7 U7 (fits_nar_char _) W7 1 (by decide) (Nat.le_of_ble_eq_true rfl)
  have c7 : Sx p e b0 S0 T7 (mkF m 20 #[vI (Int32.ofNat tg), vI cc] [(.ref b3), (.ref b1), (.ref b1)]) := c5.trans (XS.dup X5.here hx rfl (D 8 rfl) rfl rfl (qc X5 hx rfl (D 9 rfl) (qI X5 hx rfl (D 10 rfl) rfl (XS.sipush X5.here hx rfl (D 11 rfl) (XS.iand X5.here hx rfl (D 12 rfl) rfl (XS.i2c X5.here hx rfl (D 13 rfl) rfl (st7 _ (Steps.refl _))))))))
  have Ea := Ea.wr W7
  have Fc := Fc.other W7 (Or.inl njk)
  have Fv := Fv.other W7 (Or.inl njk)
  have Fh := Fh.other W7 (Or.inl njk)
  have Fz := Fz.other W7 (Or.inl njk)
  have Nf := Fr.snoc X7 Nf gj
  have hKp := hKp.wr W7 (Or.inr zj)
  have X01 := X01.wr W7 gj
  have Vc : Arv Z h7 b3 kA3 .char J2 [(.int (Int32.ofNat tg)), (.int (Int32.ofNat ch))] (.int 0) := by
    have := V7
    rw [own_nar, hcc, own_narc tg (by omega)] at this
    exact this
  obtain ⟨_, _, ⟨T8, L8, k8, n8⟩, -, X8, ⟨Lc8, hQ8, l8, y8, z8⟩, st8⟩ := X7.specialBack hx (y := yM53) rfl hown (mvT hZ (Hw 36 rfl)) (mvT hZ (Hw 37 rfl)) (mvT hZ (Hw 38 rfl)) (by decide) (backOf (W := 1) (rmS1 l Z a0 hw [] b1 b3 kA3 tg ch gg h7 n0 (nT Z0 hKp.1) EV X01 Ea Fc Fv Fh Fz n1b ht hc Vc) hZ (Hw 38 rfl) (Hw 7 rfl) (by decide) (by decide)) (g := (mkF m 20 #[vI (Int32.ofNat tg), vI cc] [(.ref b3), (.ref b1), (.ref b1)])) rfl hml.symm (Steps.refl _) (a := b1) (argsL := [(.ref b3)]) (rest := [(.ref b1)]) (lenOf pd20 rfl) rfl (nE rfl) (D 15 rfl) (fun _ _ => ⟨rfl, e7, (by decide : 2 + 1 ≤ _), (by decide : 6 + 2 ≤ _)⟩)
  dsimp only [Pt.U, Pt.locs, Pt.cells, Pt.slots] at X8 l8 y8 z8 st8 hQ8
  subst l8 y8 z8
  obtain ⟨rfl, N1, K1, D1⟩ := hQ8
  have c8 : Sx p e b0 S0 T8 (mkF m 23 #[vI (Int32.ofNat tg), vI cc] [(.ref b1)]) := c7.trans st8
  obtain ⟨fs, hr, r1, r2, hW, r4⟩ := X8.leave (v := some (.ref b1)) (nV hret)
  refine ⟨_, _, c8.trans ?_, r1, r2, _, _, rfl, ?_, ⟨_, rfl⟩, hW, r4.mono (by decide) (by decide)⟩
  · exact retA X8 hx hret rfl rfl (D 16 rfl) hr
  · show QNm Z cc tg ch gg h0 n0 _ T8.heap _
    exact ⟨⟨_, rfl, z1, D1⟩, Fr.app Nf N1, hKp.trans K1 (fun x hx => by cases List.mem_singleton.mp hx; exact Or.inr z1)⟩
def QSg (Z : State) (t : Addr) (kt : ClassId) (tg ch : Nat) (h0 : Heap) (n0 : Nat) (v : Option Value) (h : Heap) (L : List Loc) : Prop := v = some (.int (own_hv tg ch)) ∧ Fr n0 L ∧ h = h0
theorem rmSg (l : Launch) (Z : State) (a0 : Array Value) (hw : HW a0 Z) (ws : List Jvm.Cond) (t : Addr) (kt : ClassId) (tg ch : Nat) (h0 : Heap) (n0 : Nat) (Z0 : n0 ≤ h0.size) (ht : tg < 120) (hc : ch < 256) (Vt : Arv Z h0 t kt .byte J2 (own_b2 tg ch) (.int 0)) :
    own_M l yM55 jdk_48_method_5_code 6 (some .int) ws (rK 0 0 0 0) #[(.int J0), (.ref t), (.int J0), (.int J2)] Z h0 (QSg Z t kt tg ch h0 n0) := by
  refine own_open (by decide +kernel) dB54 fun p e s m b0 meth c s₁ S0 hx D hby hml hown hnm hret hlk hZ X0 e0 c0 => ?_
  replace c0 : Sx p e b0 S0 s₁ (mkF m 0 (a133 J0 t J0 J2) []) := c0
  have Hw := @own_Hw _ _ hw
  have N0 := Fr.nil n0
  obtain ⟨cl4, Ar4, in4, hv4⟩ := own_ld (N := 2) Vt (by decide) (i := 0) (by decide) (j := J0) (by decide) (v := (.int ((Int32.ofNat tg).toInt8.toInt32))) rfl
  obtain ⟨cl8, Ar8, in8, hv8⟩ := own_ld (N := 2) Vt (by decide) (i := 1) (by decide) (j := (J0 + J1)) (by decide) (v := (.int ((Int32.ofNat ch).toInt8.toInt32))) rfl
  have c11 : Sx p e b0 S0 s₁ (mkF m 36 #[.val (.int (((31 : Int32) * (((31 : Int32) * J0) + (((Int32.ofNat tg).toInt8.toInt32) &&& (255 : Int32)))) + (((Int32.ofNat ch).toInt8.toInt32) &&& (255 : Int32)))), vR t, vI J0, vI J2, vI (J0 + J2), vI ((J0 + J1) + J1)] [(.int (((31 : Int32) * (((31 : Int32) * J0) + (((Int32.ofNat tg).toInt8.toInt32) &&& (255 : Int32)))) + (((Int32.ofNat ch).toInt8.toInt32) &&& (255 : Int32))))]) := c0.trans (qI X0 hx rfl (D 0 rfl) rfl (qI X0 hx rfl (D 1 rfl) rfl (XS.iadd X0.here hx rfl (D 2 rfl) rfl (XS.istore X0.here hx rfl (D 3 rfl) rfl (l' := (a134 J0 t J0 J2 (J0 + J2))) rfl (qI X0 hx rfl (D 4 rfl) rfl (XS.istore X0.here hx rfl (D 5 rfl) rfl (l' := (a135 J0 t J0 J2 (J0 + J2) J0)) rfl (qi X0 hx rfl (D 6 rfl) rfl (qi X0 hx rfl (D 7 rfl) rfl (XS.icmpNo X0.here hx rfl (D 8 rfl) rfl (tlt (by decide)).2.1 (XS.bipush X0.here hx rfl (D 9 rfl) (qI X0 hx rfl (D 10 rfl) rfl (XS.imul X0.here hx rfl (D 11 rfl) rfl (qA X0 hx rfl (D 12 rfl) rfl rfl (qi X0 hx rfl (D 13 rfl) rfl (X0.baloadBytes hx (j := J0) (by rw [e0]; exact Ar4.1) (State.isArrayOf_alike hZ.alike Ar4.2.1) Ar4.2.2 in4 hv4 (g := (mkF m 22 (a135 J0 t J0 J2 (J0 + J2) J0) [(.int J0), (.ref t), (.int ((31 : Int32) * J0))])) rfl rfl (D 14 rfl) _ (XS.sipush X0.here hx rfl (D 15 rfl) (XS.iand X0.here hx rfl (D 16 rfl) rfl (XS.iadd X0.here hx rfl (D 17 rfl) rfl (XS.istoreN X0.here hx rfl (D 18 rfl) rfl (l' := (a135 (((31 : Int32) * J0) + (((Int32.ofNat tg).toInt8.toInt32) &&& (255 : Int32))) t J0 J2 (J0 + J2) J0)) rfl (XS.iinc X0.here hx rfl (D 19 rfl) rfl (l' := (a135 (((31 : Int32) * J0) + (((Int32.ofNat tg).toInt8.toInt32) &&& (255 : Int32))) t J0 J2 (J0 + J2) (J0 + J1))) rfl (XS.goto X0.here hx rfl (pc0 := 32) (pc' := 8) rfl (D 20 rfl) (by decide) (by decide) (qi X0 hx rfl (D 6 rfl) rfl (qi X0 hx rfl (D 7 rfl) rfl (XS.icmpNo X0.here hx rfl (D 8 rfl) rfl (tlt (by decide)).2.1 (XS.bipush X0.here hx rfl (D 9 rfl) (qI X0 hx rfl (D 10 rfl) rfl (XS.imul X0.here hx rfl (D 11 rfl) rfl (qA X0 hx rfl (D 12 rfl) rfl rfl (qi X0 hx rfl (D 13 rfl) rfl (X0.baloadBytes hx (j := (J0 + J1)) (by rw [e0]; exact Ar8.1) (State.isArrayOf_alike hZ.alike Ar8.2.1) Ar8.2.2 in8 hv8 (g := (mkF m 22 (a135 (((31 : Int32) * J0) + (((Int32.ofNat tg).toInt8.toInt32) &&& (255 : Int32))) t J0 J2 (J0 + J2) (J0 + J1)) [(.int (J0 + J1)), (.ref t), (.int ((31 : Int32) * (((31 : Int32) * J0) + (((Int32.ofNat tg).toInt8.toInt32) &&& (255 : Int32)))))])) rfl rfl (D 14 rfl) _ (XS.sipush X0.here hx rfl (D 15 rfl) (XS.iand X0.here hx rfl (D 16 rfl) rfl (XS.iadd X0.here hx rfl (D 17 rfl) rfl (XS.istoreN X0.here hx rfl (D 18 rfl) rfl (l' := #[.val (.int (((31 : Int32) * (((31 : Int32) * J0) + (((Int32.ofNat tg).toInt8.toInt32) &&& (255 : Int32)))) + (((Int32.ofNat ch).toInt8.toInt32) &&& (255 : Int32)))), vR t, vI J0, vI J2, vI (J0 + J2), vI (J0 + J1)]) rfl (XS.iinc X0.here hx rfl (D 19 rfl) rfl (l' := #[.val (.int (((31 : Int32) * (((31 : Int32) * J0) + (((Int32.ofNat tg).toInt8.toInt32) &&& (255 : Int32)))) + (((Int32.ofNat ch).toInt8.toInt32) &&& (255 : Int32)))), vR t, vI J0, vI J2, vI (J0 + J2), vI ((J0 + J1) + J1)]) rfl (XS.goto X0.here hx rfl (pc0 := 32) (pc' := 8) rfl (D 20 rfl) (by decide) (by decide) (qi X0 hx rfl (D 6 rfl) rfl (qi X0 hx rfl (D 7 rfl) rfl (XS.icmpYes X0.here hx rfl (pc0 := 12) (pc' := 35) rfl (D 8 rfl) rfl (flt (by decide)).2.1 (by decide) (by decide) (qI X0 hx rfl (D 21 rfl) rfl (Steps.refl _)))))))))))))))))))))))))))))))))))))))))
  rw [own_hash (by omega) hc] at c11
  obtain ⟨fs, hr, r1, r2, hW, r4⟩ := X0.leave (v := some (.int (own_hv tg ch))) (nV hret)
  refine ⟨_, _, c11.trans ?_, r1, r2, _, _, rfl, ?_, ⟨_, rfl⟩, hW, r4.mono (by decide) (by decide)⟩
  · exact retI X0 hx hret (D 22 rfl) hr
  · show QSg Z t kt tg ch h0 n0 _ s₁.heap _
    rw [e0]
    exact ⟨rfl, N0, rfl⟩
def QVh (Z : State) (t : Addr) (kt : ClassId) (tg ch : Nat) (h0 : Heap) (n0 : Nat) (v : Option Value) (h : Heap) (L : List Loc) : Prop := v = some (.int (own_hv tg ch)) ∧ Fr n0 L ∧ h = h0
theorem rmVh (l : Launch) (Z : State) (a0 : Array Value) (hw : HW a0 Z) (ws : List Jvm.Cond) (t : Addr) (kt : ClassId) (tg ch : Nat) (h0 : Heap) (n0 : Nat) (Z0 : n0 ≤ h0.size) (ht : tg < 120) (hc : ch < 256) (Vt : Arv Z h0 t kt .byte J2 (own_b2 tg ch) (.int 0)) (Et : Exa Z h0 t "[B") :
    own_M l yM56 jdk_48_method_4_code 5 (some .int) ws (rK 1 0 0 20) #[(.ref t), (.int J0), (.int J2), (.int J0), (.int J4)] Z h0 (QVh Z t kt tg ch h0 n0) := by
  refine own_open (by decide +kernel) dB55 fun p e s m b0 meth c s₁ S0 hx D hby hml hown hnm hret hlk hZ X0 e0 c0 => ?_
  replace c0 : Sx p e b0 S0 s₁ (mkF m 0 (a136 t J0 J2 J0 J4) []) := c0
  have Hw := @own_Hw _ _ hw
  have N0 := Fr.nil n0
  obtain ⟨T4, X4, e4, st4⟩ := castY X0 hx hZ hown (Hw 337 rfl) e0 (Ins.self Et) (g := (mkF m 46 (a136 t J0 J2 J0 J4) [(.ref t), (.int J0)])) rfl rfl (D 4 rfl)
  have c4 : Sx p e b0 S0 T4 (mkF m 49 (a136 t J0 J2 J0 J4) [(.ref t), (.int J0)]) := c0.trans (qi X0 hx rfl (D 0 rfl) rfl (XS.tswIn X0.here hx rfl (pc0 := 2) (pc' := 44) rfl (D 1 rfl) rfl (by decide) (o := 42) (by decide) (by decide) (by decide) (qI X0 hx rfl (D 2 rfl) rfl (qA X0 hx rfl (D 3 rfl) rfl rfl (st4 _ (Steps.refl _))))))
  obtain ⟨_, _, ⟨T6, L6, k6, n6⟩, -, X6, ⟨Lc6, hQ6, l6, y6, z6⟩, st6⟩ := Jvm.LawKit.callS X4 hx (y := yM55) hown (mvT hZ (Hw 339 rfl)) (mvT hZ (Hw 340 rfl)) (mvT hZ (Hw 335 rfl)) (mvT hZ (Hw 341 rfl)) (by decide) (backOf (W := 0) (rmSg l Z a0 hw [] t kt tg ch h0 n0 Z0 ht hc Vt) hZ (Hw 341 rfl) (Hw 335 rfl) (by decide) (by decide)) (g := (mkF m 51 (a136 t J0 J2 J0 J4) [(.int J2), (.int J0), (.ref t), (.int J0)])) rfl hml.symm (argsL := [(.int J0), (.ref t), (.int J0), (.int J2)]) (rest := []) (lenOf pd21 rfl) rfl (nE rfl) (D 7 rfl) (fun _ _ => ⟨rfl, e4, (by decide : 0 + 0 ≤ _), (by decide : 0 + 0 ≤ _)⟩)
  dsimp only [Pt.U, Pt.locs, Pt.cells, Pt.slots] at X6 l6 y6 z6 st6 hQ6
  subst l6 y6 z6
  obtain ⟨rfl, N1, e1⟩ := hQ6
  have c6 : Sx p e b0 S0 T6 (mkF m 54 (a136 t J0 J2 J0 J4) [(.int (own_hv tg ch))]) := c4.trans (qI X4 hx rfl (D 5 rfl) rfl (qI X4 hx rfl (D 6 rfl) rfl (st6 _ (Steps.refl _))))
  obtain ⟨fs, hr, r1, r2, hW, r4⟩ := X6.leave (v := some (.int (own_hv tg ch))) (nV hret)
  refine ⟨_, _, c6.trans ?_, r1, r2, _, _, rfl, ?_, ⟨_, rfl⟩, hW, r4.mono (by decide) (by decide)⟩
  · refine XS.goto X6.here hx rfl (pc0 := 54) (pc' := 157) rfl (D 8 rfl) (by decide) (by decide) ?_
    exact retI X6 hx hret (D 9 rfl) hr
  · show QVh Z t kt tg ch h0 n0 _ T6.heap _
    rw [e1]
    exact ⟨rfl, Fr.app N0 N1, rfl⟩
def QLh (Z : State) (t : Addr) (kt : ClassId) (tg ch : Nat) (h0 : Heap) (n0 : Nat) (v : Option Value) (h : Heap) (L : List Loc) : Prop := v = some (.int (own_hv tg ch)) ∧ Fr n0 L ∧ h = h0
theorem rmLh (l : Launch) (Z : State) (a0 : Array Value) (hw : HW a0 Z) (ws : List Jvm.Cond) (t : Addr) (kt : ClassId) (tg ch : Nat) (h0 : Heap) (n0 : Nat) (Z0 : n0 ≤ h0.size) (ht : tg < 120) (hc : ch < 256) (Vt : Arv Z h0 t kt .byte J2 (own_b2 tg ch) (.int 0)) (Et : Exa Z h0 t "[B") :
    own_M l yM57 jdk_43_method_21_code 1 (some .int) ws (rK 2 0 0 38) #[(.ref t)] Z h0 (QLh Z t kt tg ch h0 n0) := by
  refine own_open (by decide +kernel) dB56 fun p e s m b0 meth c s₁ S0 hx D hby hml hown hnm hret hlk hZ X0 e0 c0 => ?_
  replace c0 : Sx p e b0 S0 s₁ (mkF m 0 #[vR t] []) := c0
  have Hw := @own_Hw _ _ hw
  have N0 := Fr.nil n0
  obtain ⟨cz2, Az2, -, Sz2, Mz2, -, -⟩ := id Vt
  have c3 : Sx p e b0 S0 s₁ (mkF m 2 #[vR t] [(.int J2)]) := by
    refine c0.trans ?_
    refine qA X0 hx rfl (D 0 rfl) rfl rfl ?_
    refine X0.arraylength hx (by rw [e0]; exact Az2.1) (State.isArrayOf_alike hZ.alike Az2.2.1) (g := (mkF m 1 #[vR t] [(.ref t)])) rfl rfl (D 1 rfl) _ ?_
    rw [len_of Sz2 Mz2]
    exact Steps.refl _
  obtain ⟨cz6, Az6, -, Sz6, Mz6, -, -⟩ := id Vt
  have c7 : Sx p e b0 S0 s₁ (mkF m 46 #[vR t] [(.int J2), (.int J0), (.ref t)]) := by
    refine c3.trans ?_
    refine X0.lookupswitchMiss hx (g := (mkF m 2 #[vR t] [(.int J2)])) rfl rfl (D 2 rfl) (by decide) (by decide) (show (0 : Int) ≤ ((2 : Nat) : Int) + (40) from by decide) _ ?_
    refine qA X0 hx rfl (D 3 rfl) rfl rfl ?_
    refine qc X0 hx rfl (D 4 rfl) ?_
    refine qA X0 hx rfl (D 5 rfl) rfl rfl ?_
    refine X0.arraylength hx (by rw [e0]; exact Az6.1) (State.isArrayOf_alike hZ.alike Az6.2.1) (g := (mkF m 45 #[vR t] [(.ref t), (.int J0), (.ref t)])) rfl rfl (D 6 rfl) _ ?_
    rw [len_of Sz6 Mz6]
    exact Steps.refl _
  obtain ⟨_, _, ⟨T9, L9, k9, n9⟩, -, X9, ⟨Lc9, hQ9, l9, y9, z9⟩, st9⟩ := Jvm.LawKit.callS X0 hx (y := yM56) hown (mvT hZ (Hw 333 rfl)) (mvT hZ (Hw 334 rfl)) (mvT hZ (Hw 335 rfl)) (mvT hZ (Hw 336 rfl)) (by decide) (backOf (W := 0) (rmVh l Z a0 hw [] t kt tg ch h0 n0 Z0 ht hc Vt Et) hZ (Hw 336 rfl) (Hw 335 rfl) (by decide) (by decide)) (g := (mkF m 48 #[vR t] [(.int J4), (.int J0), (.int J2), (.int J0), (.ref t)])) rfl hml.symm (argsL := [(.ref t), (.int J0), (.int J2), (.int J0), (.int J4)]) (rest := []) (lenOf pd22 rfl) rfl (nE rfl) (D 9 rfl) (fun _ _ => ⟨rfl, e0, (by decide : 0 + 0 ≤ _), (by decide : 0 + 0 ≤ _)⟩)
  dsimp only [Pt.U, Pt.locs, Pt.cells, Pt.slots] at X9 l9 y9 z9 st9 hQ9
  subst l9 y9 z9
  obtain ⟨rfl, N1, e1⟩ := hQ9
  have c9 : Sx p e b0 S0 T9 (mkF m 51 #[vR t] [(.int (own_hv tg ch))]) := c7.trans (qc X0 hx rfl (D 7 rfl) (qc X0 hx rfl (D 8 rfl) (st9 _ (Steps.refl _))))
  obtain ⟨fs, hr, r1, r2, hW, r4⟩ := X9.leave (v := some (.int (own_hv tg ch))) (nV hret)
  refine ⟨_, _, c9.trans ?_, r1, r2, _, _, rfl, ?_, ⟨_, rfl⟩, hW, r4.mono (by decide) (by decide)⟩
  · exact retI X9 hx hret (D 10 rfl) hr
  · show QLh Z t kt tg ch h0 n0 _ T9.heap _
    rw [e1]
    exact ⟨rfl, Fr.app N0 N1, rfl⟩
def QIl (Z : State) (a : Addr) (gg : own_G) (h0 : Heap) (n0 : Nat) (v : Option Value) (h : Heap) (L : List Loc) : Prop := v = some (.int 1) ∧ Fr n0 L ∧ h = h0
theorem rmIl (l : Launch) (Z : State) (a0 : Array Value) (hw : HW a0 Z) (ws : List Jvm.Cond) (a : Addr) (gg : own_G) (h0 : Heap) (n0 : Nat) (Z0 : n0 ≤ h0.size) (EV : own_Env Z gg) (X00 : Old Z n0 h0) (Fc : Fld Z h0 a "java/lang/String" "coder" "B" (.int 0)) :
    own_M l yM58 jdk_42_method_154_code 1 (some .boolean) ws (rK 0 0 0 0) #[(.ref a)] Z h0 (QIl Z a gg h0 n0) := by
  refine own_open (by decide +kernel) dB57 fun p e s m b0 meth c s₁ S0 hx D hby hml hown hnm hret hlk hZ X0 e0 c0 => ?_
  replace c0 : Sx p e b0 S0 s₁ (mkF m 0 #[vR a] []) := c0
  have Hw := @own_Hw _ _ hw
  have N0 := Fr.nil n0
  obtain ⟨T1, X1, e1, st1⟩ := getS2 X0 hx hZ hown (host := "") (Or.inl (Hw 9 rfl)) Via.refl e0 (EV.cs.ext X00.2) (g := (mkF m 0 #[vR a] [])) rfl (D 0 rfl)
  have c1 : Sx p e b0 S0 T1 (mkF m 3 #[vR a] [(.int gg.G1)]) := c0.trans (st1 _ (Steps.refl _))
  obtain ⟨T4, X4, e4, st4⟩ := getF X1 hx hZ hown (host := "") (Or.inl (Hw 29 rfl)) Via.refl e1 Fc (g := (mkF m 7 #[vR a] [(.ref a)])) rfl rfl (D 3 rfl)
  have c4 : Sx p e b0 S0 T4 (mkF m 10 #[vR a] [(.int J0)]) := c1.trans (XS.ifNo X1.here hx rfl (D 1 rfl) rfl ((if0 _ _).trans (feq EV.nz).1) (qA X1 hx rfl (D 2 rfl) rfl rfl (st4 _ (Steps.refl _))))
  obtain ⟨fs, hr, r1, r2, hW, r4⟩ := X4.leave (v := some (.int 1)) (nV hret)
  refine ⟨_, _, c4.trans ?_, r1, r2, _, _, rfl, ?_, ⟨_, rfl⟩, hW, r4.mono (by decide) (by decide)⟩
  · refine XS.ifNo X4.here hx rfl (D 4 rfl) rfl ((if0 _ _).trans (teq rfl).2) ?_
    refine qc X4 hx rfl (D 5 rfl) ?_
    refine XS.goto X4.here hx rfl (pc0 := 14) (pc' := 18) rfl (D 6 rfl) (by decide) (by decide) ?_
    exact retN X4 hx (t := .boolean) hret (by simp) (D 7 rfl) hr
  · show QIl Z a gg h0 n0 _ T4.heap _
    rw [e4]
    exact ⟨rfl, N0, rfl⟩
def QHc (Z : State) (a : Addr) (tg ch : Nat) (gg : own_G) (h0 : Heap) (n0 : Nat) (v : Option Value) (h : Heap) (L : List Loc) : Prop := v = some (.int (own_hv tg ch)) ∧ Fr n0 L ∧ Keep h0 h [a] ∧ own_S2 Z h a tg ch
theorem rmHc (l : Launch) (Z : State) (a0 : Array Value) (hw : HW a0 Z) (ws : List Jvm.Cond) (a : Addr) (tg ch : Nat) (gg : own_G) (h0 : Heap) (n0 : Nat) (Z0 : n0 ≤ h0.size) (EV : own_Env Z gg) (X00 : Old Z n0 h0) (S : own_S2 Z h0 a tg ch) (ga : n0 ≤ a) (h0t : 0 < tg) (ht : tg < 120) (hc : ch < 256) :
    own_M l yM59 jdk_42_method_78_code 2 (some .int) ws (rK 3 0 0 52) #[(.ref a)] Z h0 (QHc Z a tg ch gg h0 n0) := by
  refine own_open (by decide +kernel) dB58 fun p e s m b0 meth c s₁ S0 hx D hby hml hown hnm hret hlk hZ X0 e0 c0 => ?_
  replace c0 : Sx p e b0 S0 s₁ (mkF m 0 #[vR a, uU] []) := c0
  have Hw := @own_Hw _ _ hw
  have N0 := Fr.nil n0
  obtain ⟨t, hx1, Ea, Fc, Fv, Fh, Fz, ⟨kt, Vt⟩, Et, hhx⟩ := id S
  have hv0 := own_hv0 h0t (by omega) hc
  obtain ⟨T2, X2, e2, st2⟩ := getF X0 hx hZ hown (host := "") (Or.inl (Hw 321 rfl)) Via.refl e0 Fh (g := (mkF m 1 #[vR a, uU] [(.ref a)])) rfl rfl (D 1 rfl)
  have c2 : Sx p e b0 S0 T2 (mkF m 4 #[vR a, uU] [(.int hx1)]) := c0.trans (qA X0 hx rfl (D 0 rfl) rfl rfl (st2 _ (Steps.refl _)))
  have c3 : Sx p e b0 S0 T2 (mkF m 6 #[vR a, vI hx1] [(.int hx1)]) := c2.trans (XS.istoreN X2.here hx rfl (D 2 rfl) rfl (l' := #[vR a, vI hx1]) rfl (qI X2 hx rfl (D 3 rfl) rfl (Steps.refl _)))
  by_cases hq : hx1 = 0
  · have c4 : Sx p e b0 S0 T2 (mkF m 9 #[vR a, vI hx1] []) := by
      refine c3.trans ?_
      refine XS.ifNo X2.here hx rfl (D 4 rfl) rfl ((if0 _ _).trans (teq hq).2) ?_
      exact Steps.refl _
    obtain ⟨T6, X6, e6, st6⟩ := getF X2 hx hZ hown (host := "") (Or.inl (Hw 323 rfl)) Via.refl e2 Fz (g := (mkF m 10 #[vR a, vI hx1] [(.ref a)])) rfl rfl (D 6 rfl)
    have c6 : Sx p e b0 S0 T6 (mkF m 13 #[vR a, vI hx1] [(.int J0)]) := c4.trans (qA X2 hx rfl (D 5 rfl) rfl rfl (st6 _ (Steps.refl _)))
    obtain ⟨cq9, kq9, q9a, q9b, q9c⟩ := isOf hZ e6 Ea
    obtain ⟨_, _, ⟨T9, L9, k9, n9⟩, -, X9, ⟨Lc9, hQ9, l9, y9, z9⟩, st9⟩ := X6.virtualBack hx (y := yM58) (z := yM58) hown (mvT hZ (Hw 325 rfl)) (mvT hZ (Hw 326 rfl)) (notFace_of_selects (args := #[]) (mvT hZ (Hw 328 rfl))) (mvT hZ (Hw 328 rfl)) (mvT hZ (Hw 327 rfl)) (by decide) (backOf (W := 0) (rmIl l Z a0 hw [] a gg h0 n0 Z0 EV X00 Fc) hZ (Hw 329 rfl) (Hw 7 rfl) (by decide) (by decide)) q9a q9c (g := (mkF m 17 #[vR a, vI hx1] [(.ref a)])) rfl hml.symm (Steps.refl _) (argsL := []) (rest := []) (lenOf pd23 rfl) rfl (nE rfl) (D 9 rfl) (fun _ _ => ⟨rfl, e6, (by decide : 0 + 0 ≤ _), (by decide : 0 + 0 ≤ _)⟩)
    dsimp only [Pt.U, Pt.locs, Pt.cells, Pt.slots] at X9 l9 y9 z9 st9 hQ9
    subst l9 y9 z9
    obtain ⟨rfl, N1, e1⟩ := hQ9
    have c9 : Sx p e b0 S0 T9 (mkF m 20 #[vR a, vI hx1] [(.int J1)]) := c6.trans (XS.ifNo X6.here hx rfl (D 7 rfl) rfl ((if0 _ _).trans (teq rfl).2) (qA X6 hx rfl (D 8 rfl) rfl rfl (st9)))
    obtain ⟨T12, X12, e12, st12⟩ := getF X9 hx hZ hown (host := "") (Or.inl (Hw 27 rfl)) Via.refl e1 Fv (g := (mkF m 24 #[vR a, vI hx1] [(.ref a)])) rfl rfl (D 12 rfl)
    have c12 : Sx p e b0 S0 T12 (mkF m 27 #[vR a, vI hx1] [(.ref t)]) := c9.trans (XS.ifNo X9.here hx rfl (D 10 rfl) rfl ((if0 _ _).trans (feq (by decide)).1) (qA X9 hx rfl (D 11 rfl) rfl rfl (st12 _ (Steps.refl _))))
    obtain ⟨_, _, ⟨T13, L13, k13, n13⟩, -, X13, ⟨Lc13, hQ13, l13, y13, z13⟩, st13⟩ := Jvm.LawKit.callS X12 hx (y := yM57) hown (mvT hZ (Hw 330 rfl)) (mvT hZ (Hw 331 rfl)) (mvT hZ (Hw 12 rfl)) (mvT hZ (Hw 332 rfl)) (by decide) (backOf (W := 0) (rmLh l Z a0 hw [] t kt tg ch h0 n0 Z0 ht hc Vt Et) hZ (Hw 332 rfl) (Hw 12 rfl) (by decide) (by decide)) (g := (mkF m 27 #[vR a, vI hx1] [(.ref t)])) rfl hml.symm (argsL := [(.ref t)]) (rest := []) (lenOf pd24 rfl) rfl (nE rfl) (D 13 rfl) (fun _ _ => ⟨rfl, e12, (by decide : 0 + 0 ≤ _), (by decide : 0 + 0 ≤ _)⟩)
    dsimp only [Pt.U, Pt.locs, Pt.cells, Pt.slots] at X13 l13 y13 z13 st13 hQ13
    subst l13 y13 z13
    obtain ⟨rfl, N2, e2⟩ := hQ13
    have c13 : Sx p e b0 S0 T13 (mkF m 30 #[vR a, vI hx1] [(.int (own_hv tg ch))]) := c12.trans (st13 _ (Steps.refl _))
    obtain ⟨T16, h16, X16, e16, W16, st16⟩ := putF X13 hx hZ hown (host := "") (Or.inl (Hw 321 rfl)) Via.refl e2 Fh Ea (Or.inl (Hw 322 rfl)) (Hw 15 rfl) (ty := .int) (by decide) rfl rfl (g := (mkF m 55 #[vR a, vI (own_hv tg ch)] [(.int (own_hv tg ch)), (.ref a)])) rfl rfl (D 20 rfl)
    have c16 : Sx p e b0 S0 T16 (mkF m 58 #[vR a, vI (own_hv tg ch)] []) := c13.trans (XS.goto X13.here hx rfl (pc0 := 30) (pc' := 40) rfl (D 14 rfl) (by decide) (by decide) (XS.istoreN X13.here hx rfl (D 15 rfl) rfl (l' := #[vR a, vI (own_hv tg ch)]) rfl (qI X13 hx rfl (D 16 rfl) rfl (XS.ifYes X13.here hx rfl (pc0 := 42) (pc' := 53) rfl (D 17 rfl) rfl ((if0 _ _).trans (feq hv0).2) (by decide) (by decide) (qA X13 hx rfl (D 18 rfl) rfl rfl (qI X13 hx rfl (D 19 rfl) rfl (st16 _ (Steps.refl _))))))))
    have Ea := Ea.wr W16
    have Fc := Fc.other W16 (own_sn (Or.inr (Hw 30 rfl)) (Or.inl (Hw 322 rfl)) .byte .int)
    have Fv := Fv.other W16 (own_sn (Or.inr (Hw 28 rfl)) (Or.inl (Hw 322 rfl)) (.array .byte) .int)
    have Fh := Fh.same W16
    have Fz := Fz.other W16 (own_sn (Or.inl (Hw 324 rfl)) (Or.inl (Hw 322 rfl)) .boolean .int)
    have nta : t ≠ a := Et.ne S.exa (by decide)
    obtain ⟨fs, hr, r1, r2, hW, r4⟩ := X16.leave (v := some (.int (own_hv tg ch))) (nV hret)
    refine ⟨_, _, c16.trans ?_, r1, r2, _, _, rfl, ?_, ⟨_, rfl⟩, hW, r4.mono (by decide) (by decide)⟩
    · refine qI X16 hx rfl (D 21 rfl) rfl ?_
      exact retI X16 hx hret (D 22 rfl) hr
    · show QHc Z a tg ch gg h0 n0 _ T16.heap _
      rw [e16]
      exact ⟨rfl, Fr.snoc X16 (Fr.app (Fr.app N0 N1) N2) ga, (Keep.refl h0 [a]).wr W16 (mI 0 rfl), t, _, Ea, Fc, Fv, Fh, Fz, ⟨_, Vt.other W16 nta⟩, Et.wr W16, Or.inr rfl⟩
  · obtain rfl : hx1 = own_hv tg ch := hhx.resolve_left hq
    obtain ⟨fs, hr, r1, r2, hW, r4⟩ := X2.leave (v := some (.int (own_hv tg ch))) (nV hret)
    refine ⟨_, _, c3.trans ?_, r1, r2, _, _, rfl, ?_, ⟨_, rfl⟩, hW, r4.mono (by decide) (by decide)⟩
    · refine XS.ifYes X2.here hx rfl (pc0 := 6) (pc' := 58) rfl (D 4 rfl) rfl ((if0 _ _).trans (feq hv0).2) (by decide) (by decide) ?_
      refine qI X2 hx rfl (D 21 rfl) rfl ?_
      exact retI X2 hx hret (D 22 rfl) hr
    · show QHc Z a tg ch gg h0 n0 _ T2.heap _
      rw [e2]
      exact ⟨rfl, N0, Keep.refl _ _, S⟩
def QHa (Z : State) (a : Addr) (tg ch : Nat) (gg : own_G) (h0 : Heap) (n0 : Nat) (v : Option Value) (h : Heap) (L : List Loc) : Prop := v = some (.int (own_hv tg ch)) ∧ Fr n0 L ∧ Keep h0 h [a] ∧ own_S2 Z h a tg ch
theorem rmHa (l : Launch) (Z : State) (a0 : Array Value) (hw : HW a0 Z) (ws : List Jvm.Cond) (a : Addr) (tg ch : Nat) (gg : own_G) (h0 : Heap) (n0 : Nat) (Z0 : n0 ≤ h0.size) (EV : own_Env Z gg) (X00 : Old Z n0 h0) (S : own_S2 Z h0 a tg ch) (ga : n0 ≤ a) (h0t : 0 < tg) (ht : tg < 120) (hc : ch < 256) :
    own_M l yM60 jdk_69_method_1_code 2 (some .int) ws (rK 4 0 0 66) #[(.ref a)] Z h0 (QHa Z a tg ch gg h0 n0) := by
  refine own_open (by decide +kernel) dB59 fun p e s m b0 meth c s₁ S0 hx D hby hml hown hnm hret hlk hZ X0 e0 c0 => ?_
  replace c0 : Sx p e b0 S0 s₁ (mkF m 0 #[vR a, uU] []) := c0
  have Hw := @own_Hw _ _ hw
  have N0 := Fr.nil n0
  obtain ⟨cq3, kq3, q3a, q3b, q3c⟩ := isOf hZ e0 S.exa
  obtain ⟨_, _, ⟨T3, L3, k3, n3⟩, -, X3, ⟨Lc3, hQ3, l3, y3, z3⟩, st3⟩ := X0.virtualBack hx (y := yM61) (z := yM59) hown (mvT hZ (Hw 315 rfl)) (mvT hZ (Hw 316 rfl)) (nf_top (args := #[]) (mvT hZ (Hw 105 rfl))) (mvT hZ (Hw 318 rfl)) (mvT hZ (Hw 319 rfl)) (by decide) (backOf (W := 0) (rmHc l Z a0 hw [] a tg ch gg h0 n0 Z0 EV X00 S ga h0t ht hc) hZ (Hw 320 rfl) (Hw 7 rfl) (by decide) (by decide)) q3a q3c (g := (mkF m 9 #[vR a, uU] [(.ref a)])) rfl hml.symm (Steps.refl _) (argsL := []) (rest := []) (lenOf pd25 rfl) rfl (nE rfl) (D 3 rfl) (fun _ _ => ⟨rfl, e0, (by decide : 0 + 0 ≤ _), (by decide : 0 + 0 ≤ _)⟩)
  dsimp only [Pt.U, Pt.locs, Pt.cells, Pt.slots] at X3 l3 y3 z3 st3 hQ3
  subst l3 y3 z3
  obtain ⟨rfl, N1, D1⟩ := hQ3
  have c3 : Sx p e b0 S0 T3 (mkF m 12 #[vR a, uU] [(.int (own_hv tg ch))]) := c0.trans (qA X0 hx rfl (D 0 rfl) rfl rfl (XS.ifnonnullYes X0.here hx rfl (pc0 := 1) (pc' := 8) rfl (D 1 rfl) rfl (by decide) (by decide) (qA X0 hx rfl (D 2 rfl) rfl rfl (st3))))
  have c4 : Sx p e b0 S0 T3 (mkF m 19 #[vR a, vI (own_hv tg ch)] [(.int ((own_hv tg ch) ^^^ (((own_hv tg ch).toUInt32 >>> ((16 : Int32) &&& 31).toUInt32).toInt32)))]) := c3.trans (XS.dup X3.here hx rfl (D 4 rfl) rfl rfl (XS.istoreN X3.here hx rfl (D 5 rfl) rfl (l' := #[vR a, vI (own_hv tg ch)]) rfl (qI X3 hx rfl (D 6 rfl) rfl (XS.bipush X3.here hx rfl (D 7 rfl) (XS.iushr X3.here hx rfl (D 8 rfl) rfl (XS.ixor X3.here hx rfl (D 9 rfl) rfl (Steps.refl _)))))))
  rw [own_xor16 _ (by omega)] at c4
  obtain ⟨fs, hr, r1, r2, hW, r4⟩ := X3.leave (v := some (.int (own_hv tg ch))) (nV hret)
  refine ⟨_, _, c4.trans ?_, r1, r2, _, _, rfl, ?_, ⟨_, rfl⟩, hW, r4.mono (by decide) (by decide)⟩
  · exact retI X3 hx hret (D 10 rfl) hr
  · show QHa Z a tg ch gg h0 n0 _ T3.heap _
    exact ⟨rfl, Fr.app N0 N1, D1⟩
def QN0 (Z : State) (b : Addr) (hv : Int32) (ky vl : Addr) (h0 : Heap) (n0 : Nat) (v : Option Value) (h : Heap) (L : List Loc) : Prop := v = none ∧ Fr n0 L ∧ Keep h0 h [b] ∧ Exa Z h b own_NOn
theorem rmN0 (l : Launch) (Z : State) (a0 : Array Value) (hw : HW a0 Z) (ws : List Jvm.Cond) (b : Addr) (hv : Int32) (ky vl : Addr) (h0 : Heap) (n0 : Nat) (Z0 : n0 ≤ h0.size) (En : Exa Z h0 b "java/util/HashMap$Node") (Fh : Fld Z h0 b "java/util/HashMap$Node" "hash" "I" (.int 0)) (Fk : Fld Z h0 b "java/util/HashMap$Node" "key" "Ljava/lang/Object;" .null) (Fv : Fld Z h0 b "java/util/HashMap$Node" "value" "Ljava/lang/Object;" .null) (Fn : Fld Z h0 b "java/util/HashMap$Node" "next" "Ljava/util/HashMap$Node;" .null) (gb : n0 ≤ b) :
    own_M l yM62 jdk_70_method_1_code 5 none ws (rK 1 0 0 12) #[(.ref b), (.int hv), (.ref ky), (.ref vl), .null] Z h0 (QN0 Z b hv ky vl h0 n0) := by
  refine own_open (by decide +kernel) dB60 fun p e s m b0 meth c s₁ S0 hx D hby hml hown hnm hret hlk hZ X0 e0 c0 => ?_
  replace c0 : Sx p e b0 S0 s₁ (mkF m 0 (a137 b hv ky vl) []) := c0
  have Hw := @own_Hw _ _ hw
  have N0 := Fr.nil n0
  have Nf := N0
  have hKp := Keep.refl h0 [b]
  obtain ⟨T2, X2, e2, st2⟩ := initO X0 hx hZ hown (Hw 369 rfl) (Hw 25 rfl) (Hw 26 rfl) e0 (g := (mkF m 1 (a137 b hv ky vl) [(.ref b)])) rfl hml.symm rfl (D 1 rfl) (by decide) (W := 0) (nE rfl) (by decide)
  have c2 : Sx p e b0 S0 T2 (mkF m 4 (a137 b hv ky vl) []) := c0.trans (qA X0 hx rfl (D 0 rfl) rfl rfl (st2 _ (Steps.refl _)))
  obtain ⟨T4, h4, X4, e4, W4, st4⟩ := putF X2 hx hZ hown (host := "") (Or.inl (Hw 370 rfl)) Via.refl e2 Fh En (Or.inr ⟨(Hw 371 rfl), rfl, hnm⟩) (Hw 363 rfl) (ty := .int) (by decide) rfl rfl (g := (mkF m 6 (a137 b hv ky vl) [(.int hv), (.ref b)])) rfl rfl (D 4 rfl)
  have c4 : Sx p e b0 S0 T4 (mkF m 9 (a137 b hv ky vl) []) := c2.trans (qA X2 hx rfl (D 2 rfl) rfl rfl (qI X2 hx rfl (D 3 rfl) rfl (st4 _ (Steps.refl _))))
  have En := En.wr W4
  have Fh := Fh.same W4
  have Fk := Fk.other W4 (own_sn (Or.inr (Hw 373 rfl)) (Or.inr (Hw 371 rfl)) (.object "java/lang/Object") .int)
  have Fv := Fv.other W4 (own_sn (Or.inl (Hw 375 rfl)) (Or.inr (Hw 371 rfl)) (.object "java/lang/Object") .int)
  have Fn := Fn.other W4 (own_sn (Or.inl (Hw 377 rfl)) (Or.inr (Hw 371 rfl)) (.object "java/util/HashMap$Node") .int)
  have Nf := Fr.snoc X4 Nf gb
  have hKp := hKp.wr W4 (mI 0 rfl)
  obtain ⟨T6, h6, X6, e6, W6, st6⟩ := putF X4 hx hZ hown (host := "") (Or.inl (Hw 372 rfl)) Via.refl e4 Fk En (Or.inr ⟨(Hw 373 rfl), rfl, hnm⟩) (Hw 363 rfl) (ty := (.object "java/lang/Object")) (by decide) rfl rfl (g := (mkF m 11 (a137 b hv ky vl) [(.ref ky), (.ref b)])) rfl rfl (D 7 rfl)
  have c6 : Sx p e b0 S0 T6 (mkF m 14 (a137 b hv ky vl) []) := c4.trans (qA X4 hx rfl (D 5 rfl) rfl rfl (qA X4 hx rfl (D 6 rfl) rfl rfl (st6 _ (Steps.refl _))))
  have En := En.wr W6
  have Fh := Fh.other W6 (own_sn (Or.inr (Hw 371 rfl)) (Or.inr (Hw 373 rfl)) .int (.object "java/lang/Object"))
  have Fk := Fk.same W6
  have Fv := Fv.other W6 (own_sn (Or.inl (Hw 375 rfl)) (Or.inr (Hw 373 rfl)) (.object "java/lang/Object") (.object "java/lang/Object"))
  have Fn := Fn.other W6 (own_sn (Or.inl (Hw 377 rfl)) (Or.inr (Hw 373 rfl)) (.object "java/util/HashMap$Node") (.object "java/lang/Object"))
  have Nf := Fr.snoc X6 Nf gb
  have hKp := hKp.wr W6 (mI 0 rfl)
  obtain ⟨T8, h8, X8, e8, W8, st8⟩ := putF X6 hx hZ hown (host := "") (Or.inl (Hw 374 rfl)) Via.refl e6 Fv En (Or.inl (Hw 375 rfl)) (Hw 363 rfl) (ty := (.object "java/lang/Object")) (by decide) rfl rfl (g := (mkF m 16 (a137 b hv ky vl) [(.ref vl), (.ref b)])) rfl rfl (D 10 rfl)
  have c8 : Sx p e b0 S0 T8 (mkF m 19 (a137 b hv ky vl) []) := c6.trans (qA X6 hx rfl (D 8 rfl) rfl rfl (qA X6 hx rfl (D 9 rfl) rfl rfl (st8 _ (Steps.refl _))))
  have En := En.wr W8
  have Fh := Fh.other W8 (own_sn (Or.inr (Hw 371 rfl)) (Or.inl (Hw 375 rfl)) .int (.object "java/lang/Object"))
  have Fk := Fk.other W8 (own_sn (Or.inr (Hw 373 rfl)) (Or.inl (Hw 375 rfl)) (.object "java/lang/Object") (.object "java/lang/Object"))
  have Fv := Fv.same W8
  have Fn := Fn.other W8 (own_sn (Or.inl (Hw 377 rfl)) (Or.inl (Hw 375 rfl)) (.object "java/util/HashMap$Node") (.object "java/lang/Object"))
  have Nf := Fr.snoc X8 Nf gb
  have hKp := hKp.wr W8 (mI 0 rfl)
  obtain ⟨T10, h10, X10, e10, W10, st10⟩ := putF X8 hx hZ hown (host := "") (Or.inl (Hw 376 rfl)) Via.refl e8 Fn En (Or.inl (Hw 377 rfl)) (Hw 363 rfl) (ty := (.object "java/util/HashMap$Node")) (by decide) rfl rfl (g := (mkF m 22 (a137 b hv ky vl) [.null, (.ref b)])) rfl rfl (D 13 rfl)
  have c10 : Sx p e b0 S0 T10 (mkF m 25 (a137 b hv ky vl) []) := c8.trans (qA X8 hx rfl (D 11 rfl) rfl rfl (qa X8 hx rfl (D 12 rfl) rfl rfl (st10 _ (Steps.refl _))))
  have En := En.wr W10
  have Fh := Fh.other W10 (own_sn (Or.inr (Hw 371 rfl)) (Or.inl (Hw 377 rfl)) .int (.object "java/util/HashMap$Node"))
  have Fk := Fk.other W10 (own_sn (Or.inr (Hw 373 rfl)) (Or.inl (Hw 377 rfl)) (.object "java/lang/Object") (.object "java/util/HashMap$Node"))
  have Fv := Fv.other W10 (own_sn (Or.inl (Hw 375 rfl)) (Or.inl (Hw 377 rfl)) (.object "java/lang/Object") (.object "java/util/HashMap$Node"))
  have Fn := Fn.same W10
  have Nf := Fr.snoc X10 Nf gb
  have hKp := hKp.wr W10 (mI 0 rfl)
  obtain ⟨fs, hr, r1, r2, hW, r4⟩ := X10.leave (v := none) (fun _ => rfl)
  refine ⟨_, _, c10.trans ?_, r1, r2, _, _, rfl, ?_, ⟨_, rfl⟩, hW, r4.mono (by decide) (by decide)⟩
  · exact X10.returnOut hx hret (D 14 rfl) hr
  · show QN0 Z b hv ky vl h0 n0 _ T10.heap _
    rw [e10]
    exact ⟨rfl, Nf, hKp, En⟩
def QNn (Z : State) (q : Addr) (hv : Int32) (ky vl : Addr) (h0 : Heap) (n0 : Nat) (v : Option Value) (h : Heap) (L : List Loc) : Prop := (∃ b : Addr, v = some (.ref b) ∧ h0.size ≤ b ∧ Exa Z h b own_NOn) ∧ Fr n0 L ∧ Keep h0 h []
theorem rmNn (l : Launch) (Z : State) (a0 : Array Value) (hw : HW a0 Z) (ws : List Jvm.Cond) (q : Addr) (hv : Int32) (ky vl : Addr) (h0 : Heap) (n0 : Nat) (Z0 : n0 ≤ h0.size)  :
    own_M l yM63 jdk_69_method_46_code 5 (some (.object "java/util/HashMap$Node")) ws (rK 2 1 4 30) #[(.ref q), (.int hv), (.ref ky), (.ref vl), .null] Z h0 (QNn Z q hv ky vl h0 n0) := by
  refine own_open (by decide +kernel) dB61 fun p e s m b0 meth c s₁ S0 hx D hby hml hown hnm hret hlk hZ X0 e0 c0 => ?_
  replace c0 : Sx p e b0 S0 s₁ (mkF m 0 (a137 q hv ky vl) []) := c0
  have Hw := @own_Hw _ _ hw
  have N0 := Fr.nil n0
  obtain ⟨T1, h1, X1, e1, E1, A1, D1, -, st1⟩ := newO X0 hx hZ hown (Hw 356 rfl) (Hw 363 rfl) (Hw 364 rfl) e0 (g := (mkF m 0 (a137 q hv ky vl) [])) rfl (D 0 rfl) (by decide) (by decide)
  obtain ⟨b1, g1⟩ : ∃ z, z = h0.size := ⟨_, rfl⟩
  rw [← g1] at A1 D1 st1
  have c1 : Sx p e b0 S0 T1 (mkF m 3 (a137 q hv ky vl) [(.ref b1)]) := c0.trans (st1 _ (Steps.refl _))
  have En := A1
  have Fh : Fld Z h1 b1 "java/util/HashMap$Node" "hash" "I" (.int 0) := D1 (Or.inr (Hw 371 rfl)) (ty := .int) (by decide)
  have Fk : Fld Z h1 b1 "java/util/HashMap$Node" "key" "Ljava/lang/Object;" .null := D1 (Or.inr (Hw 373 rfl)) (ty := (.object "java/lang/Object")) (by decide)
  have Fv : Fld Z h1 b1 "java/util/HashMap$Node" "value" "Ljava/lang/Object;" .null := D1 (Or.inl (Hw 375 rfl)) (ty := (.object "java/lang/Object")) (by decide)
  have Fn : Fld Z h1 b1 "java/util/HashMap$Node" "next" "Ljava/util/HashMap$Node;" .null := D1 (Or.inl (Hw 377 rfl)) (ty := (.object "java/util/HashMap$Node")) (by decide)
  have z1 : h0.size ≤ b1 := nE g1.symm
  have n1b : n0 ≤ b1 := nT Z0 z1
  obtain ⟨_, _, ⟨T3, L3, k3, n3⟩, -, X3, ⟨Lc3, hQ3, l3, y3, z3⟩, st3⟩ := X1.specialBack hx (y := yM62) rfl hown (mvT hZ (Hw 365 rfl)) (mvT hZ (Hw 366 rfl)) (mvT hZ (Hw 368 rfl)) (by decide) (backOf (W := 1) (rmN0 l Z a0 hw [] b1 hv ky vl h1 n0 (nT Z0 E1.1) En Fh Fk Fv Fn n1b) hZ (Hw 368 rfl) (Hw 364 rfl) (by decide) (by decide)) (g := (mkF m 9 (a137 q hv ky vl) [.null, (.ref vl), (.ref ky), (.int hv), (.ref b1), (.ref b1)])) rfl hml.symm (Steps.refl _) (a := b1) (argsL := [(.int hv), (.ref ky), (.ref vl), .null]) (rest := [(.ref b1)]) (lenOf pd26 rfl) rfl (nE rfl) (D 6 rfl) (fun _ _ => ⟨rfl, e1, (by decide : 1 + 0 ≤ _), (by decide : 4 + 0 ≤ _)⟩)
  dsimp only [Pt.U, Pt.locs, Pt.cells, Pt.slots] at X3 l3 y3 z3 st3 hQ3
  subst l3 y3 z3
  obtain ⟨rfl, N1, K1, En⟩ := hQ3
  have c3 : Sx p e b0 S0 T3 (mkF m 12 (a137 q hv ky vl) [(.ref b1)]) := c1.trans (XS.dup X1.here hx rfl (D 1 rfl) rfl rfl (qI X1 hx rfl (D 2 rfl) rfl (qA X1 hx rfl (D 3 rfl) rfl rfl (qA X1 hx rfl (D 4 rfl) rfl rfl (qa X1 hx rfl (D 5 rfl) rfl rfl (st3))))))
  obtain ⟨fs, hr, r1, r2, hW, r4⟩ := X3.leave (v := some (.ref b1)) (nV hret)
  refine ⟨_, _, c3.trans ?_, r1, r2, _, _, rfl, ?_, ⟨_, rfl⟩, hW, r4.mono (by decide) (by decide)⟩
  · exact retA X3 hx hret rfl rfl (D 7 rfl) hr
  · show QNn Z q hv ky vl h0 n0 _ T3.heap _
    exact ⟨⟨_, rfl, z1, En⟩, Fr.app N0 N1, ((Keep.refl h0 []).ext E1).trans K1 (fun x hx => by cases List.mem_singleton.mp hx; exact Or.inr z1)⟩
def QAn (Z : State) (q : Addr) (h0 : Heap) (n0 : Nat) (v : Option Value) (h : Heap) (L : List Loc) : Prop := v = none ∧ Fr n0 L ∧ h = h0
theorem rmAn (l : Launch) (Z : State) (a0 : Array Value) (hw : HW a0 Z) (ws : List Jvm.Cond) (q : Addr) (h0 : Heap) (n0 : Nat) (Z0 : n0 ≤ h0.size)  :
    own_M l yM64 jdk_69_method_52_code 2 none ws (rK 0 0 0 0) #[(.ref q), (.int J1)] Z h0 (QAn Z q h0 n0) := by
  refine own_open (by decide +kernel) dB62 fun p e s m b0 meth c s₁ S0 hx D hby hml hown hnm hret hlk hZ X0 e0 c0 => ?_
  replace c0 : Sx p e b0 S0 s₁ (mkF m 0 #[vR q, vI J1] []) := c0
  have Hw := @own_Hw _ _ hw
  have N0 := Fr.nil n0
  obtain ⟨fs, hr, r1, r2, hW, r4⟩ := X0.leave (v := none) (fun _ => rfl)
  refine ⟨_, _, c0.trans ?_, r1, r2, _, _, rfl, ?_, ⟨_, rfl⟩, hW, r4.mono (by decide) (by decide)⟩
  · exact X0.returnOut hx hret (D 0 rfl) hr
  · show QAn Z q h0 n0 _ s₁.heap _
    rw [e0]
    exact ⟨rfl, N0, rfl⟩
def QRs (Z : State) (q : Addr) (h0 : Heap) (n0 : Nat) (v : Option Value) (h : Heap) (L : List Loc) : Prop := (∃ tb : Addr, v = some (.ref tb) ∧ h0.size ≤ tb ∧ own_H1 Z h q tb []) ∧ Fr n0 L ∧ Keep h0 h [q]
theorem rmRs (l : Launch) (Z : State) (a0 : Array Value) (hw : HW a0 Z) (ws : List Jvm.Cond) (q : Addr) (h0 : Heap) (n0 : Nat) (Z0 : n0 ≤ h0.size) (M : own_H0 Z h0 q) (gm : n0 ≤ q) :
    own_M l yM65 jdk_69_method_17_code 14 (some (.array (.object "java/util/HashMap$Node"))) ws (rK 0 1 16 0) #[(.ref q)] Z h0 (QRs Z q h0 n0) := by
  refine own_open (by decide +kernel) dB63 fun p e s m b0 meth c s₁ S0 hx D hby hml hown hnm hret hlk hZ X0 e0 c0 => ?_
  replace c0 : Sx p e b0 S0 s₁ (mkF m 0 (a138 q) []) := c0
  have Hw := @own_Hw _ _ hw
  have N0 := Fr.nil n0
  obtain ⟨Em, Ftb, Fth, Fsz, mc, Fmc⟩ := id M
  obtain ⟨T2, X2, e2, st2⟩ := getF X0 hx hZ hown (host := "") (Or.inl (Hw 347 rfl)) Via.refl e0 Ftb (g := (mkF m 1 (a138 q) [(.ref q)])) rfl rfl (D 1 rfl)
  have c2 : Sx p e b0 S0 T2 (mkF m 4 (a138 q) [.null]) := c0.trans (qA X0 hx rfl (D 0 rfl) rfl rfl (st2 _ (Steps.refl _)))
  obtain ⟨T6, X6, e6, st6⟩ := getF X2 hx hZ hown (host := "") (Or.inl (Hw 354 rfl)) Via.refl e2 Fth (g := (mkF m 17 (a139 q J0) [(.ref q)])) rfl rfl (D 9 rfl)
  have c6 : Sx p e b0 S0 T6 (mkF m 20 (a139 q J0) [(.int J0)]) := c2.trans (XS.astoreN X2.here hx rfl (D 2 rfl) rfl rfl (l' := (a140 q)) rfl (qA X2 hx rfl (D 3 rfl) rfl rfl (XS.ifnonnullNo X2.here hx rfl (D 4 rfl) rfl (qc X2 hx rfl (D 5 rfl) (XS.goto X2.here hx rfl (pc0 := 10) (pc' := 15) rfl (D 6 rfl) (by decide) (by decide) (XS.istoreN X2.here hx rfl (D 7 rfl) rfl (l' := (a139 q J0)) rfl (qA X2 hx rfl (D 8 rfl) rfl rfl (st6 _ (Steps.refl _)))))))))
  obtain ⟨T11, h11, X11, e11, W11, st11⟩ := putF X6 hx hZ hown (host := "") (Or.inl (Hw 354 rfl)) Via.refl e6 Fth Em (Or.inl (Hw 355 rfl)) (Hw 237 rfl) (ty := .int) (by decide) rfl rfl (g := (mkF m 128 (a141 q J0 J0 (16 : Int32) (12 : Int32)) [(.int (12 : Int32)), (.ref q)])) rfl rfl (D 25 rfl)
  have c11 : Sx p e b0 S0 T11 (mkF m 131 (a141 q J0 J0 (16 : Int32) (12 : Int32)) []) := c6.trans (XS.istoreN X6.here hx rfl (D 10 rfl) rfl (l' := (a142 q J0 J0)) rfl (qc X6 hx rfl (D 11 rfl) (XS.istore X6.here hx rfl (D 12 rfl) rfl (l' := (a143 q J0 J0 J0)) rfl (qI X6 hx rfl (D 13 rfl) rfl (XS.ifYes X6.here hx rfl (pc0 := 25) (pc' := 67) rfl (D 14 rfl) rfl ((if0 _ _).trans (flt (by decide)).2.2.2) (by decide) (by decide) (qI X6 hx rfl (D 15 rfl) rfl (XS.ifYes X6.here hx rfl (pc0 := 68) (pc' := 77) rfl (D 16 rfl) rfl ((if0 _ _).trans (flt (by decide)).2.2.2) (by decide) (by decide) (XS.bipush X6.here hx rfl (D 17 rfl) (XS.istore X6.here hx rfl (D 18 rfl) rfl (l' := (a141 q J0 J0 (16 : Int32) J0)) rfl (XS.bipush X6.here hx rfl (D 19 rfl) (XS.istore X6.here hx rfl (D 20 rfl) rfl (l' := (a141 q J0 J0 (16 : Int32) (12 : Int32))) rfl (qi X6 hx rfl (D 21 rfl) rfl (XS.ifYes X6.here hx rfl (pc0 := 87) (pc' := 125) rfl (D 22 rfl) rfl ((if0 _ _).trans (feq (by decide)).2) (by decide) (by decide) (qA X6 hx rfl (D 23 rfl) rfl rfl (qi X6 hx rfl (D 24 rfl) rfl (st11 _ (Steps.refl _)))))))))))))))))
  have Em := Em.wr W11
  have Ftb := Ftb.other W11 (own_sn (Or.inl (Hw 348 rfl)) (Or.inl (Hw 355 rfl)) (.array (.object "java/util/HashMap$Node")) .int)
  have Fth := Fth.same W11
  have Fsz := Fsz.other W11 (own_sn (Or.inl (Hw 381 rfl)) (Or.inl (Hw 355 rfl)) .int .int)
  have Fmc := Fmc.other W11 (own_sn (Or.inl (Hw 379 rfl)) (Or.inl (Hw 355 rfl)) .int .int)
  have Nf := Fr.snoc X11 N0 gm
  obtain ⟨T13, h13, kA13, X13, e13, E13, A13, A13x, O13, st13⟩ := newRE X11 hx hZ hown (Hw 356 rfl) (Hw 357 rfl) e11 (g := (mkF m 133 (a141 q J0 J0 (16 : Int32) (12 : Int32)) [(.int (16 : Int32))])) rfl (D 27 rfl) rfl (by decide) (cap := 16) (by decide) (by decide) (by decide) (by decide) (ad := "[Ljava/util/HashMap$Node;") (by decide +kernel)
  obtain ⟨b13, g13⟩ : ∃ z, z = h11.size := ⟨_, rfl⟩
  rw [← g13] at A13 A13x st13
  have V13 := Arv.new A13 (by decide)
  have c13 : Sx p e b0 S0 T13 (mkF m 136 (a141 q J0 J0 (16 : Int32) (12 : Int32)) [(.ref b13)]) := c11.trans (qi X11 hx rfl (D 26 rfl) rfl (st13 _ (Steps.refl _)))
  have Em := Em.ext E13
  have Ftb := Ftb.ext E13
  have Fth := Fth.ext E13
  have Fsz := Fsz.ext E13
  have Fmc := Fmc.ext E13
  have zk : h0.size ≤ b13 := nT (nE (own_wsz W11).symm) (nE g13.symm)
  have nbq : b13 ≠ q := Ne.symm (Nat.ne_of_lt (Nat.lt_of_lt_of_le M.1.lt zk))
  obtain ⟨T15, h15, X15, e15, W15, st15⟩ := putF X13 hx hZ hown (host := "") (Or.inl (Hw 347 rfl)) Via.refl e13 Ftb Em (Or.inl (Hw 348 rfl)) (Hw 237 rfl) (ty := (.array (.object "java/util/HashMap$Node"))) (by decide) rfl rfl (g := (mkF m 141 (a144 q J0 J0 (16 : Int32) (12 : Int32) b13) [(.ref b13), (.ref q)])) rfl rfl (D 31 rfl)
  have c15 : Sx p e b0 S0 T15 (mkF m 144 (a144 q J0 J0 (16 : Int32) (12 : Int32) b13) []) := c13.trans (XS.astore X13.here hx rfl (D 28 rfl) rfl rfl (l' := (a144 q J0 J0 (16 : Int32) (12 : Int32) b13)) rfl (qA X13 hx rfl (D 29 rfl) rfl rfl (qa X13 hx rfl (D 30 rfl) rfl rfl (st15 _ (Steps.refl _)))))
  have Em := Em.wr W15
  have Ftb := Ftb.same W15
  have Fth := Fth.other W15 (own_sn (Or.inl (Hw 355 rfl)) (Or.inl (Hw 348 rfl)) .int (.array (.object "java/util/HashMap$Node")))
  have Fsz := Fsz.other W15 (own_sn (Or.inl (Hw 381 rfl)) (Or.inl (Hw 348 rfl)) .int (.array (.object "java/util/HashMap$Node")))
  have Fmc := Fmc.other W15 (own_sn (Or.inl (Hw 379 rfl)) (Or.inl (Hw 348 rfl)) .int (.array (.object "java/util/HashMap$Node")))
  have Vp : Arv Z h15 b13 kA13 (.object own_NOn) (16 : Int32) ([] ++ List.replicate 16 .null) .null := (V13.other W15 nbq).pad (pad_rep [] .null 16)
  obtain ⟨fs, hr, r1, r2, hW, r4⟩ := X15.leave (v := some (.ref b13)) (nV hret)
  refine ⟨_, _, c15.trans ?_, r1, r2, _, _, rfl, ?_, ⟨_, rfl⟩, hW, r4.mono (by decide) (by decide)⟩
  · refine qA X15 hx rfl (D 32 rfl) rfl rfl ?_
    refine XS.ifnullYes X15.here hx rfl (pc0 := 145) (pc' := 353) rfl (D 33 rfl) rfl (by decide) (by decide) ?_
    refine qa X15 hx rfl (D 34 rfl) rfl rfl ?_
    exact retA X15 hx hret rfl rfl (D 35 rfl) hr
  · show QRs Z q h0 n0 _ T15.heap _
    rw [e15]
    exact ⟨⟨_, rfl, zk, Em, Ftb, Fth, Fsz, ⟨mc, Fmc⟩, A13x.wr W15, _, _, Vp, O13, rfl, fun i _ => pad_rep [] .null 16 i⟩, Fr.snoc X15 Nf gm, (((Keep.refl h0 [q]).wr W11 (mI 0 rfl)).ext E13).wr W15 (mI 0 rfl)⟩
def QPv (Z : State) (q tb : Addr) (occ : List Nat) (hv : Int32) (ky vl : Addr) (bk : Nat) (h0 : Heap) (n0 : Nat) (v : Option Value) (h : Heap) (L : List Loc) : Prop := v = some .null ∧ (∃ tb' : Addr, n0 ≤ tb' ∧ own_HMp Z h q tb' (bk :: occ) ∧ (tb' = tb ∨ h0.size ≤ tb')) ∧ Fr n0 L ∧ Keep h0 h [q, tb]
theorem rmPv (l : Launch) (Z : State) (a0 : Array Value) (hw : HW a0 Z) (ws : List Jvm.Cond) (q tb : Addr) (occ : List Nat) (hv : Int32) (ky vl : Addr) (bk : Nat) (h0 : Heap) (n0 : Nat) (Z0 : n0 ≤ h0.size) (M : own_HMp Z h0 q tb occ) (gm : n0 ≤ q) (gt : n0 ≤ tb) (ho : occ.length ≤ 6) (hbk0 : ((16 : Int32) - J1) &&& hv = Int32.ofNat bk) (hbk : bk < 16) (hno : bk ∉ occ) :
    own_M l yM66 jdk_69_method_16_code 13 (some (.object "java/lang/Object")) ws (rK 3 2 20 60) #[(.ref q), (.int hv), (.ref ky), (.ref vl), (.int J0), (.int J1)] Z h0 (QPv Z q tb occ hv ky vl bk h0 n0) := by
  refine own_open (by decide +kernel) dB64 fun p e s m b0 meth c s₁ S0 hx D hby hml hown hnm hret hlk hZ X0 e0 c0 => ?_
  replace c0 : Sx p e b0 S0 s₁ (mkF m 0 (a145 q hv ky vl J0 J1) []) := c0
  have Hw := @own_Hw _ _ hw
  have N0 := Fr.nil n0
  have c1 : Sx p e b0 S0 s₁ (mkF m 1 (a145 q hv ky vl J0 J1) [(.ref q)]) := c0.trans (qA X0 hx rfl (D 0 rfl) rfl rfl (Steps.refl _))
  obtain ⟨t2, T2, LL2, X2, M1, zt2, Nf, hKp, c2⟩ : ∃ (tb' : Addr) (T : State) (Lx : List Loc), Stand p l e (rK 3 2 20 60) s m #[(.ref q), (.int hv), (.ref ky), (.ref vl), (.int J0), (.int J1)] b0 meth c T Lx 1 16 ∧ own_H1 Z T.heap q tb' occ ∧ (tb' = tb ∨ h0.size ≤ tb') ∧ Fr n0 Lx ∧ Keep h0 T.heap [q, tb] ∧ Sx p e b0 S0 T (mkF m 29 (a146 q hv ky vl J0 J1 tb' (16 : Int32)) []) := by
    rcases M with ⟨ho0, -, M⟩ | M
    · subst ho0
      obtain ⟨T3, X3, e3, st3⟩ := getF X0 hx hZ hown (host := "") (Or.inl (Hw 347 rfl)) Via.refl e0 M.2.1 (g := (mkF m 1 (a145 q hv ky vl J0 J1) [(.ref q)])) rfl rfl (D 1 rfl)
      have c3 : Sx p e b0 S0 T3 (mkF m 4 (a145 q hv ky vl J0 J1) [.null]) := c1.trans (st3 _ (Steps.refl _))
      obtain ⟨cq6, kq6, q6a, q6b, q6c⟩ := isOf hZ e3 M.1
      obtain ⟨_, _, ⟨T6, L6, k6, n6⟩, -, X6, ⟨Lc6, hQ6, l6, y6, z6⟩, st6⟩ := X3.virtualBack hx (y := yM65) (z := yM65) hown (mvT hZ (Hw 349 rfl)) (mvT hZ (Hw 350 rfl)) (notFace_of_selects (args := #[]) (mvT hZ (Hw 352 rfl))) (mvT hZ (Hw 352 rfl)) (mvT hZ (Hw 351 rfl)) (by decide) (backOf (W := 0) (rmRs l Z a0 hw [] q h0 n0 Z0 M gm) hZ (Hw 353 rfl) (Hw 238 rfl) (by decide) (by decide)) q6a q6c (g := (mkF m 20 (a147 q hv ky vl J0 J1) [(.ref q)])) rfl hml.symm (Steps.refl _) (argsL := []) (rest := []) (lenOf pd27 rfl) rfl (nE rfl) (D 11 rfl) (fun _ _ => ⟨rfl, e3, (by decide : 0 + 1 ≤ _), (by decide : 0 + 16 ≤ _)⟩)
      dsimp only [Pt.U, Pt.locs, Pt.cells, Pt.slots] at X6 l6 y6 z6 st6 hQ6
      subst l6 y6 z6
      obtain ⟨⟨t2, rfl, zt2, M1⟩, N1, K1⟩ := hQ6
      have c6 : Sx p e b0 S0 T6 (mkF m 23 (a147 q hv ky vl J0 J1) [(.ref t2)]) := c3.trans (XS.dup X3.here hx rfl (D 2 rfl) rfl rfl (XS.astore X3.here hx rfl (D 3 rfl) rfl rfl (l' := (a147 q hv ky vl J0 J1)) rfl (XS.ifnullYes X3.here hx rfl (pc0 := 7) (pc' := 19) rfl (D 4 rfl) rfl (by decide) (by decide) (qA X3 hx rfl (D 10 rfl) rfl rfl (st6)))))
      obtain ⟨-, -, -, -, -, -, kk, vs, Vk, -⟩ := id M1
      obtain ⟨cz8, Az8, -, Sz8, Mz8, -, -⟩ := id Vk
      have c9 : Sx p e b0 S0 T6 (mkF m 27 (a148 q hv ky vl J0 J1 t2) [(.int (16 : Int32))]) := by
        refine c6.trans ?_
        refine XS.dup X6.here hx rfl (D 12 rfl) rfl rfl ?_
        refine XS.astore X6.here hx rfl (D 13 rfl) rfl rfl (l' := (a148 q hv ky vl J0 J1 t2)) rfl ?_
        refine X6.arraylength hx Az8.1 (State.isArrayOf_alike hZ.alike Az8.2.1) (g := (mkF m 26 (a148 q hv ky vl J0 J1 t2) [(.ref t2)])) rfl rfl (D 14 rfl) _ ?_
        rw [len_of Sz8 Mz8]
        exact Steps.refl _
      have c10 : Sx p e b0 S0 T6 (mkF m 29 (a146 q hv ky vl J0 J1 t2 (16 : Int32)) []) := c9.trans (XS.istore X6.here hx rfl (D 15 rfl) rfl (l' := (a146 q hv ky vl J0 J1 t2 (16 : Int32))) rfl (Steps.refl _))
      exact ⟨t2, _, _, X6, M1, Or.inr zt2, Fr.app N0 N1, own_Kmono K1 (fun x hx => by simp at hx ⊢; exact Or.inl hx), c10⟩
    · obtain ⟨-, Ftb, -, -, -, -, kk, vs, Vk, -⟩ := id M
      obtain ⟨T11, X11, e11, st11⟩ := getF X0 hx hZ hown (host := "") (Or.inl (Hw 347 rfl)) Via.refl e0 Ftb (g := (mkF m 1 (a145 q hv ky vl J0 J1) [(.ref q)])) rfl rfl (D 1 rfl)
      have c11 : Sx p e b0 S0 T11 (mkF m 4 (a145 q hv ky vl J0 J1) [(.ref tb)]) := c1.trans (st11 _ (Steps.refl _))
      obtain ⟨cz14, Az14, -, Sz14, Mz14, -, -⟩ := id Vk
      have c15 : Sx p e b0 S0 T11 (mkF m 13 (a148 q hv ky vl J0 J1 tb) [(.int (16 : Int32))]) := by
        refine c11.trans ?_
        refine XS.dup X11.here hx rfl (D 2 rfl) rfl rfl ?_
        refine XS.astore X11.here hx rfl (D 3 rfl) rfl rfl (l' := (a148 q hv ky vl J0 J1 tb)) rfl ?_
        refine XS.ifnullNo X11.here hx rfl (D 4 rfl) rfl ?_
        refine qa X11 hx rfl (D 5 rfl) rfl rfl ?_
        refine X11.arraylength hx (by rw [e11]; exact Az14.1) (State.isArrayOf_alike hZ.alike Az14.2.1) (g := (mkF m 12 (a148 q hv ky vl J0 J1 tb) [(.ref tb)])) rfl rfl (D 6 rfl) _ ?_
        rw [len_of Sz14 Mz14]
        exact Steps.refl _
      have c16 : Sx p e b0 S0 T11 (mkF m 29 (a146 q hv ky vl J0 J1 tb (16 : Int32)) []) := c15.trans (XS.dup X11.here hx rfl (D 7 rfl) rfl rfl (XS.istore X11.here hx rfl (D 8 rfl) rfl (l' := (a146 q hv ky vl J0 J1 tb (16 : Int32))) rfl (XS.ifYes X11.here hx rfl (pc0 := 16) (pc' := 29) rfl (D 9 rfl) rfl ((if0 _ _).trans (feq (by decide)).2) (by decide) (by decide) (Steps.refl _))))
      exact ⟨tb, _, _, X11.more (by decide) (by decide), by rw [e11]; exact M, Or.inl rfl, N0, by rw [e11]; exact Keep.refl _ _, c16⟩
  obtain ⟨Em, Ftb, Fth, Fsz, ⟨mc, Fmc⟩, Et, kk, vs, Vk, Ok, hvs, hemp⟩ := id M1
  have gt2 : n0 ≤ t2 := zt2.elim (fun q => q ▸ gt) (fun q => nT Z0 q)
  have ntq : t2 ≠ q := Et.ne Em (by decide)
  have ht2 : t2 ∈ [q, tb] ∨ h0.size ≤ t2 := zt2.imp (fun q => by simp [q]) id
  have c17 : Sx p e b0 S0 T2 (mkF m 37 (a146 q hv ky vl J0 J1 t2 (16 : Int32)) [(.int (((16 : Int32) - J1) &&& hv)), (.ref t2)]) := c2.trans (qa X2 hx rfl (D 16 rfl) rfl rfl (qi X2 hx rfl (D 17 rfl) rfl (qc X2 hx rfl (D 18 rfl) (XS.isub X2.here hx rfl (D 19 rfl) rfl (qI X2 hx rfl (D 20 rfl) rfl (XS.iand X2.here hx rfl (D 21 rfl) rfl (Steps.refl _)))))))
  rw [hbk0] at c17
  obtain ⟨cl19, Ar19, in19, hv19⟩ := own_ld (N := 16) Vk (by decide) (i := bk) hbk (j := (Int32.ofNat bk)) rfl (v := .null) (hemp bk hno)
  obtain ⟨cq22, kq22, q22a, q22b, q22c⟩ := isOf hZ rfl Em
  obtain ⟨_, _, ⟨T22, L22, k22, n22⟩, -, X22, ⟨Lc22, hQ22, l22, y22, z22⟩, st22⟩ := X2.virtualBack hx (y := yM63) (z := yM63) hown (mvT hZ (Hw 358 rfl)) (mvT hZ (Hw 359 rfl)) (notFace_of_selects (args := #[]) (mvT hZ (Hw 361 rfl))) (mvT hZ (Hw 361 rfl)) (mvT hZ (Hw 360 rfl)) (by decide) (backOf (W := 2) (rmNn l Z a0 hw [] q hv ky vl T2.heap n0 (nT Z0 hKp.1)) hZ (Hw 362 rfl) (Hw 238 rfl) (by decide) (by decide)) q22a q22c (g := (mkF m 56 (a149 q hv ky vl J0 J1 t2 (16 : Int32) (Int32.ofNat bk)) [.null, (.ref vl), (.ref ky), (.int hv), (.ref q), (.int (Int32.ofNat bk)), (.ref t2)])) rfl hml.symm (Steps.refl _) (argsL := [(.int hv), (.ref ky), (.ref vl), .null]) (rest := [(.int (Int32.ofNat bk)), (.ref t2)]) (lenOf pd28 rfl) rfl (nE rfl) (D 35 rfl) (fun _ _ => ⟨rfl, rfl, (by decide : 1 + 1 ≤ _), (by decide : 16 + 4 ≤ _)⟩)
  dsimp only [Pt.U, Pt.locs, Pt.cells, Pt.slots] at X22 l22 y22 z22 st22 hQ22
  subst l22 y22 z22
  obtain ⟨⟨nb, rfl, znb, Enb⟩, N2, K2⟩ := hQ22
  have c22 : Sx p e b0 S0 T22 (mkF m 59 (a149 q hv ky vl J0 J1 t2 (16 : Int32) (Int32.ofNat bk)) [(.ref nb), (.int (Int32.ofNat bk)), (.ref t2)]) := c17.trans (XS.dup X2.here hx rfl (D 22 rfl) rfl rfl (XS.istore X2.here hx rfl (D 23 rfl) rfl (l' := (a150 q hv ky vl J0 J1 t2 (16 : Int32) (Int32.ofNat bk))) rfl (X2.aaload hx (j := (Int32.ofNat bk)) Ar19.1 (State.isArrayOf_alike hZ.alike Ar19.2.1) rfl Ar19.2.2 in19 hv19 (g := (mkF m 40 (a150 q hv ky vl J0 J1 t2 (16 : Int32) (Int32.ofNat bk)) [(.int (Int32.ofNat bk)), (.ref t2)])) rfl rfl (D 24 rfl) _ (XS.dup X2.here hx rfl (D 25 rfl) rfl rfl (XS.astore X2.here hx rfl (D 26 rfl) rfl rfl (l' := (a149 q hv ky vl J0 J1 t2 (16 : Int32) (Int32.ofNat bk))) rfl (XS.ifnonnullNo X2.here hx rfl (D 27 rfl) rfl (qa X2 hx rfl (D 28 rfl) rfl rfl (qi X2 hx rfl (D 29 rfl) rfl (qA X2 hx rfl (D 30 rfl) rfl rfl (qI X2 hx rfl (D 31 rfl) rfl (qA X2 hx rfl (D 32 rfl) rfl rfl (qA X2 hx rfl (D 33 rfl) rfl rfl (XS.aconstNull X2.here hx rfl (D 34 rfl) (st22))))))))))))))
  have Em := Em.keep K2
  have Ftb := Ftb.keep K2 nin0
  have Fth := Fth.keep K2 nin0
  have Fsz := Fsz.keep K2 nin0
  have Fmc := Fmc.keep K2 nin0
  have Vk := Vk.keep K2 nin0
  have Et := Et.keep K2
  have Nf := Fr.app Nf N2
  have hKp := hKp.trans K2 all0
  obtain ⟨cl23, Ar23, qr23, S23, M23, Hs23, U23⟩ := id Vk
  have zj := own_nat (n := bk) (by omega)
  have inj : ¬ (Int32.ofNat bk < 0 ∨ cl23.slots.size ≤ (Int32.ofNat bk).toNatClampNeg) := by
    rw [zj, S23]
    exact fun q => q.elim (own_nn (by omega)) (fun u => absurd hbk (Nat.not_lt.mpr u))
  obtain ⟨T23, h23, X23, e23, W23, st23⟩ := stR X22 hx hZ rfl Ar23 (j := Int32.ofNat bk) (v := .ref nb) inj rfl (Sto.ofV Ar23 qr23 Ok (Ins.self Enb)) (g := (mkF m 59 (a149 q hv ky vl J0 J1 t2 (16 : Int32) (Int32.ofNat bk)) [(.ref nb), (.int (Int32.ofNat bk)), (.ref t2)])) rfl rfl (D 36 rfl)
  have V23 := Arv.set Ar23 qr23 S23 M23 Hs23 U23 rfl W23 bk zj (by omega)
  have c23 : Sx p e b0 S0 T23 (mkF m 60 (a149 q hv ky vl J0 J1 t2 (16 : Int32) (Int32.ofNat bk)) []) := c22.trans (st23 _ (Steps.refl _))
  have Em := Em.wr W23
  have Ftb := Ftb.other W23 (Or.inl (Ne.symm ntq))
  have Fth := Fth.other W23 (Or.inl (Ne.symm ntq))
  have Fsz := Fsz.other W23 (Or.inl (Ne.symm ntq))
  have Fmc := Fmc.other W23 (Or.inl (Ne.symm ntq))
  have Vk := V23
  have Et := Et.wr W23
  have Nf := Fr.snoc X23 Nf gt2
  have hKp := hKp.wr W23 ht2
  obtain ⟨T25, X25, e25, st25⟩ := getF X23 hx hZ hown (host := "") (Or.inl (Hw 378 rfl)) Via.refl e23 Fmc (g := (mkF m 261 (a149 q hv ky vl J0 J1 t2 (16 : Int32) (Int32.ofNat bk)) [(.ref q), (.ref q)])) rfl rfl (D 40 rfl)
  have c25 : Sx p e b0 S0 T25 (mkF m 264 (a149 q hv ky vl J0 J1 t2 (16 : Int32) (Int32.ofNat bk)) [(.int mc), (.ref q)]) := c23.trans (XS.goto X23.here hx rfl (pc0 := 60) (pc' := 259) rfl (D 37 rfl) (by decide) (by decide) (qA X23 hx rfl (D 38 rfl) rfl rfl (XS.dup X23.here hx rfl (D 39 rfl) rfl rfl (st25 _ (Steps.refl _)))))
  obtain ⟨T27, h27, X27, e27, W27, st27⟩ := putF X25 hx hZ hown (host := "") (Or.inl (Hw 378 rfl)) Via.refl e25 Fmc Em (Or.inl (Hw 379 rfl)) (Hw 237 rfl) (ty := .int) (by decide) rfl rfl (g := (mkF m 266 (a149 q hv ky vl J0 J1 t2 (16 : Int32) (Int32.ofNat bk)) [(.int (mc + J1)), (.ref q)])) rfl rfl (D 43 rfl)
  have c27 : Sx p e b0 S0 T27 (mkF m 269 (a149 q hv ky vl J0 J1 t2 (16 : Int32) (Int32.ofNat bk)) []) := c25.trans (qc X25 hx rfl (D 41 rfl) (XS.iadd X25.here hx rfl (D 42 rfl) rfl (st27 _ (Steps.refl _))))
  have Em := Em.wr W27
  have Ftb := Ftb.other W27 (own_sn (Or.inl (Hw 348 rfl)) (Or.inl (Hw 379 rfl)) (.array (.object "java/util/HashMap$Node")) .int)
  have Fth := Fth.other W27 (own_sn (Or.inl (Hw 355 rfl)) (Or.inl (Hw 379 rfl)) .int .int)
  have Fsz := Fsz.other W27 (own_sn (Or.inl (Hw 381 rfl)) (Or.inl (Hw 379 rfl)) .int .int)
  have Fmc := Fmc.same W27
  have Vk := Vk.other W27 ntq
  have Et := Et.wr W27
  have Nf := Fr.snoc X27 Nf gm
  have hKp := hKp.wr W27 (mI 0 rfl)
  obtain ⟨T29, X29, e29, st29⟩ := getF X27 hx hZ hown (host := "") (Or.inl (Hw 380 rfl)) Via.refl e27 Fsz (g := (mkF m 271 (a149 q hv ky vl J0 J1 t2 (16 : Int32) (Int32.ofNat bk)) [(.ref q), (.ref q)])) rfl rfl (D 46 rfl)
  have c29 : Sx p e b0 S0 T29 (mkF m 274 (a149 q hv ky vl J0 J1 t2 (16 : Int32) (Int32.ofNat bk)) [(.int (Int32.ofNat occ.length)), (.ref q)]) := c27.trans (qA X27 hx rfl (D 44 rfl) rfl rfl (XS.dup X27.here hx rfl (D 45 rfl) rfl rfl (st29 _ (Steps.refl _))))
  have c30 : Sx p e b0 S0 T29 (mkF m 276 (a149 q hv ky vl J0 J1 t2 (16 : Int32) (Int32.ofNat bk)) [(.int ((Int32.ofNat occ.length) + J1)), (.ref q)]) := c29.trans (qc X29 hx rfl (D 47 rfl) (XS.iadd X29.here hx rfl (D 48 rfl) rfl (Steps.refl _)))
  rw [show Int32.ofNat occ.length + J1 = Int32.ofNat (occ.length + 1) from own_addn (b := 1) (by omega)] at c30
  obtain ⟨T32, h32, X32, e32, W32, st32⟩ := putF X29 hx hZ hown (host := "") (Or.inl (Hw 380 rfl)) Via.refl e29 Fsz Em (Or.inl (Hw 381 rfl)) (Hw 237 rfl) (ty := .int) (by decide) rfl rfl (g := (mkF m 277 (a149 q hv ky vl J0 J1 t2 (16 : Int32) (Int32.ofNat bk)) [(.int (Int32.ofNat (occ.length + 1))), (.ref q), (.int (Int32.ofNat (occ.length + 1)))])) rfl rfl (D 50 rfl)
  have c32 : Sx p e b0 S0 T32 (mkF m 280 (a149 q hv ky vl J0 J1 t2 (16 : Int32) (Int32.ofNat bk)) [(.int (Int32.ofNat (occ.length + 1)))]) := c30.trans (XS.dupX1 X29.here hx rfl (D 49 rfl) rfl rfl rfl (st32 _ (Steps.refl _)))
  have Em := Em.wr W32
  have Ftb := Ftb.other W32 (own_sn (Or.inl (Hw 348 rfl)) (Or.inl (Hw 381 rfl)) (.array (.object "java/util/HashMap$Node")) .int)
  have Fth := Fth.other W32 (own_sn (Or.inl (Hw 355 rfl)) (Or.inl (Hw 381 rfl)) .int .int)
  have Fsz := Fsz.same W32
  have Fmc := Fmc.other W32 (own_sn (Or.inl (Hw 379 rfl)) (Or.inl (Hw 381 rfl)) .int .int)
  have Vk := Vk.other W32 ntq
  have Et := Et.wr W32
  have Nf := Fr.snoc X32 Nf gm
  have hKp := hKp.wr W32 (mI 0 rfl)
  obtain ⟨T34, X34, e34, st34⟩ := getF X32 hx hZ hown (host := "") (Or.inl (Hw 354 rfl)) Via.refl e32 Fth (g := (mkF m 281 (a149 q hv ky vl J0 J1 t2 (16 : Int32) (Int32.ofNat bk)) [(.ref q), (.int (Int32.ofNat (occ.length + 1)))])) rfl rfl (D 52 rfl)
  have c34 : Sx p e b0 S0 T34 (mkF m 284 (a149 q hv ky vl J0 J1 t2 (16 : Int32) (Int32.ofNat bk)) [(.int (12 : Int32)), (.int (Int32.ofNat (occ.length + 1)))]) := c32.trans (qA X32 hx rfl (D 51 rfl) rfl rfl (st34 _ (Steps.refl _)))
  obtain ⟨cq37, kq37, q37a, q37b, q37c⟩ := isOf hZ e34 Em
  obtain ⟨_, _, ⟨T37, L37, k37, n37⟩, -, X37, ⟨Lc37, hQ37, l37, y37, z37⟩, st37⟩ := X34.virtualBack hx (y := yM64) (z := yM64) hown (mvT hZ (Hw 382 rfl)) (mvT hZ (Hw 383 rfl)) (notFace_of_selects (args := #[]) (mvT hZ (Hw 385 rfl))) (mvT hZ (Hw 385 rfl)) (mvT hZ (Hw 384 rfl)) (by decide) (backOf (W := 0) (rmAn l Z a0 hw [] q h32 n0 (nT Z0 hKp.1)) hZ (Hw 386 rfl) (Hw 238 rfl) (by decide) (by decide)) q37a q37c (g := (mkF m 295 (a149 q hv ky vl J0 J1 t2 (16 : Int32) (Int32.ofNat bk)) [(.int J1), (.ref q)])) rfl hml.symm (Steps.refl _) (argsL := [(.int J1)]) (rest := []) (lenOf pd29 rfl) rfl (nE rfl) (D 56 rfl) (fun _ _ => ⟨rfl, e34, (by decide : 2 + 0 ≤ _), (by decide : 20 + 0 ≤ _)⟩)
  dsimp only [Pt.U, Pt.locs, Pt.cells, Pt.slots] at X37 l37 y37 z37 st37 hQ37
  subst l37 y37 z37
  obtain ⟨rfl, N5, e5⟩ := hQ37
  have c37 : Sx p e b0 S0 T37 (mkF m 298 (a149 q hv ky vl J0 J1 t2 (16 : Int32) (Int32.ofNat bk)) []) := c34.trans (XS.icmpYes X34.here hx rfl (pc0 := 284) (pc' := 292) rfl (D 53 rfl) rfl (flt (fun q => by have := (own_ltn (a := 12) (by omega) (by omega)).mp q; omega)).2.2.2 (by decide) (by decide) (qA X34 hx rfl (D 54 rfl) rfl rfl (qi X34 hx rfl (D 55 rfl) rfl (st37))))
  obtain ⟨fs, hr, r1, r2, hW, r4⟩ := X37.leave (v := some .null) (nV hret)
  refine ⟨_, _, c37.trans ?_, r1, r2, _, _, rfl, ?_, ⟨_, rfl⟩, hW, r4.mono (by decide) (by decide)⟩
  · refine XS.aconstNull X37.here hx rfl (D 57 rfl) ?_
    exact retA X37 hx hret rfl rfl (D 58 rfl) hr
  · show QPv Z q tb occ hv ky vl bk h0 n0 _ T37.heap _
    rw [e5]
    exact ⟨rfl, ⟨t2, gt2, Or.inr ⟨Em, Ftb, Fth, Fsz, ⟨_, Fmc⟩, Et, _, _, Vk, Ok, by rw [List.length_set]; exact hvs, own_vset hemp⟩, zt2⟩, Fr.app Nf N5, hKp⟩
def QPu (Z : State) (q tb : Addr) (occ : List Nat) (a : Addr) (tg ch : Nat) (gg : own_G) (h0 : Heap) (n0 : Nat) (v : Option Value) (h : Heap) (L : List Loc) : Prop := v = some .null ∧ (∃ tb' : Addr, n0 ≤ tb' ∧ own_HMp Z h q tb' (((31 * tg + ch) % 16) :: occ) ∧ (tb' = tb ∨ h0.size ≤ tb')) ∧ Fr n0 L ∧ Keep h0 h [a, q, tb] ∧ own_S2 Z h a tg ch
theorem rmPu (l : Launch) (Z : State) (a0 : Array Value) (hw : HW a0 Z) (ws : List Jvm.Cond) (q tb : Addr) (occ : List Nat) (a : Addr) (tg ch : Nat) (gg : own_G) (h0 : Heap) (n0 : Nat) (Z0 : n0 ≤ h0.size) (EV : own_Env Z gg) (X00 : Old Z n0 h0) (S : own_S2 Z h0 a tg ch) (ga : n0 ≤ a) (h0t : 0 < tg) (ht : tg < 120) (hc : ch < 256) (M : own_HMp Z h0 q tb occ) (gm : n0 ≤ q) (gt : n0 ≤ tb) (ho : occ.length ≤ 6) (hno : ((31 * tg + ch) % 16) ∉ occ) :
    own_M l yM67 jdk_69_method_15_code 3 (some (.object "java/lang/Object")) ws (rK 5 2 20 86) #[(.ref q), (.ref a), (.ref gg.pr)] Z h0 (QPu Z q tb occ a tg ch gg h0 n0) := by
  refine own_open (by decide +kernel) dB65 fun p e s m b0 meth c s₁ S0 hx D hby hml hown hnm hret hlk hZ X0 e0 c0 => ?_
  replace c0 : Sx p e b0 S0 s₁ (mkF m 0 (a101 q a gg.pr) []) := c0
  have Hw := @own_Hw _ _ hw
  have N0 := Fr.nil n0
  have naq : q ≠ a := M.exa.ne S.exa (by decide)
  have nat : tb ≠ a := M.ne S.exa (by decide) (by decide)
  obtain ⟨_, _, ⟨T2, L2, k2, n2⟩, -, X2, ⟨Lc2, hQ2, l2, y2, z2⟩, st2⟩ := Jvm.LawKit.callS X0 hx (y := yM60) hown (mvT hZ (Hw 312 rfl)) (mvT hZ (Hw 313 rfl)) (mvT hZ (Hw 238 rfl)) (mvT hZ (Hw 314 rfl)) (by decide) (backOf (W := 1) (rmHa l Z a0 hw [] a tg ch gg h0 n0 Z0 EV X00 S ga h0t ht hc) hZ (Hw 314 rfl) (Hw 238 rfl) (by decide) (by decide)) (g := (mkF m 2 (a101 q a gg.pr) [(.ref a), (.ref q)])) rfl hml.symm (argsL := [(.ref a)]) (rest := [(.ref q)]) (lenOf pd30 rfl) rfl (nE rfl) (D 2 rfl) (fun _ _ => ⟨rfl, e0, (by decide : 0 + 0 ≤ _), (by decide : 0 + 0 ≤ _)⟩)
  dsimp only [Pt.U, Pt.locs, Pt.cells, Pt.slots] at X2 l2 y2 z2 st2 hQ2
  subst l2 y2 z2
  obtain ⟨rfl, N1, K1, S1⟩ := hQ2
  have c2 : Sx p e b0 S0 T2 (mkF m 5 (a101 q a gg.pr) [(.int (own_hv tg ch)), (.ref q)]) := c0.trans (qA X0 hx rfl (D 0 rfl) rfl rfl (qA X0 hx rfl (D 1 rfl) rfl rfl (st2 _ (Steps.refl _))))
  obtain ⟨cq4, kq4, q4a, q4b, q4c⟩ := isOf hZ rfl (M.exa.keep K1)
  obtain ⟨_, _, ⟨T4, L4, k4, n4⟩, -, X4, ⟨Lc4, hQ4, l4, y4, z4⟩, st4⟩ := X2.virtualBack hx (y := yM66) (z := yM66) hown (mvT hZ (Hw 342 rfl)) (mvT hZ (Hw 343 rfl)) (notFace_of_selects (args := #[]) (mvT hZ (Hw 345 rfl))) (mvT hZ (Hw 345 rfl)) (mvT hZ (Hw 344 rfl)) (by decide) (backOf (W := 0) (rmPv l Z a0 hw [] q tb occ (own_hv tg ch) a gg.pr ((31 * tg + ch) % 16) T2.heap n0 (nT Z0 K1.1) (M.keep K1 (ninS naq nin0) (ninS nat nin0)) gm gt ho (own_and15 _ (by omega)) (Nat.mod_lt _ (by decide)) hno) hZ (Hw 346 rfl) (Hw 238 rfl) (by decide) (by decide)) q4a q4c (g := (mkF m 9 (a101 q a gg.pr) [(.int J1), (.int J0), (.ref gg.pr), (.ref a), (.int (own_hv tg ch)), (.ref q)])) rfl hml.symm (Steps.refl _) (argsL := [(.int (own_hv tg ch)), (.ref a), (.ref gg.pr), (.int J0), (.int J1)]) (rest := []) (lenOf pd31 rfl) rfl (nE rfl) (D 7 rfl) (fun _ _ => ⟨rfl, rfl, (by decide : 0 + 2 ≤ _), (by decide : 0 + 20 ≤ _)⟩)
  dsimp only [Pt.U, Pt.locs, Pt.cells, Pt.slots] at X4 l4 y4 z4 st4 hQ4
  subst l4 y4 z4
  obtain ⟨rfl, ⟨t2, gt2, M2, zt2⟩, N2, K2⟩ := hQ4
  have c4 : Sx p e b0 S0 T4 (mkF m 12 (a101 q a gg.pr) [.null]) := c2.trans (qA X2 hx rfl (D 3 rfl) rfl rfl (qA X2 hx rfl (D 4 rfl) rfl rfl (qc X2 hx rfl (D 5 rfl) (qc X2 hx rfl (D 6 rfl) (st4)))))
  have S2 := S1.keep K2 (ninS (Ne.symm naq) (ninS (Ne.symm nat) nin0)) (allS (nX (M.exa.keep K1) (by decide)) (allS ((M.keep K1 (ninS naq nin0) (ninS nat nin0)).notb (by decide) (by decide)) all0))
  obtain ⟨fs, hr, r1, r2, hW, r4⟩ := X4.leave (v := some .null) (nV hret)
  refine ⟨_, _, c4.trans ?_, r1, r2, _, _, rfl, ?_, ⟨_, rfl⟩, hW, r4.mono (by decide) (by decide)⟩
  · exact retA X4 hx hret rfl rfl (D 8 rfl) hr
  · show QPu Z q tb occ a tg ch gg h0 n0 _ T4.heap _
    exact ⟨rfl, ⟨t2, gt2, M2, zt2.imp id (nT K1.1)⟩, Fr.app (Fr.app N0 N1) N2, (own_Kmono K1 (ws' := [a, q, tb]) (fun x hx => by simp at hx ⊢; exact Or.inl hx)).trans K2 (fun x hx => Or.inl (List.mem_cons_of_mem _ hx)), S2⟩
def QSd (Z : State) (z q tb : Addr) (occ : List Nat) (a : Addr) (tg ch : Nat) (gg : own_G) (h0 : Heap) (n0 : Nat) (v : Option Value) (h : Heap) (L : List Loc) : Prop := v = some (.int 1) ∧ (∃ tb' : Addr, n0 ≤ tb' ∧ own_HMp Z h q tb' (((31 * tg + ch) % 16) :: occ) ∧ (tb' = tb ∨ h0.size ≤ tb')) ∧ Fr n0 L ∧ Keep h0 h [a, q, tb] ∧ own_S2 Z h a tg ch
theorem rmSd (l : Launch) (Z : State) (a0 : Array Value) (hw : HW a0 Z) (ws : List Jvm.Cond) (z q tb : Addr) (occ : List Nat) (a : Addr) (tg ch : Nat) (gg : own_G) (h0 : Heap) (n0 : Nat) (Z0 : n0 ≤ h0.size) (Fz : Fld Z h0 z "java/util/HashSet" "map" "Ljava/util/HashMap;" (.ref q)) (EV : own_Env Z gg) (X00 : Old Z n0 h0) (S : own_S2 Z h0 a tg ch) (ga : n0 ≤ a) (h0t : 0 < tg) (ht : tg < 120) (hc : ch < 256) (M : own_HMp Z h0 q tb occ) (gm : n0 ≤ q) (gt : n0 ≤ tb) (ho : occ.length ≤ 6) (hno : ((31 * tg + ch) % 16) ∉ occ) :
    own_M l yM68 jdk_93_method_10_code 2 (some .boolean) ws (rK 6 2 20 102) #[(.ref z), (.ref a)] Z h0 (QSd Z z q tb occ a tg ch gg h0 n0) := by
  refine own_open (by decide +kernel) dB66 fun p e s m b0 meth c s₁ S0 hx D hby hml hown hnm hret hlk hZ X0 e0 c0 => ?_
  replace c0 : Sx p e b0 S0 s₁ (mkF m 0 #[vR z, vR a] []) := c0
  have Hw := @own_Hw _ _ hw
  have N0 := Fr.nil n0
  obtain ⟨T2, X2, e2, st2⟩ := getF X0 hx hZ hown (host := "") (Or.inl (Hw 253 rfl)) Via.refl e0 Fz (g := (mkF m 1 #[vR z, vR a] [(.ref z)])) rfl rfl (D 1 rfl)
  have c2 : Sx p e b0 S0 T2 (mkF m 4 #[vR z, vR a] [(.ref q)]) := c0.trans (qA X0 hx rfl (D 0 rfl) rfl rfl (st2 _ (Steps.refl _)))
  obtain ⟨T4, X4, e4, st4⟩ := getS2 X2 hx hZ hown (host := "") (Or.inl (Hw 306 rfl)) Via.refl e2 (EV.pr.ext X00.2) (g := (mkF m 5 #[vR z, vR a] [(.ref a), (.ref q)])) rfl (D 3 rfl)
  have c4 : Sx p e b0 S0 T4 (mkF m 8 #[vR z, vR a] [(.ref gg.pr), (.ref a), (.ref q)]) := c2.trans (qA X2 hx rfl (D 2 rfl) rfl rfl (st4 _ (Steps.refl _)))
  obtain ⟨cq5, kq5, q5a, q5b, q5c⟩ := isOf hZ e4 M.exa
  obtain ⟨_, _, ⟨T5, L5, k5, n5⟩, -, X5, ⟨Lc5, hQ5, l5, y5, z5⟩, st5⟩ := X4.virtualBack hx (y := yM67) (z := yM67) hown (mvT hZ (Hw 307 rfl)) (mvT hZ (Hw 308 rfl)) (notFace_of_selects (args := #[]) (mvT hZ (Hw 310 rfl))) (mvT hZ (Hw 310 rfl)) (mvT hZ (Hw 309 rfl)) (by decide) (backOf (W := 0) (rmPu l Z a0 hw [] q tb occ a tg ch gg h0 n0 Z0 EV X00 S ga h0t ht hc M gm gt ho hno) hZ (Hw 311 rfl) (Hw 238 rfl) (by decide) (by decide)) q5a q5c (g := (mkF m 8 #[vR z, vR a] [(.ref gg.pr), (.ref a), (.ref q)])) rfl hml.symm (Steps.refl _) (argsL := [(.ref a), (.ref gg.pr)]) (rest := []) (lenOf pd32 rfl) rfl (nE rfl) (D 4 rfl) (fun _ _ => ⟨rfl, e4, (by decide : 0 + 2 ≤ _), (by decide : 0 + 20 ≤ _)⟩)
  dsimp only [Pt.U, Pt.locs, Pt.cells, Pt.slots] at X5 l5 y5 z5 st5 hQ5
  subst l5 y5 z5
  obtain ⟨rfl, D1, N1, D2⟩ := hQ5
  have c5 : Sx p e b0 S0 T5 (mkF m 11 #[vR z, vR a] [.null]) := c4.trans st5
  obtain ⟨fs, hr, r1, r2, hW, r4⟩ := X5.leave (v := some (.int 1)) (nV hret)
  refine ⟨_, _, c5.trans ?_, r1, r2, _, _, rfl, ?_, ⟨_, rfl⟩, hW, r4.mono (by decide) (by decide)⟩
  · refine XS.ifnonnullNo X5.here hx rfl (D 5 rfl) rfl ?_
    refine qc X5 hx rfl (D 6 rfl) ?_
    refine XS.goto X5.here hx rfl (pc0 := 15) (pc' := 19) rfl (D 7 rfl) (by decide) (by decide) ?_
    exact retN X5 hx (t := .boolean) hret (by simp) (D 8 rfl) hr
  · show QSd Z z q tb occ a tg ch gg h0 n0 _ T5.heap _
    exact ⟨rfl, D1, Fr.app N0 N1, D2⟩
def QMi0 (Z : State) (q : Addr) (h0 : Heap) (n0 : Nat) (v : Option Value) (h : Heap) (L : List Loc) : Prop := v = none ∧ Fr n0 L ∧ Keep h0 h [q] ∧ own_H0 Z h q
theorem rmMi0 (l : Launch) (Z : State) (a0 : Array Value) (hw : HW a0 Z) (ws : List Jvm.Cond) (q : Addr) (h0 : Heap) (n0 : Nat) (Z0 : n0 ≤ h0.size) (Em : Exa Z h0 q "java/util/HashMap") (Ftb : Fld Z h0 q "java/util/HashMap" "table" "[Ljava/util/HashMap$Node;" .null) (Fth : Fld Z h0 q "java/util/HashMap" "threshold" "I" (.int 0)) (Fsz : Fld Z h0 q "java/util/HashMap" "size" "I" (.int 0)) (Fmc : Fld Z h0 q "java/util/HashMap" "modCount" "I" (.int 0)) (Flf : Fld Z h0 q "java/util/HashMap" "loadFactor" "F" (.float 0)) (gm : n0 ≤ q) :
    own_M l yM69 jdk_69_method_7_code 1 none ws (rK 2 0 0 24) #[(.ref q)] Z h0 (QMi0 Z q h0 n0) := by
  refine own_open (by decide +kernel) dB67 fun p e s m b0 meth c s₁ S0 hx D hby hml hown hnm hret hlk hZ X0 e0 c0 => ?_
  replace c0 : Sx p e b0 S0 s₁ (mkF m 0 #[vR q] []) := c0
  have Hw := @own_Hw _ _ hw
  have N0 := Fr.nil n0
  obtain ⟨_, _, ⟨T2, L2, k2, n2⟩, -, X2, ⟨Lc2, hQ2, l2, y2, z2⟩, st2⟩ := X0.specialBack hx (y := yM6) rfl hown (mvT hZ (Hw 243 rfl)) (mvT hZ (Hw 244 rfl)) (mvT hZ (Hw 248 rfl)) (by decide) (backOf (W := 0) (rmAm l Z a0 hw [] q h0 n0 Z0) hZ (Hw 248 rfl) (Hw 247 rfl) (by decide) (by decide)) (g := (mkF m 1 #[vR q] [(.ref q)])) rfl hml.symm (Steps.refl _) (a := q) (argsL := []) (rest := []) (lenOf pd0 rfl) rfl (nE rfl) (D 1 rfl) (fun _ _ => ⟨rfl, e0, (by decide : 0 + 0 ≤ _), (by decide : 0 + 0 ≤ _)⟩)
  dsimp only [Pt.U, Pt.locs, Pt.cells, Pt.slots] at X2 l2 y2 z2 st2 hQ2
  subst l2 y2 z2
  obtain ⟨rfl, N1, e1⟩ := hQ2
  have c2 : Sx p e b0 S0 T2 (mkF m 4 #[vR q] []) := c0.trans (qA X0 hx rfl (D 0 rfl) rfl rfl (st2))
  obtain ⟨T4, h4, X4, e4, W4, st4⟩ := putF X2 hx hZ hown (host := "") (Or.inl (Hw 251 rfl)) Via.refl e1 Flf Em (Or.inr ⟨(Hw 252 rfl), rfl, hnm⟩) (Hw 237 rfl) (ty := .float) (by decide) rfl rfl (g := (mkF m 7 #[vR q] [(.float (1061158912 : UInt32)), (.ref q)])) rfl rfl (D 4 rfl)
  have c4 : Sx p e b0 S0 T4 (mkF m 10 #[vR q] []) := c2.trans (qA X2 hx rfl (D 2 rfl) rfl rfl (X2.ldcFloatC hx hown (mvT hZ (Hw 250 rfl)) (g := (mkF m 5 #[vR q] [(.ref q)])) rfl (D 3 rfl) _ (st4 _ (Steps.refl _))))
  have Em := Em.wr W4
  have Ftb := Ftb.other W4 (own_sn (Or.inl (Hw 348 rfl)) (Or.inr (Hw 252 rfl)) (.array (.object "java/util/HashMap$Node")) .float)
  have Fth := Fth.other W4 (own_sn (Or.inl (Hw 355 rfl)) (Or.inr (Hw 252 rfl)) .int .float)
  have Fsz := Fsz.other W4 (own_sn (Or.inl (Hw 381 rfl)) (Or.inr (Hw 252 rfl)) .int .float)
  have Fmc := Fmc.other W4 (own_sn (Or.inl (Hw 379 rfl)) (Or.inr (Hw 252 rfl)) .int .float)
  have Flf := Flf.same W4
  obtain ⟨fs, hr, r1, r2, hW, r4⟩ := X4.leave (v := none) (fun _ => rfl)
  refine ⟨_, _, c4.trans ?_, r1, r2, _, _, rfl, ?_, ⟨_, rfl⟩, hW, r4.mono (by decide) (by decide)⟩
  · exact X4.returnOut hx hret (D 5 rfl) hr
  · show QMi0 Z q h0 n0 _ T4.heap _
    rw [e4]
    exact ⟨rfl, Fr.snoc X4 (Fr.app N0 N1) gm, (Keep.refl _ _).wr W4 (mI 0 rfl), Em, Ftb, Fth, Fsz, _, Fmc⟩
def QSi0 (Z : State) (z : Addr) (h0 : Heap) (n0 : Nat) (v : Option Value) (h : Heap) (L : List Loc) : Prop := v = none ∧ Fr n0 L ∧ Keep h0 h [z] ∧ ∃ q : Addr, h0.size ≤ q ∧ Fld Z h z "java/util/HashSet" "map" "Ljava/util/HashMap;" (.ref q) ∧ own_H0 Z h q
theorem rmSi0 (l : Launch) (Z : State) (a0 : Array Value) (hw : HW a0 Z) (ws : List Jvm.Cond) (z : Addr) (h0 : Heap) (n0 : Nat) (Z0 : n0 ≤ h0.size) (Es : Exa Z h0 z "java/util/HashSet") (Fp : Fld Z h0 z "java/util/HashSet" "map" "Ljava/util/HashMap;" .null) (gz : n0 ≤ z) :
    own_M l yM70 jdk_93_method_1_code 1 none ws (rK 3 1 8 40) #[(.ref z)] Z h0 (QSi0 Z z h0 n0) := by
  refine own_open (by decide +kernel) dB68 fun p e s m b0 meth c s₁ S0 hx D hby hml hown hnm hret hlk hZ X0 e0 c0 => ?_
  replace c0 : Sx p e b0 S0 s₁ (mkF m 0 #[vR z] []) := c0
  have Hw := @own_Hw _ _ hw
  have N0 := Fr.nil n0
  obtain ⟨_, _, ⟨T2, L2, k2, n2⟩, -, X2, ⟨Lc2, hQ2, l2, y2, z2⟩, st2⟩ := X0.specialBack hx (y := yM5) rfl hown (mvT hZ (Hw 228 rfl)) (mvT hZ (Hw 229 rfl)) (mvT hZ (Hw 233 rfl)) (by decide) (backOf (W := 0) (rmAs l Z a0 hw [] z h0 n0 Z0) hZ (Hw 233 rfl) (Hw 232 rfl) (by decide) (by decide)) (g := (mkF m 1 #[vR z] [(.ref z)])) rfl hml.symm (Steps.refl _) (a := z) (argsL := []) (rest := []) (lenOf pd0 rfl) rfl (nE rfl) (D 1 rfl) (fun _ _ => ⟨rfl, e0, (by decide : 0 + 0 ≤ _), (by decide : 0 + 0 ≤ _)⟩)
  dsimp only [Pt.U, Pt.locs, Pt.cells, Pt.slots] at X2 l2 y2 z2 st2 hQ2
  subst l2 y2 z2
  obtain ⟨rfl, N1, e1⟩ := hQ2
  have c2 : Sx p e b0 S0 T2 (mkF m 4 #[vR z] []) := c0.trans (qA X0 hx rfl (D 0 rfl) rfl rfl (st2))
  obtain ⟨T4, h4, X4, e4, E4, A4, D4, -, st4⟩ := newO X2 hx hZ hown (Hw 236 rfl) (Hw 237 rfl) (Hw 238 rfl) e1 (g := (mkF m 5 #[vR z] [(.ref z)])) rfl (D 3 rfl) (by decide) (by decide)
  obtain ⟨b4, g4⟩ : ∃ z, z = h0.size := ⟨_, rfl⟩
  rw [← g4] at A4 D4 st4
  have c4 : Sx p e b0 S0 T4 (mkF m 8 #[vR z] [(.ref b4), (.ref z)]) := c2.trans (qA X2 hx rfl (D 2 rfl) rfl rfl (st4 _ (Steps.refl _)))
  have Em := A4
  have Ftb : Fld Z h4 b4 "java/util/HashMap" "table" "[Ljava/util/HashMap$Node;" .null := D4 (Or.inl (Hw 348 rfl)) (ty := (.array (.object "java/util/HashMap$Node"))) (by decide)
  have Fth : Fld Z h4 b4 "java/util/HashMap" "threshold" "I" (.int 0) := D4 (Or.inl (Hw 355 rfl)) (ty := .int) (by decide)
  have Fsz : Fld Z h4 b4 "java/util/HashMap" "size" "I" (.int 0) := D4 (Or.inl (Hw 381 rfl)) (ty := .int) (by decide)
  have Fmc : Fld Z h4 b4 "java/util/HashMap" "modCount" "I" (.int 0) := D4 (Or.inl (Hw 379 rfl)) (ty := .int) (by decide)
  have Flf : Fld Z h4 b4 "java/util/HashMap" "loadFactor" "F" (.float 0) := D4 (Or.inr (Hw 252 rfl)) (ty := .float) (by decide)
  have z4 : h0.size ≤ b4 := nE g4.symm
  have n4b : n0 ≤ b4 := nT Z0 z4
  have hlt := Es.lt
  have Es := Es.ext E4
  have Fp := Fp.ext E4
  obtain ⟨_, _, ⟨T6, L6, k6, n6⟩, -, X6, ⟨Lc6, hQ6, l6, y6, z6⟩, st6⟩ := X4.specialBack hx (y := yM69) rfl hown (mvT hZ (Hw 239 rfl)) (mvT hZ (Hw 240 rfl)) (mvT hZ (Hw 242 rfl)) (by decide) (backOf (W := 2) (rmMi0 l Z a0 hw [] b4 h4 n0 (nT Z0 E4.1) Em Ftb Fth Fsz Fmc Flf n4b) hZ (Hw 242 rfl) (Hw 238 rfl) (by decide) (by decide)) (g := (mkF m 9 #[vR z] [(.ref b4), (.ref b4), (.ref z)])) rfl hml.symm (Steps.refl _) (a := b4) (argsL := []) (rest := [(.ref b4), (.ref z)]) (lenOf pd0 rfl) rfl (nE rfl) (D 5 rfl) (fun _ _ => ⟨rfl, e4, (by decide : 1 + 0 ≤ _), (by decide : 8 + 0 ≤ _)⟩)
  dsimp only [Pt.U, Pt.locs, Pt.cells, Pt.slots] at X6 l6 y6 z6 st6 hQ6
  subst l6 y6 z6
  obtain ⟨rfl, N2, K2, M2⟩ := hQ6
  have c6 : Sx p e b0 S0 T6 (mkF m 12 #[vR z] [(.ref b4), (.ref z)]) := c4.trans (XS.dup X4.here hx rfl (D 4 rfl) rfl rfl (st6))
  have nzb : z ≠ b4 := Nat.ne_of_lt (Nat.lt_of_lt_of_le hlt z4)
  have Es := Es.keep K2
  have Fp := Fp.keep K2 (ninS nzb nin0)
  obtain ⟨T7, h7, X7, e7, W7, st7⟩ := putF X6 hx hZ hown (host := "") (Or.inl (Hw 253 rfl)) Via.refl rfl Fp Es (Or.inl (Hw 254 rfl)) (Hw 223 rfl) (ty := (.object "java/util/HashMap")) (by decide) rfl rfl (g := (mkF m 12 #[vR z] [(.ref b4), (.ref z)])) rfl rfl (D 6 rfl)
  have c7 : Sx p e b0 S0 T7 (mkF m 15 #[vR z] []) := c6.trans (st7 _ (Steps.refl _))
  have Es := Es.wr W7
  have Fp := Fp.same W7
  obtain ⟨m1, m2, m3, m4, mc, m5⟩ := M2
  obtain ⟨fs, hr, r1, r2, hW, r4⟩ := X7.leave (v := none) (fun _ => rfl)
  refine ⟨_, _, c7.trans ?_, r1, r2, _, _, rfl, ?_, ⟨_, rfl⟩, hW, r4.mono (by decide) (by decide)⟩
  · exact X7.returnOut hx hret (D 7 rfl) hr
  · show QSi0 Z z h0 n0 _ T7.heap _
    rw [e7]
    exact ⟨rfl, Fr.snoc X7 (Fr.app (Fr.app N0 N1) N2) gz, (((Keep.refl h0 [z]).ext E4).trans K2 (fun x hx => by cases List.mem_singleton.mp hx; exact Or.inr z4)).wr W7 (mI 0 rfl), _, z4, Fp, m1.wr W7, m2.other W7 (Or.inl (Ne.symm nzb)), m3.other W7 (Or.inl (Ne.symm nzb)), m4.other W7 (Or.inl (Ne.symm nzb)), mc, m5.other W7 (Or.inl (Ne.symm nzb))⟩
def QLc (Z : State) (r : Addr) (xs : List Addr) (gg : own_G) (h0 : Heap) (n0 : Nat) (v : Option Value) (h : Heap) (L : List Loc) : Prop := v = some (.ref r) ∧ Fr n0 L ∧ h = h0
theorem rmLc (l : Launch) (Z : State) (a0 : Array Value) (hw : HW a0 Z) (ws : List Jvm.Cond) (r : Addr) (xs : List Addr) (gg : own_G) (h0 : Heap) (n0 : Nat) (Z0 : n0 ≤ h0.size) (Lr : own_Lst Z gg h0 r xs) :
    own_M l yM71 jdk_56_method_3_code 2 (some (.object "java/util/List")) ws (rK 0 0 0 0) #[(.ref r)] Z h0 (QLc Z r xs gg h0 n0) := by
  refine own_open (by decide +kernel) dB69 fun p e s m b0 meth c s₁ S0 hx D hby hml hown hnm hret hlk hZ X0 e0 c0 => ?_
  replace c0 : Sx p e b0 S0 s₁ (mkF m 0 #[vR r, uU] []) := c0
  have Hw := @own_Hw _ _ hw
  have N0 := Fr.nil n0
  have c1 : Sx p e b0 S0 s₁ (mkF m 1 #[vR r, uU] [(.ref r)]) := c0.trans (qA X0 hx rfl (D 0 rfl) rfl rfl (Steps.refl _))
  rcases Lr with ⟨Er, -⟩ | ⟨Er, t, Fl, Fw, -⟩
  · obtain ⟨T2, X2, e2, st2⟩ := instY X0 hx hZ hown (Hw 100 rfl) e0 (Ins.self Er) (g := (mkF m 1 #[vR r, uU] [(.ref r)])) rfl rfl (D 1 rfl)
    have c2 : Sx p e b0 S0 T2 (mkF m 4 #[vR r, uU] [(.int J1)]) := c1.trans (st2 _ (Steps.refl _))
    obtain ⟨T5, X5, e5, st5⟩ := castY X2 hx hZ hown (Hw 110 rfl) e2 (Ins.of_exa Er (Hw 510 rfl)) (g := (mkF m 27 #[vR r, uU] [(.ref r)])) rfl rfl (D 13 rfl)
    have c5 : Sx p e b0 S0 T5 (mkF m 30 #[vR r, uU] [(.ref r)]) := c2.trans (XS.ifYes X2.here hx rfl (pc0 := 4) (pc' := 26) rfl (D 2 rfl) rfl ((if0 _ _).trans (feq (by decide)).2) (by decide) (by decide) (qA X2 hx rfl (D 12 rfl) rfl rfl (st5 _ (Steps.refl _))))
    obtain ⟨fs, hr, r1, r2, hW, r4⟩ := X5.leave (v := some (.ref r)) (nV hret)
    refine ⟨_, _, c5.trans ?_, r1, r2, _, _, rfl, ?_, ⟨_, rfl⟩, hW, r4.mono (by decide) (by decide)⟩
    · exact retA X5 hx hret rfl rfl (D 14 rfl) hr
    · show QLc Z r xs gg h0 n0 _ T5.heap _
      rw [e5]
      exact ⟨rfl, N0, rfl⟩
  · obtain ⟨T6, X6, e6, st6⟩ := instNo X0 hx hZ hown (Hw 100 rfl) e0 Er (own_no (Hw 101 rfl) (Hw 451 rfl) (NS.step (Hw 101 rfl) (NS.step (Hw 102 rfl) (NS.step (Hw 103 rfl) (NS.step (Hw 104 rfl) (own_root (Hw 105 rfl) (Hw 451 rfl) (by decide)) (by decide)) (by decide)) (by decide)) (by decide)) (by decide)) (g := (mkF m 1 #[vR r, uU] [(.ref r)])) rfl rfl (D 1 rfl)
    have c6 : Sx p e b0 S0 T6 (mkF m 4 #[vR r, uU] [(.int J0)]) := c1.trans (st6 _ (Steps.refl _))
    obtain ⟨T9, X9, e9, st9⟩ := instY X6 hx hZ hown (Hw 106 rfl) e6 (Ins.self Er) (g := (mkF m 8 #[vR r, uU] [(.ref r)])) rfl rfl (D 4 rfl)
    have c9 : Sx p e b0 S0 T9 (mkF m 11 #[vR r, uU] [(.int J1)]) := c6.trans (XS.ifNo X6.here hx rfl (D 2 rfl) rfl ((if0 _ _).trans (teq rfl).2) (qA X6 hx rfl (D 3 rfl) rfl rfl (st9 _ (Steps.refl _))))
    obtain ⟨T12, X12, e12, st12⟩ := castY X9 hx hZ hown (Hw 106 rfl) e9 (Ins.self Er) (g := (mkF m 15 #[vR r, uU] [(.ref r)])) rfl rfl (D 7 rfl)
    have c12 : Sx p e b0 S0 T12 (mkF m 18 #[vR r, uU] [(.ref r)]) := c9.trans (XS.ifNo X9.here hx rfl (D 5 rfl) rfl ((if0 _ _).trans (feq (by decide)).1) (qA X9 hx rfl (D 6 rfl) rfl rfl (st12 _ (Steps.refl _))))
    obtain ⟨T14, X14, e14, st14⟩ := getF X12 hx hZ hown (Or.inr (Hw 108 rfl)) Via.refl e12 Fw (g := (mkF m 20 #[vR r, vR r] [(.ref r)])) rfl rfl (D 10 rfl)
    have c14 : Sx p e b0 S0 T14 (mkF m 23 #[vR r, vR r] [(.int J0)]) := c12.trans (XS.astoreN X12.here hx rfl (D 8 rfl) rfl rfl (l' := #[vR r, vR r]) rfl (qA X12 hx rfl (D 9 rfl) rfl rfl (st14 _ (Steps.refl _))))
    obtain ⟨T17, X17, e17, st17⟩ := castY X14 hx hZ hown (Hw 110 rfl) e14 (Ins.of_exa Er (Hw 111 rfl)) (g := (mkF m 27 #[vR r, vR r] [(.ref r)])) rfl rfl (D 13 rfl)
    have c17 : Sx p e b0 S0 T17 (mkF m 30 #[vR r, vR r] [(.ref r)]) := c14.trans (XS.ifNo X14.here hx rfl (D 11 rfl) rfl ((if0 _ _).trans (teq rfl).2) (qA X14 hx rfl (D 12 rfl) rfl rfl (st17 _ (Steps.refl _))))
    obtain ⟨fs, hr, r1, r2, hW, r4⟩ := X17.leave (v := some (.ref r)) (nV hret)
    refine ⟨_, _, c17.trans ?_, r1, r2, _, _, rfl, ?_, ⟨_, rfl⟩, hW, r4.mono (by decide) (by decide)⟩
    · exact retA X17 hx hret rfl rfl (D 14 rfl) hr
    · show QLc Z r xs gg h0 n0 _ T17.heap _
      rw [e17]
      exact ⟨rfl, N0, rfl⟩
def QLo (Z : State) (r : Addr) (xs : List Addr) (gg : own_G) (h0 : Heap) (n0 : Nat) (v : Option Value) (h : Heap) (L : List Loc) : Prop := v = some (.ref r) ∧ Fr n0 L ∧ h = h0
theorem rmLo (l : Launch) (Z : State) (a0 : Array Value) (hw : HW a0 Z) (ws : List Jvm.Cond) (r : Addr) (xs : List Addr) (gg : own_G) (h0 : Heap) (n0 : Nat) (Z0 : n0 ≤ h0.size) (Lr : own_Lst Z gg h0 r xs) :
    own_M l yM72 jdk_40_method_48_code 1 (some (.object "java/util/List")) ws (rK 1 0 0 14) #[(.ref r)] Z h0 (QLo Z r xs gg h0 n0) := by
  refine own_open (by decide +kernel) dB70 fun p e s m b0 meth c s₁ S0 hx D hby hml hown hnm hret hlk hZ X0 e0 c0 => ?_
  replace c0 : Sx p e b0 S0 s₁ (mkF m 0 #[vR r] []) := c0
  have Hw := @own_Hw _ _ hw
  have N0 := Fr.nil n0
  obtain ⟨_, _, ⟨T2, L2, k2, n2⟩, -, X2, ⟨Lc2, hQ2, l2, y2, z2⟩, st2⟩ := Jvm.LawKit.callS X0 hx (y := yM71) hown (mvT hZ (Hw 97 rfl)) (mvT hZ (Hw 98 rfl)) (mvT hZ (Hw 70 rfl)) (mvT hZ (Hw 99 rfl)) (by decide) (backOf (W := 0) (rmLc l Z a0 hw [] r xs gg h0 n0 Z0 Lr) hZ (Hw 99 rfl) (Hw 70 rfl) (by decide) (by decide)) (g := (mkF m 1 #[vR r] [(.ref r)])) rfl hml.symm (argsL := [(.ref r)]) (rest := []) (lenOf pd33 rfl) rfl (nE rfl) (D 1 rfl) (fun _ _ => ⟨rfl, e0, (by decide : 0 + 0 ≤ _), (by decide : 0 + 0 ≤ _)⟩)
  dsimp only [Pt.U, Pt.locs, Pt.cells, Pt.slots] at X2 l2 y2 z2 st2 hQ2
  subst l2 y2 z2
  obtain ⟨rfl, N1, e1⟩ := hQ2
  have c2 : Sx p e b0 S0 T2 (mkF m 4 #[vR r] [(.ref r)]) := c0.trans (qA X0 hx rfl (D 0 rfl) rfl rfl (st2 _ (Steps.refl _)))
  obtain ⟨fs, hr, r1, r2, hW, r4⟩ := X2.leave (v := some (.ref r)) (nV hret)
  refine ⟨_, _, c2.trans ?_, r1, r2, _, _, rfl, ?_, ⟨_, rfl⟩, hW, r4.mono (by decide) (by decide)⟩
  · exact retA X2 hx hret rfl rfl (D 2 rfl) hr
  · show QLo Z r xs gg h0 n0 _ T2.heap _
    rw [e1]
    exact ⟨rfl, Fr.app N0 N1, rfl⟩
def QTu : Prop := True
theorem rmTu (l : Launch) (Z : State) (a0 : Array Value) (hw : HW a0 Z) (p : Program) (e : Env) (s : State) (m : MethodId) (args : Array Value) (b0 : List Frame) (meth : Method) (c : Code) (T : State) (locs : List Loc) (cells slots : Nat) (i tn ky sy ey al a7 zz it q tb ed u : Addr) (xs : List Addr) (N : Nat) (mc : Int32) (j tg ch : Nat) (occ : List Nat) (gg : own_G) (H : Heap) (n0 : Nat) (X : Stand p l e (rK 8 26 240 140) s m args b0 meth c T locs cells slots) (hx : p.tables.exec = Jvm.exec) (hby : c.code = prog_11_method_1_code) (hml : c.maxLocals = 11) (hZ : Z.Warmed39 s.vm) (hown : s.vm.findClass "com/example/spanfold/spanfold/Input" = some m.cls) (e0 : T.heap = H) (Zh : n0 ≤ H.size) (hce : cells + 2 ≤ 26) (hsl : slots + 20 ≤ 240) (Nf : Fr n0 locs) (EV : own_Env Z gg) (hO : Old Z n0 H) (A : own_ALs Z H a7 ed xs N mc) (I : own_It Z H it a7 j mc) (hi : xs[j]? = some u) (git : n0 ≤ it) (Es : Exa Z H zz "java/util/HashSet") (Fz : Fld Z H zz "java/util/HashSet" "map" "Ljava/util/HashMap;" (.ref q)) (S : own_S2 Z H u tg ch) (gu : n0 ≤ u) (h0t : 0 < tg) (ht : tg < 120) (hc : ch < 256) (M : own_HMp Z H q tb occ) (gq : n0 ≤ q) (gtb : n0 ≤ tb) (ho : occ.length ≤ 6) (hno : ((31 * tg + ch) % 16) ∉ occ) :
    ∃ (T' : State) (L' : List Loc), Stand p l e (rK 8 26 240 140) s m args b0 meth c T' L' (cells + 2) (slots + 20) ∧ Fr n0 L' ∧ Keep H T'.heap [it, u, q, tb] ∧ own_It Z T'.heap it a7 (j + 1) mc ∧ own_S2 Z T'.heap u tg ch ∧ (∃ tb' : Addr, n0 ≤ tb' ∧ own_HMp Z T'.heap q tb' (((31 * tg + ch) % 16) :: occ) ∧ (tb' = tb ∨ H.size ≤ tb')) ∧ Steps p.tables e b0 (T.setTop (mkF m 107 (a151 i tn ky sy ey al a7 zz it) [])) (T'.setTop (mkF m 107 (a152 i tn ky sy ey al a7 zz it u) [])) := by
  have D := @own_dec _ _ _ dB71 hby
  have Hw := @own_Hw _ _ hw
  obtain ⟨S0, hS0⟩ : ∃ S, S = T.setTop (mkF m 107 (a151 i tn ky sy ey al a7 zz it) []) := ⟨_, rfl⟩
  have c0 : Sx p e b0 S0 T (mkF m 107 (a151 i tn ky sy ey al a7 zz it) []) := by rw [hS0]; exact Steps.refl _
  rw [← hS0]
  have hlt : j < xs.length := (List.getElem?_eq_some_iff.mp hi).1
  obtain ⟨cq2, kq2, q2a, q2b, q2c⟩ := isOf hZ e0 I.1
  obtain ⟨_, _, ⟨T2, L2, k2, n2⟩, -, X2, ⟨Lc2, hQ2, l2, y2, z2⟩, st2⟩ := X.interfaceBack hx (xi := yM73) (y := yM46) (C := "java/util/ArrayList$Itr") hown (mvT hZ (Hw 275 rfl)) (mvT hZ (Hw 276 rfl)) (mvT hZ (Hw 277 rfl)) (mvT hZ (Hw 278 rfl)) (mvT hZ (Hw 279 rfl)) (mvT hZ (Hw 280 rfl)) (mvT hZ (Hw 281 rfl)) (mvT hZ (Hw 282 rfl)) (by decide) (backOf (W := 0) (rmH1 l Z a0 hw [] it a7 ed xs N mc j H n0 Zh I A hlt) hZ (Hw 283 rfl) (Hw 262 rfl) (by decide) (by decide)) q2a q2b q2c (g := (mkF m 109 (a151 i tn ky sy ey al a7 zz it) [(.ref it)])) rfl hml.symm (Steps.refl _) (argsL := []) (rest := []) (lenOf pd23 rfl) rfl (nE rfl) (D 51 rfl) (fun _ _ => ⟨rfl, e0, (nT (Nat.add_le_add_left (by decide) _) hce), (nT (Nat.add_le_add_left (by decide) _) hsl)⟩)
  dsimp only [Pt.U, Pt.locs, Pt.cells, Pt.slots] at X2 l2 y2 z2 st2 hQ2
  subst l2 y2 z2
  obtain ⟨rfl, N1, e1⟩ := hQ2
  have c2 : Sx p e b0 S0 T2 (mkF m 114 (a151 i tn ky sy ey al a7 zz it) [(.int J1)]) := c0.trans (qa X hx rfl (D 50 rfl) rfl rfl (st2))
  have Nf := Fr.app Nf N1
  have nit : ∀ {x : Addr} {C : String}, Exa Z H x C → C ≠ own_ITR → x ≠ it := fun E h => E.ne I.1 h
  obtain ⟨cq5, kq5, q5a, q5b, q5c⟩ := isOf hZ e1 I.1
  obtain ⟨_, _, ⟨T5, L5, k5, n5⟩, -, X5, ⟨Lc5, hQ5, l5, y5, z5⟩, st5⟩ := X2.interfaceBack hx (xi := yM74) (y := yM48) (C := "java/util/ArrayList$Itr") hown (mvT hZ (Hw 287 rfl)) (mvT hZ (Hw 288 rfl)) (mvT hZ (Hw 289 rfl)) (mvT hZ (Hw 290 rfl)) (mvT hZ (Hw 291 rfl)) (mvT hZ (Hw 292 rfl)) (mvT hZ (Hw 293 rfl)) (mvT hZ (Hw 282 rfl)) (by decide) (backOf (W := 0) (rmNx l Z a0 hw [] it a7 ed xs N mc j u H n0 Zh I A hi git (nit A.2.2.2.2.2.1 (by decide)) (nit A.1 (by decide))) hZ (Hw 294 rfl) (Hw 262 rfl) (by decide) (by decide)) q5a q5b q5c (g := (mkF m 119 (a151 i tn ky sy ey al a7 zz it) [(.ref it)])) rfl hml.symm (Steps.refl _) (argsL := []) (rest := []) (lenOf pd34 rfl) rfl (nE rfl) (D 54 rfl) (fun _ _ => ⟨rfl, e1, (nT (Nat.add_le_add_left (by decide) _) hce), (nT (Nat.add_le_add_left (by decide) _) hsl)⟩)
  dsimp only [Pt.U, Pt.locs, Pt.cells, Pt.slots] at X5 l5 y5 z5 st5 hQ5
  subst l5 y5 z5
  obtain ⟨rfl, N1, K1, I2⟩ := hQ5
  have c5 : Sx p e b0 S0 T5 (mkF m 124 (a151 i tn ky sy ey al a7 zz it) [(.ref u)]) := c2.trans (XS.ifNo X2.here hx rfl (D 52 rfl) rfl ((if0 _ _).trans (feq (by decide)).1) (qa X2 hx rfl (D 53 rfl) rfl rfl (st5)))
  have Nf := Fr.app Nf N1
  have nut : u ≠ it := nit S.exa (by decide)
  have S1 := S.keep K1 (ninS nut nin0) (allS (nX I.1 (by decide)) all0)
  have M1 := M.keep K1 (ninS (nit M.exa (by decide)) nin0) (ninS (M.ne I.1 (by decide) (by decide)) nin0)
  have Fz1 := Fz.keep K1 (ninS (nit Es (by decide)) nin0)
  have Es1 := Es.keep K1
  have hO1 := hO.keep K1 (allS git all0)
  have Z1 := nT Zh K1.1
  have nqi : it ≠ q := I2.1.ne M1.exa (by decide)
  have nti : it ≠ tb := Ne.symm (M1.ne I2.1 (by decide) (by decide))
  obtain ⟨T6, X6, e6, st6⟩ := castY X5 hx hZ hown (Hw 85 rfl) rfl (Ins.self S1.exa) (g := (mkF m 124 (a151 i tn ky sy ey al a7 zz it) [(.ref u)])) rfl rfl (D 55 rfl)
  have c6 : Sx p e b0 S0 T6 (mkF m 127 (a151 i tn ky sy ey al a7 zz it) [(.ref u)]) := c5.trans (st6 _ (Steps.refl _))
  obtain ⟨cq8, kq8, q8a, q8b, q8c⟩ := isOf hZ e6 Es1
  obtain ⟨_, _, ⟨T8, L8, k8, n8⟩, -, X8, ⟨Lc8, hQ8, l8, y8, z8⟩, st8⟩ := X6.virtualBack hx (y := yM68) (z := yM68) hown (mvT hZ (Hw 301 rfl)) (mvT hZ (Hw 302 rfl)) (notFace_of_selects (args := #[]) (mvT hZ (Hw 304 rfl))) (mvT hZ (Hw 304 rfl)) (mvT hZ (Hw 303 rfl)) (by decide) (backOf (W := 0) (rmSd l Z a0 hw [] zz q tb occ u tg ch gg T5.heap n0 Z1 Fz1 EV hO1 S1 gu h0t ht hc M1 gq gtb ho hno) hZ (Hw 305 rfl) (Hw 224 rfl) (by decide) (by decide)) q8a q8c (g := (mkF m 133 (a152 i tn ky sy ey al a7 zz it u) [(.ref u), (.ref zz)])) rfl hml.symm (Steps.refl _) (argsL := [(.ref u)]) (rest := []) (lenOf pd35 rfl) rfl (nE rfl) (D 59 rfl) (fun _ _ => ⟨rfl, e6, (nT (Nat.add_le_add_left (by decide) _) hce), (nT (Nat.add_le_add_left (by decide) _) hsl)⟩)
  dsimp only [Pt.U, Pt.locs, Pt.cells, Pt.slots] at X8 l8 y8 z8 st8 hQ8
  subst l8 y8 z8
  obtain ⟨rfl, ⟨tb2, gtb2, M2, ztb2⟩, N1, K2, Sn⟩ := hQ8
  have c8 : Sx p e b0 S0 T8 (mkF m 136 (a152 i tn ky sy ey al a7 zz it u) [(.int J1)]) := c6.trans (XS.astore X6.here hx rfl (D 56 rfl) rfl rfl (l' := (a152 i tn ky sy ey al a7 zz it u)) rfl (qa X6 hx rfl (D 57 rfl) rfl rfl (qa X6 hx rfl (D 58 rfl) rfl rfl (st8))))
  have Nf := Fr.app Nf N1
  have c10 : Sx p e b0 S0 T8 (mkF m 107 (a152 i tn ky sy ey al a7 zz it u) []) := c8.trans (XS.ifYes X8.here hx rfl (pc0 := 136) (pc' := 154) rfl (D 60 rfl) rfl ((if0 _ _).trans (feq (by decide)).2) (by decide) (by decide) (XS.goto X8.here hx rfl (pc0 := 154) (pc' := 107) rfl (D 61 rfl) (by decide) (by decide) (Steps.refl _)))
  exact ⟨_, _, X8, Nf, (own_Kmono K1 (ws' := [it, u, q, tb]) (fun x hx => by simp at hx ⊢; exact Or.inl hx)).trans K2 (fun x hx => Or.inl (List.mem_cons_of_mem _ hx)), I2.keep K2 (ninS (Ne.symm nut) (ninS nqi (ninS nti nin0))), Sn, ⟨tb2, gtb2, M2, ztb2.imp id (nT K1.1)⟩, c10⟩
def QTr : Prop := True
theorem rmTr (l : Launch) (Z : State) (a0 : Array Value) (hw : HW a0 Z) (p : Program) (e : Env) (s : State) (m : MethodId) (args : Array Value) (b0 : List Frame) (meth : Method) (c : Code) (T : State) (locs : List Loc) (cells slots : Nat) (i tn ky sy ey al a7 zz it q tb ed u x9 : Addr) (xs : List Addr) (N : Nat) (mc : Int32) (j tg ch : Nat) (occ : List Nat) (gg : own_G) (H : Heap) (n0 : Nat) (X : Stand p l e (rK 8 26 240 140) s m args b0 meth c T locs cells slots) (hx : p.tables.exec = Jvm.exec) (hby : c.code = prog_11_method_1_code) (hml : c.maxLocals = 11) (hZ : Z.Warmed39 s.vm) (hown : s.vm.findClass "com/example/spanfold/spanfold/Input" = some m.cls) (e0 : T.heap = H) (Zh : n0 ≤ H.size) (hce : cells + 2 ≤ 26) (hsl : slots + 20 ≤ 240) (Nf : Fr n0 locs) (EV : own_Env Z gg) (hO : Old Z n0 H) (A : own_ALs Z H a7 ed xs N mc) (I : own_It Z H it a7 j mc) (hi : xs[j]? = some u) (git : n0 ≤ it) (Es : Exa Z H zz "java/util/HashSet") (Fz : Fld Z H zz "java/util/HashSet" "map" "Ljava/util/HashMap;" (.ref q)) (S : own_S2 Z H u tg ch) (gu : n0 ≤ u) (h0t : 0 < tg) (ht : tg < 120) (hc : ch < 256) (M : own_HMp Z H q tb occ) (gq : n0 ≤ q) (gtb : n0 ≤ tb) (ho : occ.length ≤ 6) (hno : ((31 * tg + ch) % 16) ∉ occ) :
    ∃ (T' : State) (L' : List Loc), Stand p l e (rK 8 26 240 140) s m args b0 meth c T' L' (cells + 2) (slots + 20) ∧ Fr n0 L' ∧ Keep H T'.heap [it, u, q, tb] ∧ own_It Z T'.heap it a7 (j + 1) mc ∧ own_S2 Z T'.heap u tg ch ∧ (∃ tb' : Addr, n0 ≤ tb' ∧ own_HMp Z T'.heap q tb' (((31 * tg + ch) % 16) :: occ) ∧ (tb' = tb ∨ H.size ≤ tb')) ∧ Steps p.tables e b0 (T.setTop (mkF m 107 (a152 i tn ky sy ey al a7 zz it x9) [])) (T'.setTop (mkF m 107 (a152 i tn ky sy ey al a7 zz it u) [])) := by
  have D := @own_dec _ _ _ dB71 hby
  have Hw := @own_Hw _ _ hw
  obtain ⟨S0, hS0⟩ : ∃ S, S = T.setTop (mkF m 107 (a152 i tn ky sy ey al a7 zz it x9) []) := ⟨_, rfl⟩
  have c0 : Sx p e b0 S0 T (mkF m 107 (a152 i tn ky sy ey al a7 zz it x9) []) := by rw [hS0]; exact Steps.refl _
  rw [← hS0]
  have hlt : j < xs.length := (List.getElem?_eq_some_iff.mp hi).1
  obtain ⟨cq2, kq2, q2a, q2b, q2c⟩ := isOf hZ e0 I.1
  obtain ⟨_, _, ⟨T2, L2, k2, n2⟩, -, X2, ⟨Lc2, hQ2, l2, y2, z2⟩, st2⟩ := X.interfaceBack hx (xi := yM73) (y := yM46) (C := "java/util/ArrayList$Itr") hown (mvT hZ (Hw 275 rfl)) (mvT hZ (Hw 276 rfl)) (mvT hZ (Hw 277 rfl)) (mvT hZ (Hw 278 rfl)) (mvT hZ (Hw 279 rfl)) (mvT hZ (Hw 280 rfl)) (mvT hZ (Hw 281 rfl)) (mvT hZ (Hw 282 rfl)) (by decide) (backOf (W := 0) (rmH1 l Z a0 hw [] it a7 ed xs N mc j H n0 Zh I A hlt) hZ (Hw 283 rfl) (Hw 262 rfl) (by decide) (by decide)) q2a q2b q2c (g := (mkF m 109 (a152 i tn ky sy ey al a7 zz it x9) [(.ref it)])) rfl hml.symm (Steps.refl _) (argsL := []) (rest := []) (lenOf pd23 rfl) rfl (nE rfl) (D 51 rfl) (fun _ _ => ⟨rfl, e0, (nT (Nat.add_le_add_left (by decide) _) hce), (nT (Nat.add_le_add_left (by decide) _) hsl)⟩)
  dsimp only [Pt.U, Pt.locs, Pt.cells, Pt.slots] at X2 l2 y2 z2 st2 hQ2
  subst l2 y2 z2
  obtain ⟨rfl, N1, e1⟩ := hQ2
  have c2 : Sx p e b0 S0 T2 (mkF m 114 (a152 i tn ky sy ey al a7 zz it x9) [(.int J1)]) := c0.trans (qa X hx rfl (D 50 rfl) rfl rfl (st2))
  have Nf := Fr.app Nf N1
  have nit : ∀ {x : Addr} {C : String}, Exa Z H x C → C ≠ own_ITR → x ≠ it := fun E h => E.ne I.1 h
  obtain ⟨cq5, kq5, q5a, q5b, q5c⟩ := isOf hZ e1 I.1
  obtain ⟨_, _, ⟨T5, L5, k5, n5⟩, -, X5, ⟨Lc5, hQ5, l5, y5, z5⟩, st5⟩ := X2.interfaceBack hx (xi := yM74) (y := yM48) (C := "java/util/ArrayList$Itr") hown (mvT hZ (Hw 287 rfl)) (mvT hZ (Hw 288 rfl)) (mvT hZ (Hw 289 rfl)) (mvT hZ (Hw 290 rfl)) (mvT hZ (Hw 291 rfl)) (mvT hZ (Hw 292 rfl)) (mvT hZ (Hw 293 rfl)) (mvT hZ (Hw 282 rfl)) (by decide) (backOf (W := 0) (rmNx l Z a0 hw [] it a7 ed xs N mc j u H n0 Zh I A hi git (nit A.2.2.2.2.2.1 (by decide)) (nit A.1 (by decide))) hZ (Hw 294 rfl) (Hw 262 rfl) (by decide) (by decide)) q5a q5b q5c (g := (mkF m 119 (a152 i tn ky sy ey al a7 zz it x9) [(.ref it)])) rfl hml.symm (Steps.refl _) (argsL := []) (rest := []) (lenOf pd34 rfl) rfl (nE rfl) (D 54 rfl) (fun _ _ => ⟨rfl, e1, (nT (Nat.add_le_add_left (by decide) _) hce), (nT (Nat.add_le_add_left (by decide) _) hsl)⟩)
  dsimp only [Pt.U, Pt.locs, Pt.cells, Pt.slots] at X5 l5 y5 z5 st5 hQ5
  subst l5 y5 z5
  obtain ⟨rfl, N1, K1, I2⟩ := hQ5
  have c5 : Sx p e b0 S0 T5 (mkF m 124 (a152 i tn ky sy ey al a7 zz it x9) [(.ref u)]) := c2.trans (XS.ifNo X2.here hx rfl (D 52 rfl) rfl ((if0 _ _).trans (feq (by decide)).1) (qa X2 hx rfl (D 53 rfl) rfl rfl (st5)))
  have Nf := Fr.app Nf N1
  have nut : u ≠ it := nit S.exa (by decide)
  have S1 := S.keep K1 (ninS nut nin0) (allS (nX I.1 (by decide)) all0)
  have M1 := M.keep K1 (ninS (nit M.exa (by decide)) nin0) (ninS (M.ne I.1 (by decide) (by decide)) nin0)
  have Fz1 := Fz.keep K1 (ninS (nit Es (by decide)) nin0)
  have Es1 := Es.keep K1
  have hO1 := hO.keep K1 (allS git all0)
  have Z1 := nT Zh K1.1
  have nqi : it ≠ q := I2.1.ne M1.exa (by decide)
  have nti : it ≠ tb := Ne.symm (M1.ne I2.1 (by decide) (by decide))
  obtain ⟨T6, X6, e6, st6⟩ := castY X5 hx hZ hown (Hw 85 rfl) rfl (Ins.self S1.exa) (g := (mkF m 124 (a152 i tn ky sy ey al a7 zz it x9) [(.ref u)])) rfl rfl (D 55 rfl)
  have c6 : Sx p e b0 S0 T6 (mkF m 127 (a152 i tn ky sy ey al a7 zz it x9) [(.ref u)]) := c5.trans (st6 _ (Steps.refl _))
  obtain ⟨cq8, kq8, q8a, q8b, q8c⟩ := isOf hZ e6 Es1
  obtain ⟨_, _, ⟨T8, L8, k8, n8⟩, -, X8, ⟨Lc8, hQ8, l8, y8, z8⟩, st8⟩ := X6.virtualBack hx (y := yM68) (z := yM68) hown (mvT hZ (Hw 301 rfl)) (mvT hZ (Hw 302 rfl)) (notFace_of_selects (args := #[]) (mvT hZ (Hw 304 rfl))) (mvT hZ (Hw 304 rfl)) (mvT hZ (Hw 303 rfl)) (by decide) (backOf (W := 0) (rmSd l Z a0 hw [] zz q tb occ u tg ch gg T5.heap n0 Z1 Fz1 EV hO1 S1 gu h0t ht hc M1 gq gtb ho hno) hZ (Hw 305 rfl) (Hw 224 rfl) (by decide) (by decide)) q8a q8c (g := (mkF m 133 (a152 i tn ky sy ey al a7 zz it u) [(.ref u), (.ref zz)])) rfl hml.symm (Steps.refl _) (argsL := [(.ref u)]) (rest := []) (lenOf pd35 rfl) rfl (nE rfl) (D 59 rfl) (fun _ _ => ⟨rfl, e6, (nT (Nat.add_le_add_left (by decide) _) hce), (nT (Nat.add_le_add_left (by decide) _) hsl)⟩)
  dsimp only [Pt.U, Pt.locs, Pt.cells, Pt.slots] at X8 l8 y8 z8 st8 hQ8
  subst l8 y8 z8
  obtain ⟨rfl, ⟨tb2, gtb2, M2, ztb2⟩, N1, K2, Sn⟩ := hQ8
  have c8 : Sx p e b0 S0 T8 (mkF m 136 (a152 i tn ky sy ey al a7 zz it u) [(.int J1)]) := c6.trans (XS.astore X6.here hx rfl (D 56 rfl) rfl rfl (l' := (a152 i tn ky sy ey al a7 zz it u)) rfl (qa X6 hx rfl (D 57 rfl) rfl rfl (qa X6 hx rfl (D 58 rfl) rfl rfl (st8))))
  have Nf := Fr.app Nf N1
  have c10 : Sx p e b0 S0 T8 (mkF m 107 (a152 i tn ky sy ey al a7 zz it u) []) := c8.trans (XS.ifYes X8.here hx rfl (pc0 := 136) (pc' := 154) rfl (D 60 rfl) rfl ((if0 _ _).trans (feq (by decide)).2) (by decide) (by decide) (XS.goto X8.here hx rfl (pc0 := 154) (pc' := 107) rfl (D 61 rfl) (by decide) (by decide) (Steps.refl _)))
  exact ⟨_, _, X8, Nf, (own_Kmono K1 (ws' := [it, u, q, tb]) (fun x hx => by simp at hx ⊢; exact Or.inl hx)).trans K2 (fun x hx => Or.inl (List.mem_cons_of_mem _ hx)), I2.keep K2 (ninS (Ne.symm nut) (ninS nqi (ninS nti nin0))), Sn, ⟨tb2, gtb2, M2, ztb2.imp id (nT K1.1)⟩, c10⟩
def QIi0 (Z : State) (i tn al ky sy ey : Addr) (ch : Nat) (gg : own_G) (h0 : Heap) (n0 : Nat) (v : Option Value) (h : Heap) (L : List Loc) : Prop := v = none ∧ Fr n0 L ∧ Keep h0 h [i, ky, sy, ey] ∧ Exa Z h i "com/example/spanfold/spanfold/Input" ∧ Fld Z h i "com/example/spanfold/spanfold/Input" "table" "Ljava/lang/String;" (.ref tn) ∧ Fld Z h i "com/example/spanfold/spanfold/Input" "query" "Ljava/lang/String;" .null ∧ Fld Z h i "com/example/spanfold/spanfold/Input" "key" "Ljava/lang/String;" (.ref ky) ∧ Fld Z h i "com/example/spanfold/spanfold/Input" "start" "Ljava/lang/String;" (.ref sy) ∧ Fld Z h i "com/example/spanfold/spanfold/Input" "end" "Ljava/lang/String;" (.ref ey) ∧ Fld Z h i "com/example/spanfold/spanfold/Input" "attributes" "Ljava/util/List;" (.ref al) ∧ own_Lst Z gg h al ([] : List Addr) ∧ own_S2 Z h ky 107 ch ∧ own_S2 Z h sy 115 ch ∧ own_S2 Z h ey 101 ch
theorem rmIi0 (l : Launch) (Z : State) (a0 : Array Value) (hw : HW a0 Z) (ws : List Jvm.Cond) (i tn al ky sy ey : Addr) (ch : Nat) (gg : own_G) (h0 : Heap) (n0 : Nat) (Z0 : n0 ≤ h0.size) (EV : own_Env Z gg) (X00 : Old Z n0 h0) (Ei : Exa Z h0 i "com/example/spanfold/spanfold/Input") (Gt : Fld Z h0 i "com/example/spanfold/spanfold/Input" "table" "Ljava/lang/String;" .null) (Gq : Fld Z h0 i "com/example/spanfold/spanfold/Input" "query" "Ljava/lang/String;" .null) (Gk : Fld Z h0 i "com/example/spanfold/spanfold/Input" "key" "Ljava/lang/String;" .null) (Gs : Fld Z h0 i "com/example/spanfold/spanfold/Input" "start" "Ljava/lang/String;" .null) (Ge : Fld Z h0 i "com/example/spanfold/spanfold/Input" "end" "Ljava/lang/String;" .null) (Ga : Fld Z h0 i "com/example/spanfold/spanfold/Input" "attributes" "Ljava/util/List;" .null) (gi : n0 ≤ i) (Sky : own_S2 Z h0 ky 107 ch) (Ssy : own_S2 Z h0 sy 115 ch) (Sey : own_S2 Z h0 ey 101 ch) (gky : n0 ≤ ky) (gsy : n0 ≤ sy) (gey : n0 ≤ ey) (Lr : own_Lst Z gg h0 al ([] : List Addr)) (hc : ch < 256) :
    own_MW l yM75 prog_11_method_1_code 11 none ws (rK 8 26 240 140) #[(.ref i), (.ref tn), .null, (.ref ky), (.ref sy), (.ref ey), (.ref al)] Z h0 (QIi0 Z i tn al ky sy ey ch gg h0 n0) := by
  refine own_openW (plainFor_of_name pn2) dB71 fun p e s m b0 meth c s₁ S0 hx D hby hml hown hnm hret hlk hZ X0 e0 c0 => ?_
  replace c0 : Sx p e b0 S0 s₁ (mkF m 0 (a153 i tn ky sy ey al) []) := c0
  have Hw := @own_Hw _ _ hw
  have N0 := Fr.nil n0
  obtain ⟨V0, hV0⟩ : ∃ V, V = s.vm := ⟨_, rfl⟩
  have Xs : Stand p l e (rK 8 26 240 140) (s.setVm V0) m #[(.ref i), (.ref tn), .null, (.ref ky), (.ref sy), (.ref ey), (.ref al)] b0 meth c s₁ [] 0 0 := by subst hV0; exact X0
  have hS : s.Since V0 h0.size := by subst hV0; exact (State.WarmedH.refl s).since _
  replace hZ : Z.Warmed39 (s.setVm V0).vm := by subst hV0; exact hZ
  replace hown : (s.setVm V0).vm.findClass "com/example/spanfold/spanfold/Input" = some m.cls := by subst hV0; exact hown
  have hk : h0.size ≤ h0.size := Nat.le_refl _
  have Zh := Z0
  have Nf := N0
  have hO := X00
  have hKp := Keep.refl h0 [i, ky, sy, ey]
  have hal1 : al ∉ [i, ky, sy, ey] := (ninS (Lr.not Ei (by decide) (by decide)) (ninS (Lr.not Sky.exa (by decide) (by decide)) (ninS (Lr.not Ssy.exa (by decide) (by decide)) (ninS (Lr.not Sey.exa (by decide) (by decide)) nin0))))
  have hal2 : ∀ x ∈ [i, ky, sy, ey], ¬ Exa Z h0 x own_OAn := (allS (nX Ei (by decide)) (allS (nX Sky.exa (by decide)) (allS (nX Ssy.exa (by decide)) (allS (nX Sey.exa (by decide)) all0))))
  obtain ⟨_, _, ⟨T2, L2, k2, n2⟩, -, X2, ⟨Lc2, hQ2, l2, y2, z2⟩, st2⟩ := Xs.specialBack hx (y := yM7) rfl hown (mvT hZ (Hw 74 rfl)) (mvT hZ (Hw 75 rfl)) (mvT hZ (Hw 78 rfl)) (by decide) (backOf (W := 0) (rmEx l Z a0 hw [] i h0 n0 Zh) hZ (Hw 78 rfl) (Hw 77 rfl) (by decide) (by decide)) (g := (mkF m 1 (a153 i tn ky sy ey al) [(.ref i)])) rfl hml.symm (Steps.refl _) (a := i) (argsL := []) (rest := []) (lenOf pd0 rfl) rfl (nE rfl) (D 1 rfl) (fun _ _ => ⟨rfl, e0, (by decide : 0 + 0 ≤ _), (by decide : 0 + 0 ≤ _)⟩)
  dsimp only [Pt.U, Pt.locs, Pt.cells, Pt.slots] at X2 l2 y2 z2 st2 hQ2
  subst l2 y2 z2
  obtain ⟨rfl, N1, e1⟩ := hQ2
  have c2 : Sx p e b0 S0 T2 (mkF m 4 (a153 i tn ky sy ey al) []) := c0.trans (qA Xs hx rfl (D 0 rfl) rfl rfl (st2))
  have Nf := Fr.app Nf N1
  obtain ⟨T4, h4, X4, e4, W4, st4⟩ := putF X2 hx hZ hown (host := "") (Or.inl (Hw 80 rfl)) Via.refl e1 Gt Ei (Or.inr ⟨(Hw 81 rfl), rfl, hnm⟩) (Hw 64 rfl) (ty := (.object "java/lang/String")) (by decide) rfl rfl (g := (mkF m 6 (a153 i tn ky sy ey al) [(.ref tn), (.ref i)])) rfl rfl (D 4 rfl)
  have c4 : Sx p e b0 S0 T4 (mkF m 9 (a153 i tn ky sy ey al) []) := c2.trans (qA X2 hx rfl (D 2 rfl) rfl rfl (qA X2 hx rfl (D 3 rfl) rfl rfl (st4 _ (Steps.refl _))))
  have Sky_ := Sky.keep (Keep.of_wr W4) (ninS (Sky.exa.ne Ei kST_IN) nin0) (allS (nX Ei kIN_BA) all0)
  have Ssy_ := Ssy.keep (Keep.of_wr W4) (ninS (Ssy.exa.ne Ei kST_IN) nin0) (allS (nX Ei kIN_BA) all0)
  have Sey_ := Sey.keep (Keep.of_wr W4) (ninS (Sey.exa.ne Ei kST_IN) nin0) (allS (nX Ei kIN_BA) all0)
  have Sky := Sky_
  have Ssy := Ssy_
  have Sey := Sey_
  have Ei := Ei.wr W4
  have Gt := Gt.same W4
  have Gq := Gq.other W4 (own_sn (Or.inr (Hw 83 rfl)) (Or.inr (Hw 81 rfl)) (.object "java/lang/String") (.object "java/lang/String"))
  have Gk := Gk.other W4 (own_sn (Or.inr (Hw 87 rfl)) (Or.inr (Hw 81 rfl)) (.object "java/lang/String") (.object "java/lang/String"))
  have Gs := Gs.other W4 (own_sn (Or.inr (Hw 90 rfl)) (Or.inr (Hw 81 rfl)) (.object "java/lang/String") (.object "java/lang/String"))
  have Ge := Ge.other W4 (own_sn (Or.inr (Hw 93 rfl)) (Or.inr (Hw 81 rfl)) (.object "java/lang/String") (.object "java/lang/String"))
  have Ga := Ga.other W4 (own_sn (Or.inr (Hw 113 rfl)) (Or.inr (Hw 81 rfl)) (.object "java/util/List") (.object "java/lang/String"))
  have Nf := Fr.snoc X4 Nf gi
  have hk := nT hk (nE (own_wsz W4).symm)
  have Zh := nT Zh (nE (own_wsz W4).symm)
  have hO := hO.wr W4 gi
  have hKp := hKp.wr W4 (mI 0 rfl)
  obtain ⟨T6, h6, X6, e6, W6, st6⟩ := putF X4 hx hZ hown (host := "") (Or.inl (Hw 82 rfl)) Via.refl e4 Gq Ei (Or.inr ⟨(Hw 83 rfl), rfl, hnm⟩) (Hw 64 rfl) (ty := (.object "java/lang/String")) (by decide) rfl rfl (g := (mkF m 11 (a153 i tn ky sy ey al) [.null, (.ref i)])) rfl rfl (D 7 rfl)
  have c6 : Sx p e b0 S0 T6 (mkF m 14 (a153 i tn ky sy ey al) []) := c4.trans (qA X4 hx rfl (D 5 rfl) rfl rfl (qA X4 hx rfl (D 6 rfl) rfl rfl (st6 _ (Steps.refl _))))
  have Sky_ := Sky.keep (Keep.of_wr W6) (ninS (Sky.exa.ne Ei kST_IN) nin0) (allS (nX Ei kIN_BA) all0)
  have Ssy_ := Ssy.keep (Keep.of_wr W6) (ninS (Ssy.exa.ne Ei kST_IN) nin0) (allS (nX Ei kIN_BA) all0)
  have Sey_ := Sey.keep (Keep.of_wr W6) (ninS (Sey.exa.ne Ei kST_IN) nin0) (allS (nX Ei kIN_BA) all0)
  have Sky := Sky_
  have Ssy := Ssy_
  have Sey := Sey_
  have Ei := Ei.wr W6
  have Gt := Gt.other W6 (own_sn (Or.inr (Hw 81 rfl)) (Or.inr (Hw 83 rfl)) (.object "java/lang/String") (.object "java/lang/String"))
  have Gq := Gq.same W6
  have Gk := Gk.other W6 (own_sn (Or.inr (Hw 87 rfl)) (Or.inr (Hw 83 rfl)) (.object "java/lang/String") (.object "java/lang/String"))
  have Gs := Gs.other W6 (own_sn (Or.inr (Hw 90 rfl)) (Or.inr (Hw 83 rfl)) (.object "java/lang/String") (.object "java/lang/String"))
  have Ge := Ge.other W6 (own_sn (Or.inr (Hw 93 rfl)) (Or.inr (Hw 83 rfl)) (.object "java/lang/String") (.object "java/lang/String"))
  have Ga := Ga.other W6 (own_sn (Or.inr (Hw 113 rfl)) (Or.inr (Hw 83 rfl)) (.object "java/util/List") (.object "java/lang/String"))
  have Nf := Fr.snoc X6 Nf gi
  have hk := nT hk (nE (own_wsz W6).symm)
  have Zh := nT Zh (nE (own_wsz W6).symm)
  have hO := hO.wr W6 gi
  have hKp := hKp.wr W6 (mI 0 rfl)
  obtain ⟨q8, T8, h8, k8, X8, e8, E8, hS, hk, hZ, hown, st8⟩ := ldcS X6 hx hZ hown (Hw 84 rfl) (own_wS hw) e6 hS hk (g := (mkF m 16 (a153 i tn ky sy ey al) [(.ref ky), (.ref i)])) rfl (D 10 rfl) (n := 12) (by decide) (by decide) (by decide) (by decide)
  have c8 : Sx p e b0 S0 T8 (mkF m 18 (a153 i tn ky sy ey al) [(.ref q8), (.ref ky), (.ref i)]) := c6.trans (qA X6 hx rfl (D 8 rfl) rfl rfl (qA X6 hx rfl (D 9 rfl) rfl rfl (st8 _ (Steps.refl _))))
  have Sky := Sky.ext E8
  have Ssy := Ssy.ext E8
  have Sey := Sey.ext E8
  have Ei := Ei.ext E8
  have Gt := Gt.ext E8
  have Gq := Gq.ext E8
  have Gk := Gk.ext E8
  have Gs := Gs.ext E8
  have Ge := Ge.ext E8
  have Ga := Ga.ext E8
  have Zh := nT Zh E8.1
  have hO := hO.ext E8
  have hKp := hKp.ext E8
  obtain ⟨_, _, ⟨T9, L9, k9, n9⟩, -, X9, ⟨Lc9, hQ9, l9, y9, z9⟩, st9⟩ := Jvm.LawKit.callS X8 hx (y := yM1) hown (mvT hZ (Hw 59 rfl)) (mvT hZ (Hw 60 rfl)) (mvT hZ (Hw 61 rfl)) (mvT hZ (Hw 62 rfl)) (by decide) (backOf (W := 1) (rmR2 l Z a0 hw [] ky q8 h8 n0 Zh) hZ (Hw 62 rfl) (Hw 61 rfl) (by decide) (by decide)) (g := (mkF m 18 (a153 i tn ky sy ey al) [(.ref q8), (.ref ky), (.ref i)])) rfl hml.symm (argsL := [(.ref ky), (.ref q8)]) (rest := [(.ref i)]) (lenOf pd36 rfl) rfl (nE rfl) (D 11 rfl) (fun _ _ => ⟨rfl, e8, (by decide : 2 + 0 ≤ _), (by decide : 16 + 0 ≤ _)⟩)
  dsimp only [Pt.U, Pt.locs, Pt.cells, Pt.slots] at X9 l9 y9 z9 st9 hQ9
  subst l9 y9 z9
  obtain ⟨rfl, N1, e1⟩ := hQ9
  have c9 : Sx p e b0 S0 T9 (mkF m 21 (a153 i tn ky sy ey al) [(.ref ky), (.ref i)]) := c8.trans (st9 _ (Steps.refl _))
  have Nf := Fr.app Nf N1
  obtain ⟨T10, X10, e10, st10⟩ := castY X9 hx hZ hown (Hw 85 rfl) e1 (Ins.self Sky.exa) (g := (mkF m 21 (a153 i tn ky sy ey al) [(.ref ky), (.ref i)])) rfl rfl (D 12 rfl)
  have c10 : Sx p e b0 S0 T10 (mkF m 24 (a153 i tn ky sy ey al) [(.ref ky), (.ref i)]) := c9.trans (st10 _ (Steps.refl _))
  obtain ⟨T11, h11, X11, e11, W11, st11⟩ := putF X10 hx hZ hown (host := "") (Or.inl (Hw 86 rfl)) Via.refl e10 Gk Ei (Or.inr ⟨(Hw 87 rfl), rfl, hnm⟩) (Hw 64 rfl) (ty := (.object "java/lang/String")) (by decide) rfl rfl (g := (mkF m 24 (a153 i tn ky sy ey al) [(.ref ky), (.ref i)])) rfl rfl (D 13 rfl)
  have c11 : Sx p e b0 S0 T11 (mkF m 27 (a153 i tn ky sy ey al) []) := c10.trans (st11 _ (Steps.refl _))
  have Sky_ := Sky.keep (Keep.of_wr W11) (ninS (Sky.exa.ne Ei kST_IN) nin0) (allS (nX Ei kIN_BA) all0)
  have Ssy_ := Ssy.keep (Keep.of_wr W11) (ninS (Ssy.exa.ne Ei kST_IN) nin0) (allS (nX Ei kIN_BA) all0)
  have Sey_ := Sey.keep (Keep.of_wr W11) (ninS (Sey.exa.ne Ei kST_IN) nin0) (allS (nX Ei kIN_BA) all0)
  have Sky := Sky_
  have Ssy := Ssy_
  have Sey := Sey_
  have Ei := Ei.wr W11
  have Gt := Gt.other W11 (own_sn (Or.inr (Hw 81 rfl)) (Or.inr (Hw 87 rfl)) (.object "java/lang/String") (.object "java/lang/String"))
  have Gq := Gq.other W11 (own_sn (Or.inr (Hw 83 rfl)) (Or.inr (Hw 87 rfl)) (.object "java/lang/String") (.object "java/lang/String"))
  have Gk := Gk.same W11
  have Gs := Gs.other W11 (own_sn (Or.inr (Hw 90 rfl)) (Or.inr (Hw 87 rfl)) (.object "java/lang/String") (.object "java/lang/String"))
  have Ge := Ge.other W11 (own_sn (Or.inr (Hw 93 rfl)) (Or.inr (Hw 87 rfl)) (.object "java/lang/String") (.object "java/lang/String"))
  have Ga := Ga.other W11 (own_sn (Or.inr (Hw 113 rfl)) (Or.inr (Hw 87 rfl)) (.object "java/util/List") (.object "java/lang/String"))
  have Nf := Fr.snoc X11 Nf gi
  have hk := nT hk (nE (own_wsz W11).symm)
  have Zh := nT Zh (nE (own_wsz W11).symm)
  have hO := hO.wr W11 gi
  have hKp := hKp.wr W11 (mI 0 rfl)
  obtain ⟨q13, T13, h13, k13, X13, e13, E13, hS, hk, hZ, hown, st13⟩ := ldcS X11 hx hZ hown (Hw 88 rfl) (own_wS hw) e11 hS hk (g := (mkF m 30 (a153 i tn ky sy ey al) [(.ref sy), (.ref i)])) rfl (D 16 rfl) (n := 20) (by decide) (by decide) (by decide) (by decide)
  have c13 : Sx p e b0 S0 T13 (mkF m 32 (a153 i tn ky sy ey al) [(.ref q13), (.ref sy), (.ref i)]) := c11.trans (qA X11 hx rfl (D 14 rfl) rfl rfl (qa X11 hx rfl (D 15 rfl) rfl rfl (st13 _ (Steps.refl _))))
  have Sky := Sky.ext E13
  have Ssy := Ssy.ext E13
  have Sey := Sey.ext E13
  have Ei := Ei.ext E13
  have Gt := Gt.ext E13
  have Gq := Gq.ext E13
  have Gk := Gk.ext E13
  have Gs := Gs.ext E13
  have Ge := Ge.ext E13
  have Ga := Ga.ext E13
  have Zh := nT Zh E13.1
  have hO := hO.ext E13
  have hKp := hKp.ext E13
  obtain ⟨_, _, ⟨T14, L14, k14, n14⟩, -, X14, ⟨Lc14, hQ14, l14, y14, z14⟩, st14⟩ := Jvm.LawKit.callS X13 hx (y := yM1) hown (mvT hZ (Hw 59 rfl)) (mvT hZ (Hw 60 rfl)) (mvT hZ (Hw 61 rfl)) (mvT hZ (Hw 62 rfl)) (by decide) (backOf (W := 1) (rmR2 l Z a0 hw [] sy q13 h13 n0 Zh) hZ (Hw 62 rfl) (Hw 61 rfl) (by decide) (by decide)) (g := (mkF m 32 (a153 i tn ky sy ey al) [(.ref q13), (.ref sy), (.ref i)])) rfl hml.symm (argsL := [(.ref sy), (.ref q13)]) (rest := [(.ref i)]) (lenOf pd36 rfl) rfl (nE rfl) (D 17 rfl) (fun _ _ => ⟨rfl, e13, (by decide : 4 + 0 ≤ _), (by decide : 40 + 0 ≤ _)⟩)
  dsimp only [Pt.U, Pt.locs, Pt.cells, Pt.slots] at X14 l14 y14 z14 st14 hQ14
  subst l14 y14 z14
  obtain ⟨rfl, N1, e1⟩ := hQ14
  have c14 : Sx p e b0 S0 T14 (mkF m 35 (a153 i tn ky sy ey al) [(.ref sy), (.ref i)]) := c13.trans (st14 _ (Steps.refl _))
  have Nf := Fr.app Nf N1
  obtain ⟨T15, X15, e15, st15⟩ := castY X14 hx hZ hown (Hw 85 rfl) e1 (Ins.self Ssy.exa) (g := (mkF m 35 (a153 i tn ky sy ey al) [(.ref sy), (.ref i)])) rfl rfl (D 18 rfl)
  have c15 : Sx p e b0 S0 T15 (mkF m 38 (a153 i tn ky sy ey al) [(.ref sy), (.ref i)]) := c14.trans (st15 _ (Steps.refl _))
  obtain ⟨T16, h16, X16, e16, W16, st16⟩ := putF X15 hx hZ hown (host := "") (Or.inl (Hw 89 rfl)) Via.refl e15 Gs Ei (Or.inr ⟨(Hw 90 rfl), rfl, hnm⟩) (Hw 64 rfl) (ty := (.object "java/lang/String")) (by decide) rfl rfl (g := (mkF m 38 (a153 i tn ky sy ey al) [(.ref sy), (.ref i)])) rfl rfl (D 19 rfl)
  have c16 : Sx p e b0 S0 T16 (mkF m 41 (a153 i tn ky sy ey al) []) := c15.trans (st16 _ (Steps.refl _))
  have Sky_ := Sky.keep (Keep.of_wr W16) (ninS (Sky.exa.ne Ei kST_IN) nin0) (allS (nX Ei kIN_BA) all0)
  have Ssy_ := Ssy.keep (Keep.of_wr W16) (ninS (Ssy.exa.ne Ei kST_IN) nin0) (allS (nX Ei kIN_BA) all0)
  have Sey_ := Sey.keep (Keep.of_wr W16) (ninS (Sey.exa.ne Ei kST_IN) nin0) (allS (nX Ei kIN_BA) all0)
  have Sky := Sky_
  have Ssy := Ssy_
  have Sey := Sey_
  have Ei := Ei.wr W16
  have Gt := Gt.other W16 (own_sn (Or.inr (Hw 81 rfl)) (Or.inr (Hw 90 rfl)) (.object "java/lang/String") (.object "java/lang/String"))
  have Gq := Gq.other W16 (own_sn (Or.inr (Hw 83 rfl)) (Or.inr (Hw 90 rfl)) (.object "java/lang/String") (.object "java/lang/String"))
  have Gk := Gk.other W16 (own_sn (Or.inr (Hw 87 rfl)) (Or.inr (Hw 90 rfl)) (.object "java/lang/String") (.object "java/lang/String"))
  have Gs := Gs.same W16
  have Ge := Ge.other W16 (own_sn (Or.inr (Hw 93 rfl)) (Or.inr (Hw 90 rfl)) (.object "java/lang/String") (.object "java/lang/String"))
  have Ga := Ga.other W16 (own_sn (Or.inr (Hw 113 rfl)) (Or.inr (Hw 90 rfl)) (.object "java/util/List") (.object "java/lang/String"))
  have Nf := Fr.snoc X16 Nf gi
  have hk := nT hk (nE (own_wsz W16).symm)
  have Zh := nT Zh (nE (own_wsz W16).symm)
  have hO := hO.wr W16 gi
  have hKp := hKp.wr W16 (mI 0 rfl)
  obtain ⟨q18, T18, h18, k18, X18, e18, E18, hS, hk, hZ, hown, st18⟩ := ldcS X16 hx hZ hown (Hw 91 rfl) (own_wS hw) e16 hS hk (g := (mkF m 44 (a153 i tn ky sy ey al) [(.ref ey), (.ref i)])) rfl (D 22 rfl) (n := 12) (by decide) (by decide) (by decide) (by decide)
  have c18 : Sx p e b0 S0 T18 (mkF m 46 (a153 i tn ky sy ey al) [(.ref q18), (.ref ey), (.ref i)]) := c16.trans (qA X16 hx rfl (D 20 rfl) rfl rfl (qa X16 hx rfl (D 21 rfl) rfl rfl (st18 _ (Steps.refl _))))
  have Sky := Sky.ext E18
  have Ssy := Ssy.ext E18
  have Sey := Sey.ext E18
  have Ei := Ei.ext E18
  have Gt := Gt.ext E18
  have Gq := Gq.ext E18
  have Gk := Gk.ext E18
  have Gs := Gs.ext E18
  have Ge := Ge.ext E18
  have Ga := Ga.ext E18
  have Zh := nT Zh E18.1
  have hO := hO.ext E18
  have hKp := hKp.ext E18
  obtain ⟨_, _, ⟨T19, L19, k19, n19⟩, -, X19, ⟨Lc19, hQ19, l19, y19, z19⟩, st19⟩ := Jvm.LawKit.callS X18 hx (y := yM1) hown (mvT hZ (Hw 59 rfl)) (mvT hZ (Hw 60 rfl)) (mvT hZ (Hw 61 rfl)) (mvT hZ (Hw 62 rfl)) (by decide) (backOf (W := 1) (rmR2 l Z a0 hw [] ey q18 h18 n0 Zh) hZ (Hw 62 rfl) (Hw 61 rfl) (by decide) (by decide)) (g := (mkF m 46 (a153 i tn ky sy ey al) [(.ref q18), (.ref ey), (.ref i)])) rfl hml.symm (argsL := [(.ref ey), (.ref q18)]) (rest := [(.ref i)]) (lenOf pd36 rfl) rfl (nE rfl) (D 23 rfl) (fun _ _ => ⟨rfl, e18, (by decide : 6 + 0 ≤ _), (by decide : 56 + 0 ≤ _)⟩)
  dsimp only [Pt.U, Pt.locs, Pt.cells, Pt.slots] at X19 l19 y19 z19 st19 hQ19
  subst l19 y19 z19
  obtain ⟨rfl, N1, e1⟩ := hQ19
  have c19 : Sx p e b0 S0 T19 (mkF m 49 (a153 i tn ky sy ey al) [(.ref ey), (.ref i)]) := c18.trans (st19 _ (Steps.refl _))
  have Nf := Fr.app Nf N1
  obtain ⟨T20, X20, e20, st20⟩ := castY X19 hx hZ hown (Hw 85 rfl) e1 (Ins.self Sey.exa) (g := (mkF m 49 (a153 i tn ky sy ey al) [(.ref ey), (.ref i)])) rfl rfl (D 24 rfl)
  have c20 : Sx p e b0 S0 T20 (mkF m 52 (a153 i tn ky sy ey al) [(.ref ey), (.ref i)]) := c19.trans (st20 _ (Steps.refl _))
  obtain ⟨T21, h21, X21, e21, W21, st21⟩ := putF X20 hx hZ hown (host := "") (Or.inl (Hw 92 rfl)) Via.refl e20 Ge Ei (Or.inr ⟨(Hw 93 rfl), rfl, hnm⟩) (Hw 64 rfl) (ty := (.object "java/lang/String")) (by decide) rfl rfl (g := (mkF m 52 (a153 i tn ky sy ey al) [(.ref ey), (.ref i)])) rfl rfl (D 25 rfl)
  have c21 : Sx p e b0 S0 T21 (mkF m 55 (a153 i tn ky sy ey al) []) := c20.trans (st21 _ (Steps.refl _))
  have Sky_ := Sky.keep (Keep.of_wr W21) (ninS (Sky.exa.ne Ei kST_IN) nin0) (allS (nX Ei kIN_BA) all0)
  have Ssy_ := Ssy.keep (Keep.of_wr W21) (ninS (Ssy.exa.ne Ei kST_IN) nin0) (allS (nX Ei kIN_BA) all0)
  have Sey_ := Sey.keep (Keep.of_wr W21) (ninS (Sey.exa.ne Ei kST_IN) nin0) (allS (nX Ei kIN_BA) all0)
  have Sky := Sky_
  have Ssy := Ssy_
  have Sey := Sey_
  have Ei := Ei.wr W21
  have Gt := Gt.other W21 (own_sn (Or.inr (Hw 81 rfl)) (Or.inr (Hw 93 rfl)) (.object "java/lang/String") (.object "java/lang/String"))
  have Gq := Gq.other W21 (own_sn (Or.inr (Hw 83 rfl)) (Or.inr (Hw 93 rfl)) (.object "java/lang/String") (.object "java/lang/String"))
  have Gk := Gk.other W21 (own_sn (Or.inr (Hw 87 rfl)) (Or.inr (Hw 93 rfl)) (.object "java/lang/String") (.object "java/lang/String"))
  have Gs := Gs.other W21 (own_sn (Or.inr (Hw 90 rfl)) (Or.inr (Hw 93 rfl)) (.object "java/lang/String") (.object "java/lang/String"))
  have Ge := Ge.same W21
  have Ga := Ga.other W21 (own_sn (Or.inr (Hw 113 rfl)) (Or.inr (Hw 93 rfl)) (.object "java/util/List") (.object "java/lang/String"))
  have Nf := Fr.snoc X21 Nf gi
  have hk := nT hk (nE (own_wsz W21).symm)
  have Zh := nT Zh (nE (own_wsz W21).symm)
  have hO := hO.wr W21 gi
  have hKp := hKp.wr W21 (mI 0 rfl)
  obtain ⟨_, _, ⟨T23, L23, k23, n23⟩, -, X23, ⟨Lc23, hQ23, l23, y23, z23⟩, st23⟩ := Jvm.LawKit.callS X21 hx (y := yM72) hown (mvT hZ (Hw 94 rfl)) (mvT hZ (Hw 95 rfl)) (mvT hZ (Hw 67 rfl)) (mvT hZ (Hw 96 rfl)) (by decide) (backOf (W := 1) (rmLo l Z a0 hw [] al ([] : List Addr) gg h21 n0 Zh (Lr.keep hKp hal1 hal2)) hZ (Hw 96 rfl) (Hw 67 rfl) (by decide) (by decide)) (g := (mkF m 58 (a153 i tn ky sy ey al) [(.ref al), (.ref i)])) rfl hml.symm (argsL := [(.ref al)]) (rest := [(.ref i)]) (lenOf pd33 rfl) rfl (nE rfl) (D 28 rfl) (fun _ _ => ⟨rfl, e21, (by decide : 6 + 0 ≤ _), (by decide : 56 + 0 ≤ _)⟩)
  dsimp only [Pt.U, Pt.locs, Pt.cells, Pt.slots] at X23 l23 y23 z23 st23 hQ23
  subst l23 y23 z23
  obtain ⟨rfl, N1, e1⟩ := hQ23
  have c23 : Sx p e b0 S0 T23 (mkF m 61 (a153 i tn ky sy ey al) [(.ref al), (.ref i)]) := c21.trans (qA X21 hx rfl (D 26 rfl) rfl rfl (qa X21 hx rfl (D 27 rfl) rfl rfl (st23 _ (Steps.refl _))))
  have Nf := Fr.app Nf N1
  obtain ⟨T24, h24, X24, e24, W24, st24⟩ := putF X23 hx hZ hown (host := "") (Or.inl (Hw 112 rfl)) Via.refl e1 Ga Ei (Or.inr ⟨(Hw 113 rfl), rfl, hnm⟩) (Hw 64 rfl) (ty := (.object "java/util/List")) (by decide) rfl rfl (g := (mkF m 61 (a153 i tn ky sy ey al) [(.ref al), (.ref i)])) rfl rfl (D 29 rfl)
  have c24 : Sx p e b0 S0 T24 (mkF m 64 (a153 i tn ky sy ey al) []) := c23.trans (st24 _ (Steps.refl _))
  have Sky_ := Sky.keep (Keep.of_wr W24) (ninS (Sky.exa.ne Ei kST_IN) nin0) (allS (nX Ei kIN_BA) all0)
  have Ssy_ := Ssy.keep (Keep.of_wr W24) (ninS (Ssy.exa.ne Ei kST_IN) nin0) (allS (nX Ei kIN_BA) all0)
  have Sey_ := Sey.keep (Keep.of_wr W24) (ninS (Sey.exa.ne Ei kST_IN) nin0) (allS (nX Ei kIN_BA) all0)
  have Sky := Sky_
  have Ssy := Ssy_
  have Sey := Sey_
  have Ei := Ei.wr W24
  have Gt := Gt.other W24 (own_sn (Or.inr (Hw 81 rfl)) (Or.inr (Hw 113 rfl)) (.object "java/lang/String") (.object "java/util/List"))
  have Gq := Gq.other W24 (own_sn (Or.inr (Hw 83 rfl)) (Or.inr (Hw 113 rfl)) (.object "java/lang/String") (.object "java/util/List"))
  have Gk := Gk.other W24 (own_sn (Or.inr (Hw 87 rfl)) (Or.inr (Hw 113 rfl)) (.object "java/lang/String") (.object "java/util/List"))
  have Gs := Gs.other W24 (own_sn (Or.inr (Hw 90 rfl)) (Or.inr (Hw 113 rfl)) (.object "java/lang/String") (.object "java/util/List"))
  have Ge := Ge.other W24 (own_sn (Or.inr (Hw 93 rfl)) (Or.inr (Hw 113 rfl)) (.object "java/lang/String") (.object "java/util/List"))
  have Ga := Ga.same W24
  have Nf := Fr.snoc X24 Nf gi
  have hk := nT hk (nE (own_wsz W24).symm)
  have Zh := nT Zh (nE (own_wsz W24).symm)
  have hO := hO.wr W24 gi
  have hKp := hKp.wr W24 (mI 0 rfl)
  have P : own_If Z _ i tn ky sy ey al := ⟨Ei, Gt, Gq, Gk, Gs, Ge, Ga⟩
  clear Ei Gt Gq Gk Gs Ge Ga
  obtain ⟨T25, h25, X25, e25, E25, A25, D25, -, st25⟩ := newO X24 hx hZ hown (Hw 114 rfl) (Hw 115 rfl) (Hw 116 rfl) e24 (g := (mkF m 64 (a153 i tn ky sy ey al) [])) rfl (D 30 rfl) (by decide) (by decide)
  obtain ⟨b25, g25⟩ : ∃ z, z = h24.size := ⟨_, rfl⟩
  rw [← g25] at A25 D25 st25
  have c25 : Sx p e b0 S0 T25 (mkF m 67 (a153 i tn ky sy ey al) [(.ref b25)]) := c24.trans (st25 _ (Steps.refl _))
  have zb25 : h0.size ≤ b25 := nT hKp.1 (nE g25.symm)
  have nb25 : n0 ≤ b25 := nT Z0 zb25
  have Sky := Sky.ext E25
  have Ssy := Ssy.ext E25
  have Sey := Sey.ext E25
  have P := P.ext E25
  have hk := nT hk E25.1
  have Zh := nT Zh E25.1
  have hO := hO.ext E25
  have hKp := hKp.ext E25
  have Ea := A25
  have Fm : Fld Z h25 b25 "java/util/AbstractList" "modCount" "I" (.int 0) := D25 (Or.inl (Hw 169 rfl)) (ty := .int) (by decide)
  have Fs : Fld Z h25 b25 "java/util/ArrayList" "size" "I" (.int 0) := D25 (Or.inl (Hw 203 rfl)) (ty := .int) (by decide)
  have Fe : Fld Z h25 b25 "java/util/ArrayList" "elementData" "[Ljava/lang/Object;" .null := D25 (Or.inl (Hw 214 rfl)) (ty := (.array (.object "java/lang/Object"))) (by decide)
  obtain ⟨_, _, ⟨T27, L27, k27, n27⟩, -, X27, ⟨Lc27, hQ27, l27, y27, z27⟩, st27⟩ := Jvm.LawKit.callS X25 hx (y := yM25) hown (mvT hZ (Hw 117 rfl)) (mvT hZ (Hw 118 rfl)) (mvT hZ (Hw 67 rfl)) (mvT hZ (Hw 119 rfl)) (by decide) (backOf (W := 2) (rmO3 l Z a0 hw [] ky sy ey gg h25 n0 Zh EV hO (Ins.of_exa Sky.exa (Hw 122 rfl)) (Ins.of_exa Ssy.exa (Hw 122 rfl)) (Ins.of_exa Sey.exa (Hw 122 rfl))) hZ (Hw 119 rfl) (Hw 67 rfl) (by decide) (by decide)) (g := (mkF m 73 (a153 i tn ky sy ey al) [(.ref ey), (.ref sy), (.ref ky), (.ref b25), (.ref b25)])) rfl hml.symm (argsL := [(.ref ky), (.ref sy), (.ref ey)]) (rest := [(.ref b25), (.ref b25)]) (lenOf pd37 rfl) rfl (nE rfl) (D 35 rfl) (fun _ _ => ⟨rfl, e25, (by decide : 7 + 2 ≤ _), (by decide : 59 + 5 ≤ _)⟩)
  dsimp only [Pt.U, Pt.locs, Pt.cells, Pt.slots] at X27 l27 y27 z27 st27 hQ27
  subst l27 y27 z27
  obtain ⟨⟨r3, t3, rfl, zr3, Er3, Fl3, Ot3⟩, N1, K1⟩ := hQ27
  have c27 : Sx p e b0 S0 T27 (mkF m 76 (a153 i tn ky sy ey al) [(.ref r3), (.ref b25), (.ref b25)]) := c25.trans (XS.dup X25.here hx rfl (D 31 rfl) rfl rfl (qA X25 hx rfl (D 32 rfl) rfl rfl (qa X25 hx rfl (D 33 rfl) rfl rfl (qa X25 hx rfl (D 34 rfl) rfl rfl (st27 _ (Steps.refl _))))))
  have Sky_ := Sky.keep K1 nin0 all0
  have Ssy_ := Ssy.keep K1 nin0 all0
  have Sey_ := Sey.keep K1 nin0 all0
  have P_ := P.keep K1 nin0
  have Sky := Sky_
  have Ssy := Ssy_
  have Sey := Sey_
  have P := P_
  have Ea := Ea.keep K1
  have Fm := Fm.keep K1 nin0
  have Fs := Fs.keep K1 nin0
  have Fe := Fe.keep K1 nin0
  have Nf := Fr.app Nf N1
  have hk := nT hk K1.1
  have Zh := nT Zh K1.1
  have hO := hO.keep K1 all0
  have hKp := hKp.trans K1 all0
  obtain ⟨_, _, ⟨T28, L28, k28, n28⟩, -, X28, ⟨Lc28, hQ28, l28, y28, z28⟩, st28⟩ := X27.specialBack hx (y := yM41) rfl hown (mvT hZ (Hw 157 rfl)) (mvT hZ (Hw 158 rfl)) (mvT hZ (Hw 159 rfl)) (by decide) (backOf (W := 1) (rmK3 l Z a0 hw [] b25 r3 t3 ky sy ey gg T27.heap n0 Zh EV hO Ea Fm Fs Fe nb25 Er3 Fl3 Ot3 (own_El.cons (Ins.of_exa Sky.exa (Hw 122 rfl)) (own_El.cons (Ins.of_exa Ssy.exa (Hw 122 rfl)) (own_El.cons (Ins.of_exa Sey.exa (Hw 122 rfl)) own_El.nil)))) hZ (Hw 159 rfl) (Hw 116 rfl) (by decide) (by decide)) (g := (mkF m 76 (a153 i tn ky sy ey al) [(.ref r3), (.ref b25), (.ref b25)])) rfl hml.symm (Steps.refl _) (a := b25) (argsL := [(.ref r3)]) (rest := [(.ref b25)]) (lenOf pd38 rfl) rfl (nE rfl) (D 36 rfl) (fun _ _ => ⟨rfl, rfl, (by decide : 9 + 2 ≤ _), (by decide : 64 + 20 ≤ _)⟩)
  dsimp only [Pt.U, Pt.locs, Pt.cells, Pt.slots] at X28 l28 y28 z28 st28 hQ28
  subst l28 y28 z28
  obtain ⟨rfl, N1, K1, ed, zed, A⟩ := hQ28
  have c28 : Sx p e b0 S0 T28 (mkF m 79 (a153 i tn ky sy ey al) [(.ref b25)]) := c27.trans st28
  have Sky_ := Sky.keep K1 (ninS (Sky.exa.ne Ea kST_AL) nin0) (allS (nX Ea kAL_BA) all0)
  have Ssy_ := Ssy.keep K1 (ninS (Ssy.exa.ne Ea kST_AL) nin0) (allS (nX Ea kAL_BA) all0)
  have Sey_ := Sey.keep K1 (ninS (Sey.exa.ne Ea kST_AL) nin0) (allS (nX Ea kAL_BA) all0)
  have P_ := P.keep K1 (ninS (P.1.ne Ea kIN_AL) nin0)
  have Sky := Sky_
  have Ssy := Ssy_
  have Sey := Sey_
  have P := P_
  have Nf := Fr.app Nf N1
  have hk := nT hk K1.1
  have Zh := nT Zh K1.1
  have hO := hO.keep K1 (allS nb25 all0)
  have hKp := hKp.trans K1 (allS (Or.inr zb25) all0)
  obtain ⟨T30, X30, e30, st30⟩ := getF X28 hx hZ hown (host := "") (Or.inl (Hw 112 rfl)) Via.refl rfl P.2.2.2.2.2.2 (g := (mkF m 84 (a154 i tn ky sy ey al b25) [(.ref i), (.ref b25)])) rfl rfl (D 40 rfl)
  have c30 : Sx p e b0 S0 T30 (mkF m 87 (a154 i tn ky sy ey al b25) [(.ref al), (.ref b25)]) := c28.trans (XS.astore X28.here hx rfl (D 37 rfl) rfl rfl (l' := (a154 i tn ky sy ey al b25)) rfl (qa X28 hx rfl (D 38 rfl) rfl rfl (qA X28 hx rfl (D 39 rfl) rfl rfl (st30 _ (Steps.refl _)))))
  obtain ⟨cq31, kq31, q31a, q31b, q31c⟩ := isOf hZ e30 A.1
  obtain ⟨_, _, ⟨T31, L31, k31, n31⟩, -, X31, ⟨Lc31, hQ31, l31, y31, z31⟩, st31⟩ := X30.virtualBack hx (y := yM43) (z := yM43) hown (mvT hZ (Hw 215 rfl)) (mvT hZ (Hw 216 rfl)) (notFace_of_selects (args := #[]) (mvT hZ (Hw 218 rfl))) (mvT hZ (Hw 218 rfl)) (mvT hZ (Hw 217 rfl)) (by decide) (backOf (W := 0) (rmAa l Z a0 hw [] b25 ed [ky, sy, ey] 3 0 al ([] : List Addr) gg T28.heap n0 Zh EV hO A rfl (by decide) (by decide) (Lr.keep hKp hal1 hal2) (Nat.le_of_ble_eq_true rfl) (own_El.cons (Ins.of_exa Sky.exa (Hw 122 rfl)) (own_El.cons (Ins.of_exa Ssy.exa (Hw 122 rfl)) (own_El.cons (Ins.of_exa Sey.exa (Hw 122 rfl)) own_El.nil))) own_El.nil nb25) hZ (Hw 219 rfl) (Hw 116 rfl) (by decide) (by decide)) q31a q31c (g := (mkF m 87 (a154 i tn ky sy ey al b25) [(.ref al), (.ref b25)])) rfl hml.symm (Steps.refl _) (argsL := [(.ref al)]) (rest := []) (lenOf pd39 rfl) rfl (nE rfl) (D 41 rfl) (fun _ _ => ⟨rfl, e30, (by decide : 11 + 2 ≤ _), (by decide : 84 + 20 ≤ _)⟩)
  dsimp only [Pt.U, Pt.locs, Pt.cells, Pt.slots] at X31 l31 y31 z31 st31 hQ31
  subst l31 y31 z31
  obtain ⟨⟨zv, rfl⟩, ⟨e2, NN, mc, A2, ze2⟩, N1, K1⟩ := hQ31
  have c31 : Sx p e b0 S0 T31 (mkF m 90 (a154 i tn ky sy ey al b25) [(.int zv)]) := c30.trans st31
  have Sky_ := Sky.keep K1 (ninS (Sky.exa.ne A.1 kST_AL) nin0) (allS (nX A.1 kAL_BA) all0)
  have Ssy_ := Ssy.keep K1 (ninS (Ssy.exa.ne A.1 kST_AL) nin0) (allS (nX A.1 kAL_BA) all0)
  have Sey_ := Sey.keep K1 (ninS (Sey.exa.ne A.1 kST_AL) nin0) (allS (nX A.1 kAL_BA) all0)
  have P_ := P.keep K1 (ninS (P.1.ne A.1 kIN_AL) nin0)
  have Sky := Sky_
  have Ssy := Ssy_
  have Sey := Sey_
  have P := P_
  have Nf := Fr.app Nf N1
  have hk := nT hk K1.1
  have Zh := nT Zh K1.1
  have hO := hO.keep K1 (allS nb25 all0)
  have hKp := hKp.trans K1 (allS (Or.inr zb25) all0)
  have A := A2
  obtain ⟨T33, h33, X33, e33, E33, A33, D33, -, st33⟩ := newO X31 hx hZ hown (Hw 222 rfl) (Hw 223 rfl) (Hw 224 rfl) rfl (g := (mkF m 91 (a154 i tn ky sy ey al b25) [])) rfl (D 43 rfl) (by decide) (by decide)
  obtain ⟨b33, g33⟩ : ∃ z, z = T31.heap.size := ⟨_, rfl⟩
  rw [← g33] at A33 D33 st33
  have c33 : Sx p e b0 S0 T33 (mkF m 94 (a154 i tn ky sy ey al b25) [(.ref b33)]) := c31.trans (XS.pop X31.here hx rfl (D 42 rfl) rfl rfl (st33 _ (Steps.refl _)))
  have zb33 : h0.size ≤ b33 := nT hKp.1 (nE g33.symm)
  have nb33 : n0 ≤ b33 := nT Z0 zb33
  have Sky := Sky.ext E33
  have Ssy := Ssy.ext E33
  have Sey := Sey.ext E33
  have P := P.ext E33
  have A := A.ext E33
  have hk := nT hk E33.1
  have Zh := nT Zh E33.1
  have hO := hO.ext E33
  have hKp := hKp.ext E33
  have Es := A33
  have Fp : Fld Z h33 b33 "java/util/HashSet" "map" "Ljava/util/HashMap;" .null := D33 (Or.inl (Hw 254 rfl)) (ty := (.object "java/util/HashMap")) (by decide)
  obtain ⟨_, _, ⟨T35, L35, k35, n35⟩, -, X35, ⟨Lc35, hQ35, l35, y35, z35⟩, st35⟩ := X33.specialBack hx (y := yM70) rfl hown (mvT hZ (Hw 225 rfl)) (mvT hZ (Hw 226 rfl)) (mvT hZ (Hw 227 rfl)) (by decide) (backOf (W := 1) (rmSi0 l Z a0 hw [] b33 h33 n0 Zh Es Fp nb33) hZ (Hw 227 rfl) (Hw 224 rfl) (by decide) (by decide)) (g := (mkF m 95 (a154 i tn ky sy ey al b25) [(.ref b33), (.ref b33)])) rfl hml.symm (Steps.refl _) (a := b33) (argsL := []) (rest := [(.ref b33)]) (lenOf pd0 rfl) rfl (nE rfl) (D 45 rfl) (fun _ _ => ⟨rfl, e33, (by decide : 14 + 1 ≤ _), (by decide : 105 + 8 ≤ _)⟩)
  dsimp only [Pt.U, Pt.locs, Pt.cells, Pt.slots] at X35 l35 y35 z35 st35 hQ35
  subst l35 y35 z35
  obtain ⟨rfl, N1, K1, q, zq, Fz, H0⟩ := hQ35
  have c35 : Sx p e b0 S0 T35 (mkF m 98 (a154 i tn ky sy ey al b25) [(.ref b33)]) := c33.trans (XS.dup X33.here hx rfl (D 44 rfl) rfl rfl (st35))
  have zq0 : h0.size ≤ q := nT hKp.1 zq
  have gq : n0 ≤ q := nT Z0 zq0
  have Sky_ := Sky.keep K1 (ninS (Sky.exa.ne Es kST_HS) nin0) (allS (nX Es kHS_BA) all0)
  have Ssy_ := Ssy.keep K1 (ninS (Ssy.exa.ne Es kST_HS) nin0) (allS (nX Es kHS_BA) all0)
  have Sey_ := Sey.keep K1 (ninS (Sey.exa.ne Es kST_HS) nin0) (allS (nX Es kHS_BA) all0)
  have P_ := P.keep K1 (ninS (P.1.ne Es kIN_HS) nin0)
  have A_ := A.keep K1 (ninS (A.1.ne Es kAL_HS) nin0) (ninS (A.2.2.2.2.2.1.ne Es kOA_HS) nin0)
  have Es_ := Es.keep K1
  have Sky := Sky_
  have Ssy := Ssy_
  have Sey := Sey_
  have P := P_
  have A := A_
  have Es := Es_
  have Nf := Fr.app Nf N1
  have hk := nT hk K1.1
  have Zh := nT Zh K1.1
  have hO := hO.keep K1 (allS nb33 all0)
  have hKp := hKp.trans K1 (allS (Or.inr zb33) all0)
  have M : own_HMp Z _ q q [] := Or.inl ⟨rfl, rfl, H0⟩
  obtain ⟨cq37, kq37, q37a, q37b, q37c⟩ := isOf hZ rfl A.1
  obtain ⟨_, _, ⟨T37, L37, k37, n37⟩, -, X37, ⟨Lc37, hQ37, l37, y37, z37⟩, st37⟩ := X35.virtualBack hx (y := yM45) (z := yM45) hown (mvT hZ (Hw 255 rfl)) (mvT hZ (Hw 256 rfl)) (notFace_of_selects (args := #[]) (mvT hZ (Hw 258 rfl))) (mvT hZ (Hw 258 rfl)) (mvT hZ (Hw 257 rfl)) (by decide) (backOf (W := 0) (rmI1 l Z a0 hw [] b25 e2 ([ky, sy, ey] ++ ([] : List Addr)) NN mc T35.heap n0 Zh A) hZ (Hw 259 rfl) (Hw 116 rfl) (by decide) (by decide)) q37a q37c (g := (mkF m 102 (a155 i tn ky sy ey al b25 b33) [(.ref b25)])) rfl hml.symm (Steps.refl _) (argsL := []) (rest := []) (lenOf pd40 rfl) rfl (nE rfl) (D 48 rfl) (fun _ _ => ⟨rfl, rfl, (by decide : 15 + 1 ≤ _), (by decide : 113 + 4 ≤ _)⟩)
  dsimp only [Pt.U, Pt.locs, Pt.cells, Pt.slots] at X37 l37 y37 z37 st37 hQ37
  subst l37 y37 z37
  obtain ⟨⟨it, rfl, zit, I⟩, N1, K1⟩ := hQ37
  have c37 : Sx p e b0 S0 T37 (mkF m 105 (a155 i tn ky sy ey al b25 b33) [(.ref it)]) := c35.trans (XS.astore X35.here hx rfl (D 46 rfl) rfl rfl (l' := (a155 i tn ky sy ey al b25 b33)) rfl (qa X35 hx rfl (D 47 rfl) rfl rfl (st37)))
  have zit0 : h0.size ≤ it := nT hKp.1 zit
  have git : n0 ≤ it := nT Z0 zit0
  have Sky_ := Sky.keep K1 nin0 all0
  have Ssy_ := Ssy.keep K1 nin0 all0
  have Sey_ := Sey.keep K1 nin0 all0
  have P_ := P.keep K1 nin0
  have A_ := A.keep K1 nin0 nin0
  have Es_ := Es.keep K1
  have Fz_ := Fz.keep K1 nin0
  have M_ := M.keep K1 nin0 nin0
  have Sky := Sky_
  have Ssy := Ssy_
  have Sey := Sey_
  have P := P_
  have A := A_
  have Es := Es_
  have Fz := Fz_
  have M := M_
  have Nf := Fr.app Nf N1
  have hk := nT hk K1.1
  have Zh := nT Zh K1.1
  have hO := hO.keep K1 all0
  have hKp := hKp.trans K1 all0
  obtain ⟨T39, L39, X39, Nf, K1, I2, Sn, ⟨tky, gtky, M2, ztky⟩, st39⟩ := rmTu l Z a0 hw p e _ m _ b0 meth c T37 _ 16 117 i tn ky sy ey al b25 b33 it q q e2 ky ([ky, sy, ey] ++ ([] : List Addr)) NN mc 0 107 ch ([] : List Nat) gg T37.heap n0 X37 hx hby hml hZ hown rfl Zh (by decide) (by decide) Nf EV hO A I rfl git Es Fz Sky gky (by decide) (by decide) hc M gq gq (Nat.le_of_ble_eq_true rfl) (fun q => nomatch q)
  have ytky : h0.size ≤ tky := ztky.elim (fun q => q.symm ▸ zq0) (fun q => nT hKp.1 q)
  have Ssy_ := Ssy.keep K1 (ninS (Ssy.exa.ne I.1 kST_IT) (ninS (Ssy.ne Sky (by decide) (by decide) (by decide)) (ninS (Ssy.exa.ne M.exa kST_HM) (ninS (Ssy.exa.ne M.exa kST_HM) nin0)))) (allS (nX I.1 kIT_BA) (allS (nX Sky.exa kST_BA) (allS (nX M.exa kHM_BA) (allS (nX M.exa kHM_BA) all0))))
  have Sey_ := Sey.keep K1 (ninS (Sey.exa.ne I.1 kST_IT) (ninS (Sey.ne Sky (by decide) (by decide) (by decide)) (ninS (Sey.exa.ne M.exa kST_HM) (ninS (Sey.exa.ne M.exa kST_HM) nin0)))) (allS (nX I.1 kIT_BA) (allS (nX Sky.exa kST_BA) (allS (nX M.exa kHM_BA) (allS (nX M.exa kHM_BA) all0))))
  have P_ := P.keep K1 (ninS (P.1.ne I.1 kIN_IT) (ninS (P.1.ne Sky.exa kIN_ST) (ninS (P.1.ne M.exa kIN_HM) (ninS (P.1.ne M.exa kIN_HM) nin0))))
  have A_ := A.keep K1 (ninS (A.1.ne I.1 kAL_IT) (ninS (A.1.ne Sky.exa kAL_ST) (ninS (A.1.ne M.exa kAL_HM) (ninS (A.1.ne M.exa kAL_HM) nin0)))) (ninS (A.2.2.2.2.2.1.ne I.1 kOA_IT) (ninS (A.2.2.2.2.2.1.ne Sky.exa kOA_ST) (ninS (A.2.2.2.2.2.1.ne M.exa kOA_HM) (ninS (A.2.2.2.2.2.1.ne M.exa kOA_HM) nin0))))
  have Es_ := Es.keep K1
  have Fz_ := Fz.keep K1 (ninS (Es.ne I.1 kHS_IT) (ninS (Es.ne Sky.exa kHS_ST) (ninS (Es.ne M.exa kHS_HM) (ninS (Es.ne M.exa kHS_HM) nin0))))
  have Ssy := Ssy_
  have Sey := Sey_
  have P := P_
  have A := A_
  have Es := Es_
  have Fz := Fz_
  have hk := nT hk K1.1
  have Zh := nT Zh K1.1
  have hO := hO.keep K1 (allS git (allS gky (allS gq (allS gq all0))))
  have hKp := hKp.trans K1 (allS (Or.inr zit0) (allS (mI 1 rfl) (allS (Or.inr zq0) (allS (Or.inr zq0) all0))))
  have Sky := Sn
  have M := M2
  have I := I2
  have c39 : Sx p e b0 S0 T39 (mkF m 107 (a152 i tn ky sy ey al b25 b33 it ky) []) := c37.trans (XS.astore X37.here hx rfl (D 49 rfl) rfl rfl (l' := (a151 i tn ky sy ey al b25 b33 it)) rfl (st39))
  obtain ⟨T40, L40, X40, Nf, K1, I2, Sn, ⟨tsy, gtsy, M2, ztsy⟩, st40⟩ := rmTr l Z a0 hw p e _ m _ b0 meth c T39 _ 18 137 i tn ky sy ey al b25 b33 it q tky e2 sy ky ([ky, sy, ey] ++ ([] : List Addr)) NN mc 1 115 ch [((31 * 107 + ch) % 16)] gg T39.heap n0 X39 hx hby hml hZ hown rfl Zh (by decide) (by decide) Nf EV hO A I rfl git Es Fz Ssy gsy (by decide) (by decide) hc M gq gtky (Nat.le_of_ble_eq_true rfl) (own_ob1 ch)
  have ytsy : h0.size ≤ tsy := ztsy.elim (fun q => q.symm ▸ ytky) (fun q => nT hKp.1 q)
  have Sky_ := Sky.keep K1 (ninS (Sky.exa.ne I.1 kST_IT) (ninS (Sky.ne Ssy (by decide) (by decide) (by decide)) (ninS (Sky.exa.ne M.exa kST_HM) (ninS (Ne.symm (M.ne Sky.exa kHM_ST kNA_ST)) nin0)))) (allS (nX I.1 kIT_BA) (allS (nX Ssy.exa kST_BA) (allS (nX M.exa kHM_BA) (allS (M.notb kHM_BA kNA_BA) all0))))
  have Sey_ := Sey.keep K1 (ninS (Sey.exa.ne I.1 kST_IT) (ninS (Sey.ne Ssy (by decide) (by decide) (by decide)) (ninS (Sey.exa.ne M.exa kST_HM) (ninS (Ne.symm (M.ne Sey.exa kHM_ST kNA_ST)) nin0)))) (allS (nX I.1 kIT_BA) (allS (nX Ssy.exa kST_BA) (allS (nX M.exa kHM_BA) (allS (M.notb kHM_BA kNA_BA) all0))))
  have P_ := P.keep K1 (ninS (P.1.ne I.1 kIN_IT) (ninS (P.1.ne Ssy.exa kIN_ST) (ninS (P.1.ne M.exa kIN_HM) (ninS (Ne.symm (M.ne P.1 kHM_IN kNA_IN)) nin0))))
  have A_ := A.keep K1 (ninS (A.1.ne I.1 kAL_IT) (ninS (A.1.ne Ssy.exa kAL_ST) (ninS (A.1.ne M.exa kAL_HM) (ninS (Ne.symm (M.ne A.1 kHM_AL kNA_AL)) nin0)))) (ninS (A.2.2.2.2.2.1.ne I.1 kOA_IT) (ninS (A.2.2.2.2.2.1.ne Ssy.exa kOA_ST) (ninS (A.2.2.2.2.2.1.ne M.exa kOA_HM) (ninS (Ne.symm (M.ne A.2.2.2.2.2.1 kHM_OA kNA_OA)) nin0))))
  have Es_ := Es.keep K1
  have Fz_ := Fz.keep K1 (ninS (Es.ne I.1 kHS_IT) (ninS (Es.ne Ssy.exa kHS_ST) (ninS (Es.ne M.exa kHS_HM) (ninS (Ne.symm (M.ne Es kHM_HS kNA_HS)) nin0))))
  have Sky := Sky_
  have Sey := Sey_
  have P := P_
  have A := A_
  have Es := Es_
  have Fz := Fz_
  have hk := nT hk K1.1
  have Zh := nT Zh K1.1
  have hO := hO.keep K1 (allS git (allS gsy (allS gq (allS gtky all0))))
  have hKp := hKp.trans K1 (allS (Or.inr zit0) (allS (mI 2 rfl) (allS (Or.inr zq0) (allS (Or.inr ytky) all0))))
  have Ssy := Sn
  have M := M2
  have I := I2
  have c40 : Sx p e b0 S0 T40 (mkF m 107 (a152 i tn ky sy ey al b25 b33 it sy) []) := c39.trans st40
  obtain ⟨T41, L41, X41, Nf, K1, I2, Sn, ⟨tey, gtey, M2, ztey⟩, st41⟩ := rmTr l Z a0 hw p e _ m _ b0 meth c T40 _ 20 157 i tn ky sy ey al b25 b33 it q tsy e2 ey sy ([ky, sy, ey] ++ ([] : List Addr)) NN mc 2 101 ch [((31 * 115 + ch) % 16), ((31 * 107 + ch) % 16)] gg T40.heap n0 X40 hx hby hml hZ hown rfl Zh (by decide) (by decide) Nf EV hO A I rfl git Es Fz Sey gey (by decide) (by decide) hc M gq gtsy (Nat.le_of_ble_eq_true rfl) (own_ob2 ch)
  have ytey : h0.size ≤ tey := ztey.elim (fun q => q.symm ▸ ytsy) (fun q => nT hKp.1 q)
  have Sky_ := Sky.keep K1 (ninS (Sky.exa.ne I.1 kST_IT) (ninS (Sky.ne Sey (by decide) (by decide) (by decide)) (ninS (Sky.exa.ne M.exa kST_HM) (ninS (Ne.symm (M.ne Sky.exa kHM_ST kNA_ST)) nin0)))) (allS (nX I.1 kIT_BA) (allS (nX Sey.exa kST_BA) (allS (nX M.exa kHM_BA) (allS (M.notb kHM_BA kNA_BA) all0))))
  have Ssy_ := Ssy.keep K1 (ninS (Ssy.exa.ne I.1 kST_IT) (ninS (Ssy.ne Sey (by decide) (by decide) (by decide)) (ninS (Ssy.exa.ne M.exa kST_HM) (ninS (Ne.symm (M.ne Ssy.exa kHM_ST kNA_ST)) nin0)))) (allS (nX I.1 kIT_BA) (allS (nX Sey.exa kST_BA) (allS (nX M.exa kHM_BA) (allS (M.notb kHM_BA kNA_BA) all0))))
  have P_ := P.keep K1 (ninS (P.1.ne I.1 kIN_IT) (ninS (P.1.ne Sey.exa kIN_ST) (ninS (P.1.ne M.exa kIN_HM) (ninS (Ne.symm (M.ne P.1 kHM_IN kNA_IN)) nin0))))
  have A_ := A.keep K1 (ninS (A.1.ne I.1 kAL_IT) (ninS (A.1.ne Sey.exa kAL_ST) (ninS (A.1.ne M.exa kAL_HM) (ninS (Ne.symm (M.ne A.1 kHM_AL kNA_AL)) nin0)))) (ninS (A.2.2.2.2.2.1.ne I.1 kOA_IT) (ninS (A.2.2.2.2.2.1.ne Sey.exa kOA_ST) (ninS (A.2.2.2.2.2.1.ne M.exa kOA_HM) (ninS (Ne.symm (M.ne A.2.2.2.2.2.1 kHM_OA kNA_OA)) nin0))))
  have Es_ := Es.keep K1
  have Fz_ := Fz.keep K1 (ninS (Es.ne I.1 kHS_IT) (ninS (Es.ne Sey.exa kHS_ST) (ninS (Es.ne M.exa kHS_HM) (ninS (Ne.symm (M.ne Es kHM_HS kNA_HS)) nin0))))
  have Sky := Sky_
  have Ssy := Ssy_
  have P := P_
  have A := A_
  have Es := Es_
  have Fz := Fz_
  have hk := nT hk K1.1
  have Zh := nT Zh K1.1
  have hO := hO.keep K1 (allS git (allS gey (allS gq (allS gtsy all0))))
  have hKp := hKp.trans K1 (allS (Or.inr zit0) (allS (mI 3 rfl) (allS (Or.inr zq0) (allS (Or.inr ytsy) all0))))
  have Sey := Sn
  have M := M2
  have I := I2
  have c41 : Sx p e b0 S0 T41 (mkF m 107 (a152 i tn ky sy ey al b25 b33 it ey) []) := c40.trans st41
  obtain ⟨cq43, kq43, q43a, q43b, q43c⟩ := isOf hZ rfl I.1
  obtain ⟨_, _, ⟨T43, L43, k43, n43⟩, -, X43, ⟨Lc43, hQ43, l43, y43, z43⟩, st43⟩ := X41.interfaceBack hx (xi := yM73) (y := yM46) (C := "java/util/ArrayList$Itr") hown (mvT hZ (Hw 275 rfl)) (mvT hZ (Hw 276 rfl)) (mvT hZ (Hw 277 rfl)) (mvT hZ (Hw 278 rfl)) (mvT hZ (Hw 279 rfl)) (mvT hZ (Hw 280 rfl)) (mvT hZ (Hw 281 rfl)) (mvT hZ (Hw 282 rfl)) (by decide) (backOf (W := 0) (rmH0 l Z a0 hw [] it b25 e2 ([ky, sy, ey] ++ ([] : List Addr)) NN mc 3 T41.heap n0 Zh I A rfl) hZ (Hw 283 rfl) (Hw 262 rfl) (by decide) (by decide)) q43a q43b q43c (g := (mkF m 109 (a152 i tn ky sy ey al b25 b33 it ey) [(.ref it)])) rfl hml.symm (Steps.refl _) (argsL := []) (rest := []) (lenOf pd23 rfl) rfl (nE rfl) (D 51 rfl) (fun _ _ => ⟨rfl, rfl, (by decide : 22 + 0 ≤ _), (by decide : 177 + 0 ≤ _)⟩)
  dsimp only [Pt.U, Pt.locs, Pt.cells, Pt.slots] at X43 l43 y43 z43 st43 hQ43
  subst l43 y43 z43
  obtain ⟨rfl, N1, e1⟩ := hQ43
  have c43 : Sx p e b0 S0 T43 (mkF m 114 (a152 i tn ky sy ey al b25 b33 it ey) [(.int J0)]) := c41.trans (qa X41 hx rfl (D 50 rfl) rfl rfl (st43))
  have Nf := Fr.app Nf N1
  have Lf := Lr.keep hKp hal1 hal2
  obtain ⟨fs, hr, r1, r2, hW⟩ := X43.leaveW hS (by rw [e1]; exact hk) (v := none) (fun _ => rfl)
  refine ⟨_, _, c43.trans ?_, r1, r2, _, _, rfl, ?_, hW.1, hW.2.1, hW.2.2.1, hW.2.2.2.mono (by decide) (by decide)⟩
  · refine XS.ifYes X43.here hx rfl (pc0 := 114) (pc' := 157) rfl (D 52 rfl) rfl ((if0 _ _).trans (teq rfl).1) (by decide) (by decide) ?_
    exact X43.returnOut hx hret (D 62 rfl) hr
  · show QIi0 Z i tn al ky sy ey ch gg h0 n0 _ T43.heap _
    rw [e1]
    exact ⟨rfl, Nf, hKp, P.1, P.2.1, P.2.2.1, P.2.2.2.1, P.2.2.2.2.1, P.2.2.2.2.2.1, P.2.2.2.2.2.2, Lf, Sky, Ssy, Sey⟩
def QIi1 (Z : State) (i tn al ky sy ey a1 : Addr) (ch : Nat) (gg : own_G) (h0 : Heap) (n0 : Nat) (v : Option Value) (h : Heap) (L : List Loc) : Prop := v = none ∧ Fr n0 L ∧ Keep h0 h [i, ky, sy, ey, a1] ∧ Exa Z h i "com/example/spanfold/spanfold/Input" ∧ Fld Z h i "com/example/spanfold/spanfold/Input" "table" "Ljava/lang/String;" (.ref tn) ∧ Fld Z h i "com/example/spanfold/spanfold/Input" "query" "Ljava/lang/String;" .null ∧ Fld Z h i "com/example/spanfold/spanfold/Input" "key" "Ljava/lang/String;" (.ref ky) ∧ Fld Z h i "com/example/spanfold/spanfold/Input" "start" "Ljava/lang/String;" (.ref sy) ∧ Fld Z h i "com/example/spanfold/spanfold/Input" "end" "Ljava/lang/String;" (.ref ey) ∧ Fld Z h i "com/example/spanfold/spanfold/Input" "attributes" "Ljava/util/List;" (.ref al) ∧ own_Lst Z gg h al [a1] ∧ own_S2 Z h ky 107 ch ∧ own_S2 Z h sy 115 ch ∧ own_S2 Z h ey 101 ch ∧ own_S2 Z h a1 97 ch
theorem rmIi1 (l : Launch) (Z : State) (a0 : Array Value) (hw : HW a0 Z) (ws : List Jvm.Cond) (i tn al ky sy ey a1 : Addr) (ch : Nat) (gg : own_G) (h0 : Heap) (n0 : Nat) (Z0 : n0 ≤ h0.size) (EV : own_Env Z gg) (X00 : Old Z n0 h0) (Ei : Exa Z h0 i "com/example/spanfold/spanfold/Input") (Gt : Fld Z h0 i "com/example/spanfold/spanfold/Input" "table" "Ljava/lang/String;" .null) (Gq : Fld Z h0 i "com/example/spanfold/spanfold/Input" "query" "Ljava/lang/String;" .null) (Gk : Fld Z h0 i "com/example/spanfold/spanfold/Input" "key" "Ljava/lang/String;" .null) (Gs : Fld Z h0 i "com/example/spanfold/spanfold/Input" "start" "Ljava/lang/String;" .null) (Ge : Fld Z h0 i "com/example/spanfold/spanfold/Input" "end" "Ljava/lang/String;" .null) (Ga : Fld Z h0 i "com/example/spanfold/spanfold/Input" "attributes" "Ljava/util/List;" .null) (gi : n0 ≤ i) (Sky : own_S2 Z h0 ky 107 ch) (Ssy : own_S2 Z h0 sy 115 ch) (Sey : own_S2 Z h0 ey 101 ch) (Sa1 : own_S2 Z h0 a1 97 ch) (gky : n0 ≤ ky) (gsy : n0 ≤ sy) (gey : n0 ≤ ey) (ga1 : n0 ≤ a1) (Lr : own_Lst Z gg h0 al [a1]) (hc : ch < 256) :
    own_MW l yM75 prog_11_method_1_code 11 none ws (rK 8 26 240 140) #[(.ref i), (.ref tn), .null, (.ref ky), (.ref sy), (.ref ey), (.ref al)] Z h0 (QIi1 Z i tn al ky sy ey a1 ch gg h0 n0) := by
  refine own_openW (plainFor_of_name pn2) dB71 fun p e s m b0 meth c s₁ S0 hx D hby hml hown hnm hret hlk hZ X0 e0 c0 => ?_
  replace c0 : Sx p e b0 S0 s₁ (mkF m 0 (a153 i tn ky sy ey al) []) := c0
  have Hw := @own_Hw _ _ hw
  have N0 := Fr.nil n0
  obtain ⟨V0, hV0⟩ : ∃ V, V = s.vm := ⟨_, rfl⟩
  have Xs : Stand p l e (rK 8 26 240 140) (s.setVm V0) m #[(.ref i), (.ref tn), .null, (.ref ky), (.ref sy), (.ref ey), (.ref al)] b0 meth c s₁ [] 0 0 := by subst hV0; exact X0
  have hS : s.Since V0 h0.size := by subst hV0; exact (State.WarmedH.refl s).since _
  replace hZ : Z.Warmed39 (s.setVm V0).vm := by subst hV0; exact hZ
  replace hown : (s.setVm V0).vm.findClass "com/example/spanfold/spanfold/Input" = some m.cls := by subst hV0; exact hown
  have hk : h0.size ≤ h0.size := Nat.le_refl _
  have Zh := Z0
  have Nf := N0
  have hO := X00
  have hKp := Keep.refl h0 [i, ky, sy, ey, a1]
  have hal1 : al ∉ [i, ky, sy, ey, a1] := (ninS (Lr.not Ei (by decide) (by decide)) (ninS (Lr.not Sky.exa (by decide) (by decide)) (ninS (Lr.not Ssy.exa (by decide) (by decide)) (ninS (Lr.not Sey.exa (by decide) (by decide)) (ninS (Lr.not Sa1.exa (by decide) (by decide)) nin0)))))
  have hal2 : ∀ x ∈ [i, ky, sy, ey, a1], ¬ Exa Z h0 x own_OAn := (allS (nX Ei (by decide)) (allS (nX Sky.exa (by decide)) (allS (nX Ssy.exa (by decide)) (allS (nX Sey.exa (by decide)) (allS (nX Sa1.exa (by decide)) all0)))))
  obtain ⟨_, _, ⟨T2, L2, k2, n2⟩, -, X2, ⟨Lc2, hQ2, l2, y2, z2⟩, st2⟩ := Xs.specialBack hx (y := yM7) rfl hown (mvT hZ (Hw 74 rfl)) (mvT hZ (Hw 75 rfl)) (mvT hZ (Hw 78 rfl)) (by decide) (backOf (W := 0) (rmEx l Z a0 hw [] i h0 n0 Zh) hZ (Hw 78 rfl) (Hw 77 rfl) (by decide) (by decide)) (g := (mkF m 1 (a153 i tn ky sy ey al) [(.ref i)])) rfl hml.symm (Steps.refl _) (a := i) (argsL := []) (rest := []) (lenOf pd0 rfl) rfl (nE rfl) (D 1 rfl) (fun _ _ => ⟨rfl, e0, (by decide : 0 + 0 ≤ _), (by decide : 0 + 0 ≤ _)⟩)
  dsimp only [Pt.U, Pt.locs, Pt.cells, Pt.slots] at X2 l2 y2 z2 st2 hQ2
  subst l2 y2 z2
  obtain ⟨rfl, N1, e1⟩ := hQ2
  have c2 : Sx p e b0 S0 T2 (mkF m 4 (a153 i tn ky sy ey al) []) := c0.trans (qA Xs hx rfl (D 0 rfl) rfl rfl (st2))
  have Nf := Fr.app Nf N1
  obtain ⟨T4, h4, X4, e4, W4, st4⟩ := putF X2 hx hZ hown (host := "") (Or.inl (Hw 80 rfl)) Via.refl e1 Gt Ei (Or.inr ⟨(Hw 81 rfl), rfl, hnm⟩) (Hw 64 rfl) (ty := (.object "java/lang/String")) (by decide) rfl rfl (g := (mkF m 6 (a153 i tn ky sy ey al) [(.ref tn), (.ref i)])) rfl rfl (D 4 rfl)
  have c4 : Sx p e b0 S0 T4 (mkF m 9 (a153 i tn ky sy ey al) []) := c2.trans (qA X2 hx rfl (D 2 rfl) rfl rfl (qA X2 hx rfl (D 3 rfl) rfl rfl (st4 _ (Steps.refl _))))
  have Sky_ := Sky.keep (Keep.of_wr W4) (ninS (Sky.exa.ne Ei kST_IN) nin0) (allS (nX Ei kIN_BA) all0)
  have Ssy_ := Ssy.keep (Keep.of_wr W4) (ninS (Ssy.exa.ne Ei kST_IN) nin0) (allS (nX Ei kIN_BA) all0)
  have Sey_ := Sey.keep (Keep.of_wr W4) (ninS (Sey.exa.ne Ei kST_IN) nin0) (allS (nX Ei kIN_BA) all0)
  have Sa1_ := Sa1.keep (Keep.of_wr W4) (ninS (Sa1.exa.ne Ei kST_IN) nin0) (allS (nX Ei kIN_BA) all0)
  have Sky := Sky_
  have Ssy := Ssy_
  have Sey := Sey_
  have Sa1 := Sa1_
  have Ei := Ei.wr W4
  have Gt := Gt.same W4
  have Gq := Gq.other W4 (own_sn (Or.inr (Hw 83 rfl)) (Or.inr (Hw 81 rfl)) (.object "java/lang/String") (.object "java/lang/String"))
  have Gk := Gk.other W4 (own_sn (Or.inr (Hw 87 rfl)) (Or.inr (Hw 81 rfl)) (.object "java/lang/String") (.object "java/lang/String"))
  have Gs := Gs.other W4 (own_sn (Or.inr (Hw 90 rfl)) (Or.inr (Hw 81 rfl)) (.object "java/lang/String") (.object "java/lang/String"))
  have Ge := Ge.other W4 (own_sn (Or.inr (Hw 93 rfl)) (Or.inr (Hw 81 rfl)) (.object "java/lang/String") (.object "java/lang/String"))
  have Ga := Ga.other W4 (own_sn (Or.inr (Hw 113 rfl)) (Or.inr (Hw 81 rfl)) (.object "java/util/List") (.object "java/lang/String"))
  have Nf := Fr.snoc X4 Nf gi
  have hk := nT hk (nE (own_wsz W4).symm)
  have Zh := nT Zh (nE (own_wsz W4).symm)
  have hO := hO.wr W4 gi
  have hKp := hKp.wr W4 (mI 0 rfl)
  obtain ⟨T6, h6, X6, e6, W6, st6⟩ := putF X4 hx hZ hown (host := "") (Or.inl (Hw 82 rfl)) Via.refl e4 Gq Ei (Or.inr ⟨(Hw 83 rfl), rfl, hnm⟩) (Hw 64 rfl) (ty := (.object "java/lang/String")) (by decide) rfl rfl (g := (mkF m 11 (a153 i tn ky sy ey al) [.null, (.ref i)])) rfl rfl (D 7 rfl)
  have c6 : Sx p e b0 S0 T6 (mkF m 14 (a153 i tn ky sy ey al) []) := c4.trans (qA X4 hx rfl (D 5 rfl) rfl rfl (qA X4 hx rfl (D 6 rfl) rfl rfl (st6 _ (Steps.refl _))))
  have Sky_ := Sky.keep (Keep.of_wr W6) (ninS (Sky.exa.ne Ei kST_IN) nin0) (allS (nX Ei kIN_BA) all0)
  have Ssy_ := Ssy.keep (Keep.of_wr W6) (ninS (Ssy.exa.ne Ei kST_IN) nin0) (allS (nX Ei kIN_BA) all0)
  have Sey_ := Sey.keep (Keep.of_wr W6) (ninS (Sey.exa.ne Ei kST_IN) nin0) (allS (nX Ei kIN_BA) all0)
  have Sa1_ := Sa1.keep (Keep.of_wr W6) (ninS (Sa1.exa.ne Ei kST_IN) nin0) (allS (nX Ei kIN_BA) all0)
  have Sky := Sky_
  have Ssy := Ssy_
  have Sey := Sey_
  have Sa1 := Sa1_
  have Ei := Ei.wr W6
  have Gt := Gt.other W6 (own_sn (Or.inr (Hw 81 rfl)) (Or.inr (Hw 83 rfl)) (.object "java/lang/String") (.object "java/lang/String"))
  have Gq := Gq.same W6
  have Gk := Gk.other W6 (own_sn (Or.inr (Hw 87 rfl)) (Or.inr (Hw 83 rfl)) (.object "java/lang/String") (.object "java/lang/String"))
  have Gs := Gs.other W6 (own_sn (Or.inr (Hw 90 rfl)) (Or.inr (Hw 83 rfl)) (.object "java/lang/String") (.object "java/lang/String"))
  have Ge := Ge.other W6 (own_sn (Or.inr (Hw 93 rfl)) (Or.inr (Hw 83 rfl)) (.object "java/lang/String") (.object "java/lang/String"))
  have Ga := Ga.other W6 (own_sn (Or.inr (Hw 113 rfl)) (Or.inr (Hw 83 rfl)) (.object "java/util/List") (.object "java/lang/String"))
  have Nf := Fr.snoc X6 Nf gi
  have hk := nT hk (nE (own_wsz W6).symm)
  have Zh := nT Zh (nE (own_wsz W6).symm)
  have hO := hO.wr W6 gi
  have hKp := hKp.wr W6 (mI 0 rfl)
  obtain ⟨q8, T8, h8, k8, X8, e8, E8, hS, hk, hZ, hown, st8⟩ := ldcS X6 hx hZ hown (Hw 84 rfl) (own_wS hw) e6 hS hk (g := (mkF m 16 (a153 i tn ky sy ey al) [(.ref ky), (.ref i)])) rfl (D 10 rfl) (n := 12) (by decide) (by decide) (by decide) (by decide)
  have c8 : Sx p e b0 S0 T8 (mkF m 18 (a153 i tn ky sy ey al) [(.ref q8), (.ref ky), (.ref i)]) := c6.trans (qA X6 hx rfl (D 8 rfl) rfl rfl (qA X6 hx rfl (D 9 rfl) rfl rfl (st8 _ (Steps.refl _))))
  have Sky := Sky.ext E8
  have Ssy := Ssy.ext E8
  have Sey := Sey.ext E8
  have Sa1 := Sa1.ext E8
  have Ei := Ei.ext E8
  have Gt := Gt.ext E8
  have Gq := Gq.ext E8
  have Gk := Gk.ext E8
  have Gs := Gs.ext E8
  have Ge := Ge.ext E8
  have Ga := Ga.ext E8
  have Zh := nT Zh E8.1
  have hO := hO.ext E8
  have hKp := hKp.ext E8
  obtain ⟨_, _, ⟨T9, L9, k9, n9⟩, -, X9, ⟨Lc9, hQ9, l9, y9, z9⟩, st9⟩ := Jvm.LawKit.callS X8 hx (y := yM1) hown (mvT hZ (Hw 59 rfl)) (mvT hZ (Hw 60 rfl)) (mvT hZ (Hw 61 rfl)) (mvT hZ (Hw 62 rfl)) (by decide) (backOf (W := 1) (rmR2 l Z a0 hw [] ky q8 h8 n0 Zh) hZ (Hw 62 rfl) (Hw 61 rfl) (by decide) (by decide)) (g := (mkF m 18 (a153 i tn ky sy ey al) [(.ref q8), (.ref ky), (.ref i)])) rfl hml.symm (argsL := [(.ref ky), (.ref q8)]) (rest := [(.ref i)]) (lenOf pd36 rfl) rfl (nE rfl) (D 11 rfl) (fun _ _ => ⟨rfl, e8, (by decide : 2 + 0 ≤ _), (by decide : 16 + 0 ≤ _)⟩)
  dsimp only [Pt.U, Pt.locs, Pt.cells, Pt.slots] at X9 l9 y9 z9 st9 hQ9
  subst l9 y9 z9
  obtain ⟨rfl, N1, e1⟩ := hQ9
  have c9 : Sx p e b0 S0 T9 (mkF m 21 (a153 i tn ky sy ey al) [(.ref ky), (.ref i)]) := c8.trans (st9 _ (Steps.refl _))
  have Nf := Fr.app Nf N1
  obtain ⟨T10, X10, e10, st10⟩ := castY X9 hx hZ hown (Hw 85 rfl) e1 (Ins.self Sky.exa) (g := (mkF m 21 (a153 i tn ky sy ey al) [(.ref ky), (.ref i)])) rfl rfl (D 12 rfl)
  have c10 : Sx p e b0 S0 T10 (mkF m 24 (a153 i tn ky sy ey al) [(.ref ky), (.ref i)]) := c9.trans (st10 _ (Steps.refl _))
  obtain ⟨T11, h11, X11, e11, W11, st11⟩ := putF X10 hx hZ hown (host := "") (Or.inl (Hw 86 rfl)) Via.refl e10 Gk Ei (Or.inr ⟨(Hw 87 rfl), rfl, hnm⟩) (Hw 64 rfl) (ty := (.object "java/lang/String")) (by decide) rfl rfl (g := (mkF m 24 (a153 i tn ky sy ey al) [(.ref ky), (.ref i)])) rfl rfl (D 13 rfl)
  have c11 : Sx p e b0 S0 T11 (mkF m 27 (a153 i tn ky sy ey al) []) := c10.trans (st11 _ (Steps.refl _))
  have Sky_ := Sky.keep (Keep.of_wr W11) (ninS (Sky.exa.ne Ei kST_IN) nin0) (allS (nX Ei kIN_BA) all0)
  have Ssy_ := Ssy.keep (Keep.of_wr W11) (ninS (Ssy.exa.ne Ei kST_IN) nin0) (allS (nX Ei kIN_BA) all0)
  have Sey_ := Sey.keep (Keep.of_wr W11) (ninS (Sey.exa.ne Ei kST_IN) nin0) (allS (nX Ei kIN_BA) all0)
  have Sa1_ := Sa1.keep (Keep.of_wr W11) (ninS (Sa1.exa.ne Ei kST_IN) nin0) (allS (nX Ei kIN_BA) all0)
  have Sky := Sky_
  have Ssy := Ssy_
  have Sey := Sey_
  have Sa1 := Sa1_
  have Ei := Ei.wr W11
  have Gt := Gt.other W11 (own_sn (Or.inr (Hw 81 rfl)) (Or.inr (Hw 87 rfl)) (.object "java/lang/String") (.object "java/lang/String"))
  have Gq := Gq.other W11 (own_sn (Or.inr (Hw 83 rfl)) (Or.inr (Hw 87 rfl)) (.object "java/lang/String") (.object "java/lang/String"))
  have Gk := Gk.same W11
  have Gs := Gs.other W11 (own_sn (Or.inr (Hw 90 rfl)) (Or.inr (Hw 87 rfl)) (.object "java/lang/String") (.object "java/lang/String"))
  have Ge := Ge.other W11 (own_sn (Or.inr (Hw 93 rfl)) (Or.inr (Hw 87 rfl)) (.object "java/lang/String") (.object "java/lang/String"))
  have Ga := Ga.other W11 (own_sn (Or.inr (Hw 113 rfl)) (Or.inr (Hw 87 rfl)) (.object "java/util/List") (.object "java/lang/String"))
  have Nf := Fr.snoc X11 Nf gi
  have hk := nT hk (nE (own_wsz W11).symm)
  have Zh := nT Zh (nE (own_wsz W11).symm)
  have hO := hO.wr W11 gi
  have hKp := hKp.wr W11 (mI 0 rfl)
  obtain ⟨q13, T13, h13, k13, X13, e13, E13, hS, hk, hZ, hown, st13⟩ := ldcS X11 hx hZ hown (Hw 88 rfl) (own_wS hw) e11 hS hk (g := (mkF m 30 (a153 i tn ky sy ey al) [(.ref sy), (.ref i)])) rfl (D 16 rfl) (n := 20) (by decide) (by decide) (by decide) (by decide)
  have c13 : Sx p e b0 S0 T13 (mkF m 32 (a153 i tn ky sy ey al) [(.ref q13), (.ref sy), (.ref i)]) := c11.trans (qA X11 hx rfl (D 14 rfl) rfl rfl (qa X11 hx rfl (D 15 rfl) rfl rfl (st13 _ (Steps.refl _))))
  have Sky := Sky.ext E13
  have Ssy := Ssy.ext E13
  have Sey := Sey.ext E13
  have Sa1 := Sa1.ext E13
  have Ei := Ei.ext E13
  have Gt := Gt.ext E13
  have Gq := Gq.ext E13
  have Gk := Gk.ext E13
  have Gs := Gs.ext E13
  have Ge := Ge.ext E13
  have Ga := Ga.ext E13
  have Zh := nT Zh E13.1
  have hO := hO.ext E13
  have hKp := hKp.ext E13
  obtain ⟨_, _, ⟨T14, L14, k14, n14⟩, -, X14, ⟨Lc14, hQ14, l14, y14, z14⟩, st14⟩ := Jvm.LawKit.callS X13 hx (y := yM1) hown (mvT hZ (Hw 59 rfl)) (mvT hZ (Hw 60 rfl)) (mvT hZ (Hw 61 rfl)) (mvT hZ (Hw 62 rfl)) (by decide) (backOf (W := 1) (rmR2 l Z a0 hw [] sy q13 h13 n0 Zh) hZ (Hw 62 rfl) (Hw 61 rfl) (by decide) (by decide)) (g := (mkF m 32 (a153 i tn ky sy ey al) [(.ref q13), (.ref sy), (.ref i)])) rfl hml.symm (argsL := [(.ref sy), (.ref q13)]) (rest := [(.ref i)]) (lenOf pd36 rfl) rfl (nE rfl) (D 17 rfl) (fun _ _ => ⟨rfl, e13, (by decide : 4 + 0 ≤ _), (by decide : 40 + 0 ≤ _)⟩)
  dsimp only [Pt.U, Pt.locs, Pt.cells, Pt.slots] at X14 l14 y14 z14 st14 hQ14
  subst l14 y14 z14
  obtain ⟨rfl, N1, e1⟩ := hQ14
  have c14 : Sx p e b0 S0 T14 (mkF m 35 (a153 i tn ky sy ey al) [(.ref sy), (.ref i)]) := c13.trans (st14 _ (Steps.refl _))
  have Nf := Fr.app Nf N1
  obtain ⟨T15, X15, e15, st15⟩ := castY X14 hx hZ hown (Hw 85 rfl) e1 (Ins.self Ssy.exa) (g := (mkF m 35 (a153 i tn ky sy ey al) [(.ref sy), (.ref i)])) rfl rfl (D 18 rfl)
  have c15 : Sx p e b0 S0 T15 (mkF m 38 (a153 i tn ky sy ey al) [(.ref sy), (.ref i)]) := c14.trans (st15 _ (Steps.refl _))
  obtain ⟨T16, h16, X16, e16, W16, st16⟩ := putF X15 hx hZ hown (host := "") (Or.inl (Hw 89 rfl)) Via.refl e15 Gs Ei (Or.inr ⟨(Hw 90 rfl), rfl, hnm⟩) (Hw 64 rfl) (ty := (.object "java/lang/String")) (by decide) rfl rfl (g := (mkF m 38 (a153 i tn ky sy ey al) [(.ref sy), (.ref i)])) rfl rfl (D 19 rfl)
  have c16 : Sx p e b0 S0 T16 (mkF m 41 (a153 i tn ky sy ey al) []) := c15.trans (st16 _ (Steps.refl _))
  have Sky_ := Sky.keep (Keep.of_wr W16) (ninS (Sky.exa.ne Ei kST_IN) nin0) (allS (nX Ei kIN_BA) all0)
  have Ssy_ := Ssy.keep (Keep.of_wr W16) (ninS (Ssy.exa.ne Ei kST_IN) nin0) (allS (nX Ei kIN_BA) all0)
  have Sey_ := Sey.keep (Keep.of_wr W16) (ninS (Sey.exa.ne Ei kST_IN) nin0) (allS (nX Ei kIN_BA) all0)
  have Sa1_ := Sa1.keep (Keep.of_wr W16) (ninS (Sa1.exa.ne Ei kST_IN) nin0) (allS (nX Ei kIN_BA) all0)
  have Sky := Sky_
  have Ssy := Ssy_
  have Sey := Sey_
  have Sa1 := Sa1_
  have Ei := Ei.wr W16
  have Gt := Gt.other W16 (own_sn (Or.inr (Hw 81 rfl)) (Or.inr (Hw 90 rfl)) (.object "java/lang/String") (.object "java/lang/String"))
  have Gq := Gq.other W16 (own_sn (Or.inr (Hw 83 rfl)) (Or.inr (Hw 90 rfl)) (.object "java/lang/String") (.object "java/lang/String"))
  have Gk := Gk.other W16 (own_sn (Or.inr (Hw 87 rfl)) (Or.inr (Hw 90 rfl)) (.object "java/lang/String") (.object "java/lang/String"))
  have Gs := Gs.same W16
  have Ge := Ge.other W16 (own_sn (Or.inr (Hw 93 rfl)) (Or.inr (Hw 90 rfl)) (.object "java/lang/String") (.object "java/lang/String"))
  have Ga := Ga.other W16 (own_sn (Or.inr (Hw 113 rfl)) (Or.inr (Hw 90 rfl)) (.object "java/util/List") (.object "java/lang/String"))
  have Nf := Fr.snoc X16 Nf gi
  have hk := nT hk (nE (own_wsz W16).symm)
  have Zh := nT Zh (nE (own_wsz W16).symm)
  have hO := hO.wr W16 gi
  have hKp := hKp.wr W16 (mI 0 rfl)
  obtain ⟨q18, T18, h18, k18, X18, e18, E18, hS, hk, hZ, hown, st18⟩ := ldcS X16 hx hZ hown (Hw 91 rfl) (own_wS hw) e16 hS hk (g := (mkF m 44 (a153 i tn ky sy ey al) [(.ref ey), (.ref i)])) rfl (D 22 rfl) (n := 12) (by decide) (by decide) (by decide) (by decide)
  have c18 : Sx p e b0 S0 T18 (mkF m 46 (a153 i tn ky sy ey al) [(.ref q18), (.ref ey), (.ref i)]) := c16.trans (qA X16 hx rfl (D 20 rfl) rfl rfl (qa X16 hx rfl (D 21 rfl) rfl rfl (st18 _ (Steps.refl _))))
  have Sky := Sky.ext E18
  have Ssy := Ssy.ext E18
  have Sey := Sey.ext E18
  have Sa1 := Sa1.ext E18
  have Ei := Ei.ext E18
  have Gt := Gt.ext E18
  have Gq := Gq.ext E18
  have Gk := Gk.ext E18
  have Gs := Gs.ext E18
  have Ge := Ge.ext E18
  have Ga := Ga.ext E18
  have Zh := nT Zh E18.1
  have hO := hO.ext E18
  have hKp := hKp.ext E18
  obtain ⟨_, _, ⟨T19, L19, k19, n19⟩, -, X19, ⟨Lc19, hQ19, l19, y19, z19⟩, st19⟩ := Jvm.LawKit.callS X18 hx (y := yM1) hown (mvT hZ (Hw 59 rfl)) (mvT hZ (Hw 60 rfl)) (mvT hZ (Hw 61 rfl)) (mvT hZ (Hw 62 rfl)) (by decide) (backOf (W := 1) (rmR2 l Z a0 hw [] ey q18 h18 n0 Zh) hZ (Hw 62 rfl) (Hw 61 rfl) (by decide) (by decide)) (g := (mkF m 46 (a153 i tn ky sy ey al) [(.ref q18), (.ref ey), (.ref i)])) rfl hml.symm (argsL := [(.ref ey), (.ref q18)]) (rest := [(.ref i)]) (lenOf pd36 rfl) rfl (nE rfl) (D 23 rfl) (fun _ _ => ⟨rfl, e18, (by decide : 6 + 0 ≤ _), (by decide : 56 + 0 ≤ _)⟩)
  dsimp only [Pt.U, Pt.locs, Pt.cells, Pt.slots] at X19 l19 y19 z19 st19 hQ19
  subst l19 y19 z19
  obtain ⟨rfl, N1, e1⟩ := hQ19
  have c19 : Sx p e b0 S0 T19 (mkF m 49 (a153 i tn ky sy ey al) [(.ref ey), (.ref i)]) := c18.trans (st19 _ (Steps.refl _))
  have Nf := Fr.app Nf N1
  obtain ⟨T20, X20, e20, st20⟩ := castY X19 hx hZ hown (Hw 85 rfl) e1 (Ins.self Sey.exa) (g := (mkF m 49 (a153 i tn ky sy ey al) [(.ref ey), (.ref i)])) rfl rfl (D 24 rfl)
  have c20 : Sx p e b0 S0 T20 (mkF m 52 (a153 i tn ky sy ey al) [(.ref ey), (.ref i)]) := c19.trans (st20 _ (Steps.refl _))
  obtain ⟨T21, h21, X21, e21, W21, st21⟩ := putF X20 hx hZ hown (host := "") (Or.inl (Hw 92 rfl)) Via.refl e20 Ge Ei (Or.inr ⟨(Hw 93 rfl), rfl, hnm⟩) (Hw 64 rfl) (ty := (.object "java/lang/String")) (by decide) rfl rfl (g := (mkF m 52 (a153 i tn ky sy ey al) [(.ref ey), (.ref i)])) rfl rfl (D 25 rfl)
  have c21 : Sx p e b0 S0 T21 (mkF m 55 (a153 i tn ky sy ey al) []) := c20.trans (st21 _ (Steps.refl _))
  have Sky_ := Sky.keep (Keep.of_wr W21) (ninS (Sky.exa.ne Ei kST_IN) nin0) (allS (nX Ei kIN_BA) all0)
  have Ssy_ := Ssy.keep (Keep.of_wr W21) (ninS (Ssy.exa.ne Ei kST_IN) nin0) (allS (nX Ei kIN_BA) all0)
  have Sey_ := Sey.keep (Keep.of_wr W21) (ninS (Sey.exa.ne Ei kST_IN) nin0) (allS (nX Ei kIN_BA) all0)
  have Sa1_ := Sa1.keep (Keep.of_wr W21) (ninS (Sa1.exa.ne Ei kST_IN) nin0) (allS (nX Ei kIN_BA) all0)
  have Sky := Sky_
  have Ssy := Ssy_
  have Sey := Sey_
  have Sa1 := Sa1_
  have Ei := Ei.wr W21
  have Gt := Gt.other W21 (own_sn (Or.inr (Hw 81 rfl)) (Or.inr (Hw 93 rfl)) (.object "java/lang/String") (.object "java/lang/String"))
  have Gq := Gq.other W21 (own_sn (Or.inr (Hw 83 rfl)) (Or.inr (Hw 93 rfl)) (.object "java/lang/String") (.object "java/lang/String"))
  have Gk := Gk.other W21 (own_sn (Or.inr (Hw 87 rfl)) (Or.inr (Hw 93 rfl)) (.object "java/lang/String") (.object "java/lang/String"))
  have Gs := Gs.other W21 (own_sn (Or.inr (Hw 90 rfl)) (Or.inr (Hw 93 rfl)) (.object "java/lang/String") (.object "java/lang/String"))
  have Ge := Ge.same W21
  have Ga := Ga.other W21 (own_sn (Or.inr (Hw 113 rfl)) (Or.inr (Hw 93 rfl)) (.object "java/util/List") (.object "java/lang/String"))
  have Nf := Fr.snoc X21 Nf gi
  have hk := nT hk (nE (own_wsz W21).symm)
  have Zh := nT Zh (nE (own_wsz W21).symm)
  have hO := hO.wr W21 gi
  have hKp := hKp.wr W21 (mI 0 rfl)
  obtain ⟨_, _, ⟨T23, L23, k23, n23⟩, -, X23, ⟨Lc23, hQ23, l23, y23, z23⟩, st23⟩ := Jvm.LawKit.callS X21 hx (y := yM72) hown (mvT hZ (Hw 94 rfl)) (mvT hZ (Hw 95 rfl)) (mvT hZ (Hw 67 rfl)) (mvT hZ (Hw 96 rfl)) (by decide) (backOf (W := 1) (rmLo l Z a0 hw [] al [a1] gg h21 n0 Zh (Lr.keep hKp hal1 hal2)) hZ (Hw 96 rfl) (Hw 67 rfl) (by decide) (by decide)) (g := (mkF m 58 (a153 i tn ky sy ey al) [(.ref al), (.ref i)])) rfl hml.symm (argsL := [(.ref al)]) (rest := [(.ref i)]) (lenOf pd33 rfl) rfl (nE rfl) (D 28 rfl) (fun _ _ => ⟨rfl, e21, (by decide : 6 + 0 ≤ _), (by decide : 56 + 0 ≤ _)⟩)
  dsimp only [Pt.U, Pt.locs, Pt.cells, Pt.slots] at X23 l23 y23 z23 st23 hQ23
  subst l23 y23 z23
  obtain ⟨rfl, N1, e1⟩ := hQ23
  have c23 : Sx p e b0 S0 T23 (mkF m 61 (a153 i tn ky sy ey al) [(.ref al), (.ref i)]) := c21.trans (qA X21 hx rfl (D 26 rfl) rfl rfl (qa X21 hx rfl (D 27 rfl) rfl rfl (st23 _ (Steps.refl _))))
  have Nf := Fr.app Nf N1
  obtain ⟨T24, h24, X24, e24, W24, st24⟩ := putF X23 hx hZ hown (host := "") (Or.inl (Hw 112 rfl)) Via.refl e1 Ga Ei (Or.inr ⟨(Hw 113 rfl), rfl, hnm⟩) (Hw 64 rfl) (ty := (.object "java/util/List")) (by decide) rfl rfl (g := (mkF m 61 (a153 i tn ky sy ey al) [(.ref al), (.ref i)])) rfl rfl (D 29 rfl)
  have c24 : Sx p e b0 S0 T24 (mkF m 64 (a153 i tn ky sy ey al) []) := c23.trans (st24 _ (Steps.refl _))
  have Sky_ := Sky.keep (Keep.of_wr W24) (ninS (Sky.exa.ne Ei kST_IN) nin0) (allS (nX Ei kIN_BA) all0)
  have Ssy_ := Ssy.keep (Keep.of_wr W24) (ninS (Ssy.exa.ne Ei kST_IN) nin0) (allS (nX Ei kIN_BA) all0)
  have Sey_ := Sey.keep (Keep.of_wr W24) (ninS (Sey.exa.ne Ei kST_IN) nin0) (allS (nX Ei kIN_BA) all0)
  have Sa1_ := Sa1.keep (Keep.of_wr W24) (ninS (Sa1.exa.ne Ei kST_IN) nin0) (allS (nX Ei kIN_BA) all0)
  have Sky := Sky_
  have Ssy := Ssy_
  have Sey := Sey_
  have Sa1 := Sa1_
  have Ei := Ei.wr W24
  have Gt := Gt.other W24 (own_sn (Or.inr (Hw 81 rfl)) (Or.inr (Hw 113 rfl)) (.object "java/lang/String") (.object "java/util/List"))
  have Gq := Gq.other W24 (own_sn (Or.inr (Hw 83 rfl)) (Or.inr (Hw 113 rfl)) (.object "java/lang/String") (.object "java/util/List"))
  have Gk := Gk.other W24 (own_sn (Or.inr (Hw 87 rfl)) (Or.inr (Hw 113 rfl)) (.object "java/lang/String") (.object "java/util/List"))
  have Gs := Gs.other W24 (own_sn (Or.inr (Hw 90 rfl)) (Or.inr (Hw 113 rfl)) (.object "java/lang/String") (.object "java/util/List"))
  have Ge := Ge.other W24 (own_sn (Or.inr (Hw 93 rfl)) (Or.inr (Hw 113 rfl)) (.object "java/lang/String") (.object "java/util/List"))
  have Ga := Ga.same W24
  have Nf := Fr.snoc X24 Nf gi
  have hk := nT hk (nE (own_wsz W24).symm)
  have Zh := nT Zh (nE (own_wsz W24).symm)
  have hO := hO.wr W24 gi
  have hKp := hKp.wr W24 (mI 0 rfl)
  have P : own_If Z _ i tn ky sy ey al := ⟨Ei, Gt, Gq, Gk, Gs, Ge, Ga⟩
  clear Ei Gt Gq Gk Gs Ge Ga
  obtain ⟨T25, h25, X25, e25, E25, A25, D25, -, st25⟩ := newO X24 hx hZ hown (Hw 114 rfl) (Hw 115 rfl) (Hw 116 rfl) e24 (g := (mkF m 64 (a153 i tn ky sy ey al) [])) rfl (D 30 rfl) (by decide) (by decide)
  obtain ⟨b25, g25⟩ : ∃ z, z = h24.size := ⟨_, rfl⟩
  rw [← g25] at A25 D25 st25
  have c25 : Sx p e b0 S0 T25 (mkF m 67 (a153 i tn ky sy ey al) [(.ref b25)]) := c24.trans (st25 _ (Steps.refl _))
  have zb25 : h0.size ≤ b25 := nT hKp.1 (nE g25.symm)
  have nb25 : n0 ≤ b25 := nT Z0 zb25
  have Sky := Sky.ext E25
  have Ssy := Ssy.ext E25
  have Sey := Sey.ext E25
  have Sa1 := Sa1.ext E25
  have P := P.ext E25
  have hk := nT hk E25.1
  have Zh := nT Zh E25.1
  have hO := hO.ext E25
  have hKp := hKp.ext E25
  have Ea := A25
  have Fm : Fld Z h25 b25 "java/util/AbstractList" "modCount" "I" (.int 0) := D25 (Or.inl (Hw 169 rfl)) (ty := .int) (by decide)
  have Fs : Fld Z h25 b25 "java/util/ArrayList" "size" "I" (.int 0) := D25 (Or.inl (Hw 203 rfl)) (ty := .int) (by decide)
  have Fe : Fld Z h25 b25 "java/util/ArrayList" "elementData" "[Ljava/lang/Object;" .null := D25 (Or.inl (Hw 214 rfl)) (ty := (.array (.object "java/lang/Object"))) (by decide)
  obtain ⟨_, _, ⟨T27, L27, k27, n27⟩, -, X27, ⟨Lc27, hQ27, l27, y27, z27⟩, st27⟩ := Jvm.LawKit.callS X25 hx (y := yM25) hown (mvT hZ (Hw 117 rfl)) (mvT hZ (Hw 118 rfl)) (mvT hZ (Hw 67 rfl)) (mvT hZ (Hw 119 rfl)) (by decide) (backOf (W := 2) (rmO3 l Z a0 hw [] ky sy ey gg h25 n0 Zh EV hO (Ins.of_exa Sky.exa (Hw 122 rfl)) (Ins.of_exa Ssy.exa (Hw 122 rfl)) (Ins.of_exa Sey.exa (Hw 122 rfl))) hZ (Hw 119 rfl) (Hw 67 rfl) (by decide) (by decide)) (g := (mkF m 73 (a153 i tn ky sy ey al) [(.ref ey), (.ref sy), (.ref ky), (.ref b25), (.ref b25)])) rfl hml.symm (argsL := [(.ref ky), (.ref sy), (.ref ey)]) (rest := [(.ref b25), (.ref b25)]) (lenOf pd37 rfl) rfl (nE rfl) (D 35 rfl) (fun _ _ => ⟨rfl, e25, (by decide : 7 + 2 ≤ _), (by decide : 59 + 5 ≤ _)⟩)
  dsimp only [Pt.U, Pt.locs, Pt.cells, Pt.slots] at X27 l27 y27 z27 st27 hQ27
  subst l27 y27 z27
  obtain ⟨⟨r3, t3, rfl, zr3, Er3, Fl3, Ot3⟩, N1, K1⟩ := hQ27
  have c27 : Sx p e b0 S0 T27 (mkF m 76 (a153 i tn ky sy ey al) [(.ref r3), (.ref b25), (.ref b25)]) := c25.trans (XS.dup X25.here hx rfl (D 31 rfl) rfl rfl (qA X25 hx rfl (D 32 rfl) rfl rfl (qa X25 hx rfl (D 33 rfl) rfl rfl (qa X25 hx rfl (D 34 rfl) rfl rfl (st27 _ (Steps.refl _))))))
  have Sky_ := Sky.keep K1 nin0 all0
  have Ssy_ := Ssy.keep K1 nin0 all0
  have Sey_ := Sey.keep K1 nin0 all0
  have Sa1_ := Sa1.keep K1 nin0 all0
  have P_ := P.keep K1 nin0
  have Sky := Sky_
  have Ssy := Ssy_
  have Sey := Sey_
  have Sa1 := Sa1_
  have P := P_
  have Ea := Ea.keep K1
  have Fm := Fm.keep K1 nin0
  have Fs := Fs.keep K1 nin0
  have Fe := Fe.keep K1 nin0
  have Nf := Fr.app Nf N1
  have hk := nT hk K1.1
  have Zh := nT Zh K1.1
  have hO := hO.keep K1 all0
  have hKp := hKp.trans K1 all0
  obtain ⟨_, _, ⟨T28, L28, k28, n28⟩, -, X28, ⟨Lc28, hQ28, l28, y28, z28⟩, st28⟩ := X27.specialBack hx (y := yM41) rfl hown (mvT hZ (Hw 157 rfl)) (mvT hZ (Hw 158 rfl)) (mvT hZ (Hw 159 rfl)) (by decide) (backOf (W := 1) (rmK3 l Z a0 hw [] b25 r3 t3 ky sy ey gg T27.heap n0 Zh EV hO Ea Fm Fs Fe nb25 Er3 Fl3 Ot3 (own_El.cons (Ins.of_exa Sky.exa (Hw 122 rfl)) (own_El.cons (Ins.of_exa Ssy.exa (Hw 122 rfl)) (own_El.cons (Ins.of_exa Sey.exa (Hw 122 rfl)) own_El.nil)))) hZ (Hw 159 rfl) (Hw 116 rfl) (by decide) (by decide)) (g := (mkF m 76 (a153 i tn ky sy ey al) [(.ref r3), (.ref b25), (.ref b25)])) rfl hml.symm (Steps.refl _) (a := b25) (argsL := [(.ref r3)]) (rest := [(.ref b25)]) (lenOf pd38 rfl) rfl (nE rfl) (D 36 rfl) (fun _ _ => ⟨rfl, rfl, (by decide : 9 + 2 ≤ _), (by decide : 64 + 20 ≤ _)⟩)
  dsimp only [Pt.U, Pt.locs, Pt.cells, Pt.slots] at X28 l28 y28 z28 st28 hQ28
  subst l28 y28 z28
  obtain ⟨rfl, N1, K1, ed, zed, A⟩ := hQ28
  have c28 : Sx p e b0 S0 T28 (mkF m 79 (a153 i tn ky sy ey al) [(.ref b25)]) := c27.trans st28
  have Sky_ := Sky.keep K1 (ninS (Sky.exa.ne Ea kST_AL) nin0) (allS (nX Ea kAL_BA) all0)
  have Ssy_ := Ssy.keep K1 (ninS (Ssy.exa.ne Ea kST_AL) nin0) (allS (nX Ea kAL_BA) all0)
  have Sey_ := Sey.keep K1 (ninS (Sey.exa.ne Ea kST_AL) nin0) (allS (nX Ea kAL_BA) all0)
  have Sa1_ := Sa1.keep K1 (ninS (Sa1.exa.ne Ea kST_AL) nin0) (allS (nX Ea kAL_BA) all0)
  have P_ := P.keep K1 (ninS (P.1.ne Ea kIN_AL) nin0)
  have Sky := Sky_
  have Ssy := Ssy_
  have Sey := Sey_
  have Sa1 := Sa1_
  have P := P_
  have Nf := Fr.app Nf N1
  have hk := nT hk K1.1
  have Zh := nT Zh K1.1
  have hO := hO.keep K1 (allS nb25 all0)
  have hKp := hKp.trans K1 (allS (Or.inr zb25) all0)
  obtain ⟨T30, X30, e30, st30⟩ := getF X28 hx hZ hown (host := "") (Or.inl (Hw 112 rfl)) Via.refl rfl P.2.2.2.2.2.2 (g := (mkF m 84 (a154 i tn ky sy ey al b25) [(.ref i), (.ref b25)])) rfl rfl (D 40 rfl)
  have c30 : Sx p e b0 S0 T30 (mkF m 87 (a154 i tn ky sy ey al b25) [(.ref al), (.ref b25)]) := c28.trans (XS.astore X28.here hx rfl (D 37 rfl) rfl rfl (l' := (a154 i tn ky sy ey al b25)) rfl (qa X28 hx rfl (D 38 rfl) rfl rfl (qA X28 hx rfl (D 39 rfl) rfl rfl (st30 _ (Steps.refl _)))))
  obtain ⟨cq31, kq31, q31a, q31b, q31c⟩ := isOf hZ e30 A.1
  obtain ⟨_, _, ⟨T31, L31, k31, n31⟩, -, X31, ⟨Lc31, hQ31, l31, y31, z31⟩, st31⟩ := X30.virtualBack hx (y := yM43) (z := yM43) hown (mvT hZ (Hw 215 rfl)) (mvT hZ (Hw 216 rfl)) (notFace_of_selects (args := #[]) (mvT hZ (Hw 218 rfl))) (mvT hZ (Hw 218 rfl)) (mvT hZ (Hw 217 rfl)) (by decide) (backOf (W := 0) (rmAa l Z a0 hw [] b25 ed [ky, sy, ey] 3 0 al [a1] gg T28.heap n0 Zh EV hO A rfl (by decide) (by decide) (Lr.keep hKp hal1 hal2) (Nat.le_of_ble_eq_true rfl) (own_El.cons (Ins.of_exa Sky.exa (Hw 122 rfl)) (own_El.cons (Ins.of_exa Ssy.exa (Hw 122 rfl)) (own_El.cons (Ins.of_exa Sey.exa (Hw 122 rfl)) own_El.nil))) (own_El.cons (Ins.of_exa Sa1.exa (Hw 122 rfl)) own_El.nil) nb25) hZ (Hw 219 rfl) (Hw 116 rfl) (by decide) (by decide)) q31a q31c (g := (mkF m 87 (a154 i tn ky sy ey al b25) [(.ref al), (.ref b25)])) rfl hml.symm (Steps.refl _) (argsL := [(.ref al)]) (rest := []) (lenOf pd39 rfl) rfl (nE rfl) (D 41 rfl) (fun _ _ => ⟨rfl, e30, (by decide : 11 + 2 ≤ _), (by decide : 84 + 20 ≤ _)⟩)
  dsimp only [Pt.U, Pt.locs, Pt.cells, Pt.slots] at X31 l31 y31 z31 st31 hQ31
  subst l31 y31 z31
  obtain ⟨⟨zv, rfl⟩, ⟨e2, NN, mc, A2, ze2⟩, N1, K1⟩ := hQ31
  have c31 : Sx p e b0 S0 T31 (mkF m 90 (a154 i tn ky sy ey al b25) [(.int zv)]) := c30.trans st31
  have Sky_ := Sky.keep K1 (ninS (Sky.exa.ne A.1 kST_AL) nin0) (allS (nX A.1 kAL_BA) all0)
  have Ssy_ := Ssy.keep K1 (ninS (Ssy.exa.ne A.1 kST_AL) nin0) (allS (nX A.1 kAL_BA) all0)
  have Sey_ := Sey.keep K1 (ninS (Sey.exa.ne A.1 kST_AL) nin0) (allS (nX A.1 kAL_BA) all0)
  have Sa1_ := Sa1.keep K1 (ninS (Sa1.exa.ne A.1 kST_AL) nin0) (allS (nX A.1 kAL_BA) all0)
  have P_ := P.keep K1 (ninS (P.1.ne A.1 kIN_AL) nin0)
  have Sky := Sky_
  have Ssy := Ssy_
  have Sey := Sey_
  have Sa1 := Sa1_
  have P := P_
  have Nf := Fr.app Nf N1
  have hk := nT hk K1.1
  have Zh := nT Zh K1.1
  have hO := hO.keep K1 (allS nb25 all0)
  have hKp := hKp.trans K1 (allS (Or.inr zb25) all0)
  have A := A2
  obtain ⟨T33, h33, X33, e33, E33, A33, D33, -, st33⟩ := newO X31 hx hZ hown (Hw 222 rfl) (Hw 223 rfl) (Hw 224 rfl) rfl (g := (mkF m 91 (a154 i tn ky sy ey al b25) [])) rfl (D 43 rfl) (by decide) (by decide)
  obtain ⟨b33, g33⟩ : ∃ z, z = T31.heap.size := ⟨_, rfl⟩
  rw [← g33] at A33 D33 st33
  have c33 : Sx p e b0 S0 T33 (mkF m 94 (a154 i tn ky sy ey al b25) [(.ref b33)]) := c31.trans (XS.pop X31.here hx rfl (D 42 rfl) rfl rfl (st33 _ (Steps.refl _)))
  have zb33 : h0.size ≤ b33 := nT hKp.1 (nE g33.symm)
  have nb33 : n0 ≤ b33 := nT Z0 zb33
  have Sky := Sky.ext E33
  have Ssy := Ssy.ext E33
  have Sey := Sey.ext E33
  have Sa1 := Sa1.ext E33
  have P := P.ext E33
  have A := A.ext E33
  have hk := nT hk E33.1
  have Zh := nT Zh E33.1
  have hO := hO.ext E33
  have hKp := hKp.ext E33
  have Es := A33
  have Fp : Fld Z h33 b33 "java/util/HashSet" "map" "Ljava/util/HashMap;" .null := D33 (Or.inl (Hw 254 rfl)) (ty := (.object "java/util/HashMap")) (by decide)
  obtain ⟨_, _, ⟨T35, L35, k35, n35⟩, -, X35, ⟨Lc35, hQ35, l35, y35, z35⟩, st35⟩ := X33.specialBack hx (y := yM70) rfl hown (mvT hZ (Hw 225 rfl)) (mvT hZ (Hw 226 rfl)) (mvT hZ (Hw 227 rfl)) (by decide) (backOf (W := 1) (rmSi0 l Z a0 hw [] b33 h33 n0 Zh Es Fp nb33) hZ (Hw 227 rfl) (Hw 224 rfl) (by decide) (by decide)) (g := (mkF m 95 (a154 i tn ky sy ey al b25) [(.ref b33), (.ref b33)])) rfl hml.symm (Steps.refl _) (a := b33) (argsL := []) (rest := [(.ref b33)]) (lenOf pd0 rfl) rfl (nE rfl) (D 45 rfl) (fun _ _ => ⟨rfl, e33, (by decide : 14 + 1 ≤ _), (by decide : 105 + 8 ≤ _)⟩)
  dsimp only [Pt.U, Pt.locs, Pt.cells, Pt.slots] at X35 l35 y35 z35 st35 hQ35
  subst l35 y35 z35
  obtain ⟨rfl, N1, K1, q, zq, Fz, H0⟩ := hQ35
  have c35 : Sx p e b0 S0 T35 (mkF m 98 (a154 i tn ky sy ey al b25) [(.ref b33)]) := c33.trans (XS.dup X33.here hx rfl (D 44 rfl) rfl rfl (st35))
  have zq0 : h0.size ≤ q := nT hKp.1 zq
  have gq : n0 ≤ q := nT Z0 zq0
  have Sky_ := Sky.keep K1 (ninS (Sky.exa.ne Es kST_HS) nin0) (allS (nX Es kHS_BA) all0)
  have Ssy_ := Ssy.keep K1 (ninS (Ssy.exa.ne Es kST_HS) nin0) (allS (nX Es kHS_BA) all0)
  have Sey_ := Sey.keep K1 (ninS (Sey.exa.ne Es kST_HS) nin0) (allS (nX Es kHS_BA) all0)
  have Sa1_ := Sa1.keep K1 (ninS (Sa1.exa.ne Es kST_HS) nin0) (allS (nX Es kHS_BA) all0)
  have P_ := P.keep K1 (ninS (P.1.ne Es kIN_HS) nin0)
  have A_ := A.keep K1 (ninS (A.1.ne Es kAL_HS) nin0) (ninS (A.2.2.2.2.2.1.ne Es kOA_HS) nin0)
  have Es_ := Es.keep K1
  have Sky := Sky_
  have Ssy := Ssy_
  have Sey := Sey_
  have Sa1 := Sa1_
  have P := P_
  have A := A_
  have Es := Es_
  have Nf := Fr.app Nf N1
  have hk := nT hk K1.1
  have Zh := nT Zh K1.1
  have hO := hO.keep K1 (allS nb33 all0)
  have hKp := hKp.trans K1 (allS (Or.inr zb33) all0)
  have M : own_HMp Z _ q q [] := Or.inl ⟨rfl, rfl, H0⟩
  obtain ⟨cq37, kq37, q37a, q37b, q37c⟩ := isOf hZ rfl A.1
  obtain ⟨_, _, ⟨T37, L37, k37, n37⟩, -, X37, ⟨Lc37, hQ37, l37, y37, z37⟩, st37⟩ := X35.virtualBack hx (y := yM45) (z := yM45) hown (mvT hZ (Hw 255 rfl)) (mvT hZ (Hw 256 rfl)) (notFace_of_selects (args := #[]) (mvT hZ (Hw 258 rfl))) (mvT hZ (Hw 258 rfl)) (mvT hZ (Hw 257 rfl)) (by decide) (backOf (W := 0) (rmI1 l Z a0 hw [] b25 e2 ([ky, sy, ey] ++ [a1]) NN mc T35.heap n0 Zh A) hZ (Hw 259 rfl) (Hw 116 rfl) (by decide) (by decide)) q37a q37c (g := (mkF m 102 (a155 i tn ky sy ey al b25 b33) [(.ref b25)])) rfl hml.symm (Steps.refl _) (argsL := []) (rest := []) (lenOf pd40 rfl) rfl (nE rfl) (D 48 rfl) (fun _ _ => ⟨rfl, rfl, (by decide : 15 + 1 ≤ _), (by decide : 113 + 4 ≤ _)⟩)
  dsimp only [Pt.U, Pt.locs, Pt.cells, Pt.slots] at X37 l37 y37 z37 st37 hQ37
  subst l37 y37 z37
  obtain ⟨⟨it, rfl, zit, I⟩, N1, K1⟩ := hQ37
  have c37 : Sx p e b0 S0 T37 (mkF m 105 (a155 i tn ky sy ey al b25 b33) [(.ref it)]) := c35.trans (XS.astore X35.here hx rfl (D 46 rfl) rfl rfl (l' := (a155 i tn ky sy ey al b25 b33)) rfl (qa X35 hx rfl (D 47 rfl) rfl rfl (st37)))
  have zit0 : h0.size ≤ it := nT hKp.1 zit
  have git : n0 ≤ it := nT Z0 zit0
  have Sky_ := Sky.keep K1 nin0 all0
  have Ssy_ := Ssy.keep K1 nin0 all0
  have Sey_ := Sey.keep K1 nin0 all0
  have Sa1_ := Sa1.keep K1 nin0 all0
  have P_ := P.keep K1 nin0
  have A_ := A.keep K1 nin0 nin0
  have Es_ := Es.keep K1
  have Fz_ := Fz.keep K1 nin0
  have M_ := M.keep K1 nin0 nin0
  have Sky := Sky_
  have Ssy := Ssy_
  have Sey := Sey_
  have Sa1 := Sa1_
  have P := P_
  have A := A_
  have Es := Es_
  have Fz := Fz_
  have M := M_
  have Nf := Fr.app Nf N1
  have hk := nT hk K1.1
  have Zh := nT Zh K1.1
  have hO := hO.keep K1 all0
  have hKp := hKp.trans K1 all0
  obtain ⟨T39, L39, X39, Nf, K1, I2, Sn, ⟨tky, gtky, M2, ztky⟩, st39⟩ := rmTu l Z a0 hw p e _ m _ b0 meth c T37 _ 16 117 i tn ky sy ey al b25 b33 it q q e2 ky ([ky, sy, ey] ++ [a1]) NN mc 0 107 ch ([] : List Nat) gg T37.heap n0 X37 hx hby hml hZ hown rfl Zh (by decide) (by decide) Nf EV hO A I rfl git Es Fz Sky gky (by decide) (by decide) hc M gq gq (Nat.le_of_ble_eq_true rfl) (fun q => nomatch q)
  have ytky : h0.size ≤ tky := ztky.elim (fun q => q.symm ▸ zq0) (fun q => nT hKp.1 q)
  have Ssy_ := Ssy.keep K1 (ninS (Ssy.exa.ne I.1 kST_IT) (ninS (Ssy.ne Sky (by decide) (by decide) (by decide)) (ninS (Ssy.exa.ne M.exa kST_HM) (ninS (Ssy.exa.ne M.exa kST_HM) nin0)))) (allS (nX I.1 kIT_BA) (allS (nX Sky.exa kST_BA) (allS (nX M.exa kHM_BA) (allS (nX M.exa kHM_BA) all0))))
  have Sey_ := Sey.keep K1 (ninS (Sey.exa.ne I.1 kST_IT) (ninS (Sey.ne Sky (by decide) (by decide) (by decide)) (ninS (Sey.exa.ne M.exa kST_HM) (ninS (Sey.exa.ne M.exa kST_HM) nin0)))) (allS (nX I.1 kIT_BA) (allS (nX Sky.exa kST_BA) (allS (nX M.exa kHM_BA) (allS (nX M.exa kHM_BA) all0))))
  have Sa1_ := Sa1.keep K1 (ninS (Sa1.exa.ne I.1 kST_IT) (ninS (Sa1.ne Sky (by decide) (by decide) (by decide)) (ninS (Sa1.exa.ne M.exa kST_HM) (ninS (Sa1.exa.ne M.exa kST_HM) nin0)))) (allS (nX I.1 kIT_BA) (allS (nX Sky.exa kST_BA) (allS (nX M.exa kHM_BA) (allS (nX M.exa kHM_BA) all0))))
  have P_ := P.keep K1 (ninS (P.1.ne I.1 kIN_IT) (ninS (P.1.ne Sky.exa kIN_ST) (ninS (P.1.ne M.exa kIN_HM) (ninS (P.1.ne M.exa kIN_HM) nin0))))
  have A_ := A.keep K1 (ninS (A.1.ne I.1 kAL_IT) (ninS (A.1.ne Sky.exa kAL_ST) (ninS (A.1.ne M.exa kAL_HM) (ninS (A.1.ne M.exa kAL_HM) nin0)))) (ninS (A.2.2.2.2.2.1.ne I.1 kOA_IT) (ninS (A.2.2.2.2.2.1.ne Sky.exa kOA_ST) (ninS (A.2.2.2.2.2.1.ne M.exa kOA_HM) (ninS (A.2.2.2.2.2.1.ne M.exa kOA_HM) nin0))))
  have Es_ := Es.keep K1
  have Fz_ := Fz.keep K1 (ninS (Es.ne I.1 kHS_IT) (ninS (Es.ne Sky.exa kHS_ST) (ninS (Es.ne M.exa kHS_HM) (ninS (Es.ne M.exa kHS_HM) nin0))))
  have Ssy := Ssy_
  have Sey := Sey_
  have Sa1 := Sa1_
  have P := P_
  have A := A_
  have Es := Es_
  have Fz := Fz_
  have hk := nT hk K1.1
  have Zh := nT Zh K1.1
  have hO := hO.keep K1 (allS git (allS gky (allS gq (allS gq all0))))
  have hKp := hKp.trans K1 (allS (Or.inr zit0) (allS (mI 1 rfl) (allS (Or.inr zq0) (allS (Or.inr zq0) all0))))
  have Sky := Sn
  have M := M2
  have I := I2
  have c39 : Sx p e b0 S0 T39 (mkF m 107 (a152 i tn ky sy ey al b25 b33 it ky) []) := c37.trans (XS.astore X37.here hx rfl (D 49 rfl) rfl rfl (l' := (a151 i tn ky sy ey al b25 b33 it)) rfl (st39))
  obtain ⟨T40, L40, X40, Nf, K1, I2, Sn, ⟨tsy, gtsy, M2, ztsy⟩, st40⟩ := rmTr l Z a0 hw p e _ m _ b0 meth c T39 _ 18 137 i tn ky sy ey al b25 b33 it q tky e2 sy ky ([ky, sy, ey] ++ [a1]) NN mc 1 115 ch [((31 * 107 + ch) % 16)] gg T39.heap n0 X39 hx hby hml hZ hown rfl Zh (by decide) (by decide) Nf EV hO A I rfl git Es Fz Ssy gsy (by decide) (by decide) hc M gq gtky (Nat.le_of_ble_eq_true rfl) (own_ob1 ch)
  have ytsy : h0.size ≤ tsy := ztsy.elim (fun q => q.symm ▸ ytky) (fun q => nT hKp.1 q)
  have Sky_ := Sky.keep K1 (ninS (Sky.exa.ne I.1 kST_IT) (ninS (Sky.ne Ssy (by decide) (by decide) (by decide)) (ninS (Sky.exa.ne M.exa kST_HM) (ninS (Ne.symm (M.ne Sky.exa kHM_ST kNA_ST)) nin0)))) (allS (nX I.1 kIT_BA) (allS (nX Ssy.exa kST_BA) (allS (nX M.exa kHM_BA) (allS (M.notb kHM_BA kNA_BA) all0))))
  have Sey_ := Sey.keep K1 (ninS (Sey.exa.ne I.1 kST_IT) (ninS (Sey.ne Ssy (by decide) (by decide) (by decide)) (ninS (Sey.exa.ne M.exa kST_HM) (ninS (Ne.symm (M.ne Sey.exa kHM_ST kNA_ST)) nin0)))) (allS (nX I.1 kIT_BA) (allS (nX Ssy.exa kST_BA) (allS (nX M.exa kHM_BA) (allS (M.notb kHM_BA kNA_BA) all0))))
  have Sa1_ := Sa1.keep K1 (ninS (Sa1.exa.ne I.1 kST_IT) (ninS (Sa1.ne Ssy (by decide) (by decide) (by decide)) (ninS (Sa1.exa.ne M.exa kST_HM) (ninS (Ne.symm (M.ne Sa1.exa kHM_ST kNA_ST)) nin0)))) (allS (nX I.1 kIT_BA) (allS (nX Ssy.exa kST_BA) (allS (nX M.exa kHM_BA) (allS (M.notb kHM_BA kNA_BA) all0))))
  have P_ := P.keep K1 (ninS (P.1.ne I.1 kIN_IT) (ninS (P.1.ne Ssy.exa kIN_ST) (ninS (P.1.ne M.exa kIN_HM) (ninS (Ne.symm (M.ne P.1 kHM_IN kNA_IN)) nin0))))
  have A_ := A.keep K1 (ninS (A.1.ne I.1 kAL_IT) (ninS (A.1.ne Ssy.exa kAL_ST) (ninS (A.1.ne M.exa kAL_HM) (ninS (Ne.symm (M.ne A.1 kHM_AL kNA_AL)) nin0)))) (ninS (A.2.2.2.2.2.1.ne I.1 kOA_IT) (ninS (A.2.2.2.2.2.1.ne Ssy.exa kOA_ST) (ninS (A.2.2.2.2.2.1.ne M.exa kOA_HM) (ninS (Ne.symm (M.ne A.2.2.2.2.2.1 kHM_OA kNA_OA)) nin0))))
  have Es_ := Es.keep K1
  have Fz_ := Fz.keep K1 (ninS (Es.ne I.1 kHS_IT) (ninS (Es.ne Ssy.exa kHS_ST) (ninS (Es.ne M.exa kHS_HM) (ninS (Ne.symm (M.ne Es kHM_HS kNA_HS)) nin0))))
  have Sky := Sky_
  have Sey := Sey_
  have Sa1 := Sa1_
  have P := P_
  have A := A_
  have Es := Es_
  have Fz := Fz_
  have hk := nT hk K1.1
  have Zh := nT Zh K1.1
  have hO := hO.keep K1 (allS git (allS gsy (allS gq (allS gtky all0))))
  have hKp := hKp.trans K1 (allS (Or.inr zit0) (allS (mI 2 rfl) (allS (Or.inr zq0) (allS (Or.inr ytky) all0))))
  have Ssy := Sn
  have M := M2
  have I := I2
  have c40 : Sx p e b0 S0 T40 (mkF m 107 (a152 i tn ky sy ey al b25 b33 it sy) []) := c39.trans st40
  obtain ⟨T41, L41, X41, Nf, K1, I2, Sn, ⟨tey, gtey, M2, ztey⟩, st41⟩ := rmTr l Z a0 hw p e _ m _ b0 meth c T40 _ 20 157 i tn ky sy ey al b25 b33 it q tsy e2 ey sy ([ky, sy, ey] ++ [a1]) NN mc 2 101 ch [((31 * 115 + ch) % 16), ((31 * 107 + ch) % 16)] gg T40.heap n0 X40 hx hby hml hZ hown rfl Zh (by decide) (by decide) Nf EV hO A I rfl git Es Fz Sey gey (by decide) (by decide) hc M gq gtsy (Nat.le_of_ble_eq_true rfl) (own_ob2 ch)
  have ytey : h0.size ≤ tey := ztey.elim (fun q => q.symm ▸ ytsy) (fun q => nT hKp.1 q)
  have Sky_ := Sky.keep K1 (ninS (Sky.exa.ne I.1 kST_IT) (ninS (Sky.ne Sey (by decide) (by decide) (by decide)) (ninS (Sky.exa.ne M.exa kST_HM) (ninS (Ne.symm (M.ne Sky.exa kHM_ST kNA_ST)) nin0)))) (allS (nX I.1 kIT_BA) (allS (nX Sey.exa kST_BA) (allS (nX M.exa kHM_BA) (allS (M.notb kHM_BA kNA_BA) all0))))
  have Ssy_ := Ssy.keep K1 (ninS (Ssy.exa.ne I.1 kST_IT) (ninS (Ssy.ne Sey (by decide) (by decide) (by decide)) (ninS (Ssy.exa.ne M.exa kST_HM) (ninS (Ne.symm (M.ne Ssy.exa kHM_ST kNA_ST)) nin0)))) (allS (nX I.1 kIT_BA) (allS (nX Sey.exa kST_BA) (allS (nX M.exa kHM_BA) (allS (M.notb kHM_BA kNA_BA) all0))))
  have Sa1_ := Sa1.keep K1 (ninS (Sa1.exa.ne I.1 kST_IT) (ninS (Sa1.ne Sey (by decide) (by decide) (by decide)) (ninS (Sa1.exa.ne M.exa kST_HM) (ninS (Ne.symm (M.ne Sa1.exa kHM_ST kNA_ST)) nin0)))) (allS (nX I.1 kIT_BA) (allS (nX Sey.exa kST_BA) (allS (nX M.exa kHM_BA) (allS (M.notb kHM_BA kNA_BA) all0))))
  have P_ := P.keep K1 (ninS (P.1.ne I.1 kIN_IT) (ninS (P.1.ne Sey.exa kIN_ST) (ninS (P.1.ne M.exa kIN_HM) (ninS (Ne.symm (M.ne P.1 kHM_IN kNA_IN)) nin0))))
  have A_ := A.keep K1 (ninS (A.1.ne I.1 kAL_IT) (ninS (A.1.ne Sey.exa kAL_ST) (ninS (A.1.ne M.exa kAL_HM) (ninS (Ne.symm (M.ne A.1 kHM_AL kNA_AL)) nin0)))) (ninS (A.2.2.2.2.2.1.ne I.1 kOA_IT) (ninS (A.2.2.2.2.2.1.ne Sey.exa kOA_ST) (ninS (A.2.2.2.2.2.1.ne M.exa kOA_HM) (ninS (Ne.symm (M.ne A.2.2.2.2.2.1 kHM_OA kNA_OA)) nin0))))
  have Es_ := Es.keep K1
  have Fz_ := Fz.keep K1 (ninS (Es.ne I.1 kHS_IT) (ninS (Es.ne Sey.exa kHS_ST) (ninS (Es.ne M.exa kHS_HM) (ninS (Ne.symm (M.ne Es kHM_HS kNA_HS)) nin0))))
  have Sky := Sky_
  have Ssy := Ssy_
  have Sa1 := Sa1_
  have P := P_
  have A := A_
  have Es := Es_
  have Fz := Fz_
  have hk := nT hk K1.1
  have Zh := nT Zh K1.1
  have hO := hO.keep K1 (allS git (allS gey (allS gq (allS gtsy all0))))
  have hKp := hKp.trans K1 (allS (Or.inr zit0) (allS (mI 3 rfl) (allS (Or.inr zq0) (allS (Or.inr ytsy) all0))))
  have Sey := Sn
  have M := M2
  have I := I2
  have c41 : Sx p e b0 S0 T41 (mkF m 107 (a152 i tn ky sy ey al b25 b33 it ey) []) := c40.trans st41
  obtain ⟨T42, L42, X42, Nf, K1, I2, Sn, ⟨ta1, gta1, M2, zta1⟩, st42⟩ := rmTr l Z a0 hw p e _ m _ b0 meth c T41 _ 22 177 i tn ky sy ey al b25 b33 it q tey e2 a1 ey ([ky, sy, ey] ++ [a1]) NN mc 3 97 ch [((31 * 101 + ch) % 16), ((31 * 115 + ch) % 16), ((31 * 107 + ch) % 16)] gg T41.heap n0 X41 hx hby hml hZ hown rfl Zh (by decide) (by decide) Nf EV hO A I rfl git Es Fz Sa1 ga1 (by decide) (by decide) hc M gq gtey (Nat.le_of_ble_eq_true rfl) (own_ob3 ch)
  have yta1 : h0.size ≤ ta1 := zta1.elim (fun q => q.symm ▸ ytey) (fun q => nT hKp.1 q)
  have Sky_ := Sky.keep K1 (ninS (Sky.exa.ne I.1 kST_IT) (ninS (Sky.ne Sa1 (by decide) (by decide) (by decide)) (ninS (Sky.exa.ne M.exa kST_HM) (ninS (Ne.symm (M.ne Sky.exa kHM_ST kNA_ST)) nin0)))) (allS (nX I.1 kIT_BA) (allS (nX Sa1.exa kST_BA) (allS (nX M.exa kHM_BA) (allS (M.notb kHM_BA kNA_BA) all0))))
  have Ssy_ := Ssy.keep K1 (ninS (Ssy.exa.ne I.1 kST_IT) (ninS (Ssy.ne Sa1 (by decide) (by decide) (by decide)) (ninS (Ssy.exa.ne M.exa kST_HM) (ninS (Ne.symm (M.ne Ssy.exa kHM_ST kNA_ST)) nin0)))) (allS (nX I.1 kIT_BA) (allS (nX Sa1.exa kST_BA) (allS (nX M.exa kHM_BA) (allS (M.notb kHM_BA kNA_BA) all0))))
  have Sey_ := Sey.keep K1 (ninS (Sey.exa.ne I.1 kST_IT) (ninS (Sey.ne Sa1 (by decide) (by decide) (by decide)) (ninS (Sey.exa.ne M.exa kST_HM) (ninS (Ne.symm (M.ne Sey.exa kHM_ST kNA_ST)) nin0)))) (allS (nX I.1 kIT_BA) (allS (nX Sa1.exa kST_BA) (allS (nX M.exa kHM_BA) (allS (M.notb kHM_BA kNA_BA) all0))))
  have P_ := P.keep K1 (ninS (P.1.ne I.1 kIN_IT) (ninS (P.1.ne Sa1.exa kIN_ST) (ninS (P.1.ne M.exa kIN_HM) (ninS (Ne.symm (M.ne P.1 kHM_IN kNA_IN)) nin0))))
  have A_ := A.keep K1 (ninS (A.1.ne I.1 kAL_IT) (ninS (A.1.ne Sa1.exa kAL_ST) (ninS (A.1.ne M.exa kAL_HM) (ninS (Ne.symm (M.ne A.1 kHM_AL kNA_AL)) nin0)))) (ninS (A.2.2.2.2.2.1.ne I.1 kOA_IT) (ninS (A.2.2.2.2.2.1.ne Sa1.exa kOA_ST) (ninS (A.2.2.2.2.2.1.ne M.exa kOA_HM) (ninS (Ne.symm (M.ne A.2.2.2.2.2.1 kHM_OA kNA_OA)) nin0))))
  have Es_ := Es.keep K1
  have Fz_ := Fz.keep K1 (ninS (Es.ne I.1 kHS_IT) (ninS (Es.ne Sa1.exa kHS_ST) (ninS (Es.ne M.exa kHS_HM) (ninS (Ne.symm (M.ne Es kHM_HS kNA_HS)) nin0))))
  have Sky := Sky_
  have Ssy := Ssy_
  have Sey := Sey_
  have P := P_
  have A := A_
  have Es := Es_
  have Fz := Fz_
  have hk := nT hk K1.1
  have Zh := nT Zh K1.1
  have hO := hO.keep K1 (allS git (allS ga1 (allS gq (allS gtey all0))))
  have hKp := hKp.trans K1 (allS (Or.inr zit0) (allS (mI 4 rfl) (allS (Or.inr zq0) (allS (Or.inr ytey) all0))))
  have Sa1 := Sn
  have M := M2
  have I := I2
  have c42 : Sx p e b0 S0 T42 (mkF m 107 (a152 i tn ky sy ey al b25 b33 it a1) []) := c41.trans st42
  obtain ⟨cq44, kq44, q44a, q44b, q44c⟩ := isOf hZ rfl I.1
  obtain ⟨_, _, ⟨T44, L44, k44, n44⟩, -, X44, ⟨Lc44, hQ44, l44, y44, z44⟩, st44⟩ := X42.interfaceBack hx (xi := yM73) (y := yM46) (C := "java/util/ArrayList$Itr") hown (mvT hZ (Hw 275 rfl)) (mvT hZ (Hw 276 rfl)) (mvT hZ (Hw 277 rfl)) (mvT hZ (Hw 278 rfl)) (mvT hZ (Hw 279 rfl)) (mvT hZ (Hw 280 rfl)) (mvT hZ (Hw 281 rfl)) (mvT hZ (Hw 282 rfl)) (by decide) (backOf (W := 0) (rmH0 l Z a0 hw [] it b25 e2 ([ky, sy, ey] ++ [a1]) NN mc 4 T42.heap n0 Zh I A rfl) hZ (Hw 283 rfl) (Hw 262 rfl) (by decide) (by decide)) q44a q44b q44c (g := (mkF m 109 (a152 i tn ky sy ey al b25 b33 it a1) [(.ref it)])) rfl hml.symm (Steps.refl _) (argsL := []) (rest := []) (lenOf pd23 rfl) rfl (nE rfl) (D 51 rfl) (fun _ _ => ⟨rfl, rfl, (by decide : 24 + 0 ≤ _), (by decide : 197 + 0 ≤ _)⟩)
  dsimp only [Pt.U, Pt.locs, Pt.cells, Pt.slots] at X44 l44 y44 z44 st44 hQ44
  subst l44 y44 z44
  obtain ⟨rfl, N1, e1⟩ := hQ44
  have c44 : Sx p e b0 S0 T44 (mkF m 114 (a152 i tn ky sy ey al b25 b33 it a1) [(.int J0)]) := c42.trans (qa X42 hx rfl (D 50 rfl) rfl rfl (st44))
  have Nf := Fr.app Nf N1
  have Lf := Lr.keep hKp hal1 hal2
  obtain ⟨fs, hr, r1, r2, hW⟩ := X44.leaveW hS (by rw [e1]; exact hk) (v := none) (fun _ => rfl)
  refine ⟨_, _, c44.trans ?_, r1, r2, _, _, rfl, ?_, hW.1, hW.2.1, hW.2.2.1, hW.2.2.2.mono (by decide) (by decide)⟩
  · refine XS.ifYes X44.here hx rfl (pc0 := 114) (pc' := 157) rfl (D 52 rfl) rfl ((if0 _ _).trans (teq rfl).1) (by decide) (by decide) ?_
    exact X44.returnOut hx hret (D 62 rfl) hr
  · show QIi1 Z i tn al ky sy ey a1 ch gg h0 n0 _ T44.heap _
    rw [e1]
    exact ⟨rfl, Nf, hKp, P.1, P.2.1, P.2.2.1, P.2.2.2.1, P.2.2.2.2.1, P.2.2.2.2.2.1, P.2.2.2.2.2.2, Lf, Sky, Ssy, Sey, Sa1⟩
def QIi2 (Z : State) (i tn al ky sy ey a1 a2 : Addr) (ch : Nat) (gg : own_G) (h0 : Heap) (n0 : Nat) (v : Option Value) (h : Heap) (L : List Loc) : Prop := v = none ∧ Fr n0 L ∧ Keep h0 h [i, ky, sy, ey, a1, a2] ∧ Exa Z h i "com/example/spanfold/spanfold/Input" ∧ Fld Z h i "com/example/spanfold/spanfold/Input" "table" "Ljava/lang/String;" (.ref tn) ∧ Fld Z h i "com/example/spanfold/spanfold/Input" "query" "Ljava/lang/String;" .null ∧ Fld Z h i "com/example/spanfold/spanfold/Input" "key" "Ljava/lang/String;" (.ref ky) ∧ Fld Z h i "com/example/spanfold/spanfold/Input" "start" "Ljava/lang/String;" (.ref sy) ∧ Fld Z h i "com/example/spanfold/spanfold/Input" "end" "Ljava/lang/String;" (.ref ey) ∧ Fld Z h i "com/example/spanfold/spanfold/Input" "attributes" "Ljava/util/List;" (.ref al) ∧ own_Lst Z gg h al [a1, a2] ∧ own_S2 Z h ky 107 ch ∧ own_S2 Z h sy 115 ch ∧ own_S2 Z h ey 101 ch ∧ own_S2 Z h a1 97 ch ∧ own_S2 Z h a2 98 ch
theorem rmIi2 (l : Launch) (Z : State) (a0 : Array Value) (hw : HW a0 Z) (ws : List Jvm.Cond) (i tn al ky sy ey a1 a2 : Addr) (ch : Nat) (gg : own_G) (h0 : Heap) (n0 : Nat) (Z0 : n0 ≤ h0.size) (EV : own_Env Z gg) (X00 : Old Z n0 h0) (Ei : Exa Z h0 i "com/example/spanfold/spanfold/Input") (Gt : Fld Z h0 i "com/example/spanfold/spanfold/Input" "table" "Ljava/lang/String;" .null) (Gq : Fld Z h0 i "com/example/spanfold/spanfold/Input" "query" "Ljava/lang/String;" .null) (Gk : Fld Z h0 i "com/example/spanfold/spanfold/Input" "key" "Ljava/lang/String;" .null) (Gs : Fld Z h0 i "com/example/spanfold/spanfold/Input" "start" "Ljava/lang/String;" .null) (Ge : Fld Z h0 i "com/example/spanfold/spanfold/Input" "end" "Ljava/lang/String;" .null) (Ga : Fld Z h0 i "com/example/spanfold/spanfold/Input" "attributes" "Ljava/util/List;" .null) (gi : n0 ≤ i) (Sky : own_S2 Z h0 ky 107 ch) (Ssy : own_S2 Z h0 sy 115 ch) (Sey : own_S2 Z h0 ey 101 ch) (Sa1 : own_S2 Z h0 a1 97 ch) (Sa2 : own_S2 Z h0 a2 98 ch) (gky : n0 ≤ ky) (gsy : n0 ≤ sy) (gey : n0 ≤ ey) (ga1 : n0 ≤ a1) (ga2 : n0 ≤ a2) (Lr : own_Lst Z gg h0 al [a1, a2]) (hc : ch < 256) :
    own_MW l yM75 prog_11_method_1_code 11 none ws (rK 8 26 240 140) #[(.ref i), (.ref tn), .null, (.ref ky), (.ref sy), (.ref ey), (.ref al)] Z h0 (QIi2 Z i tn al ky sy ey a1 a2 ch gg h0 n0) := by
  refine own_openW (plainFor_of_name pn2) dB71 fun p e s m b0 meth c s₁ S0 hx D hby hml hown hnm hret hlk hZ X0 e0 c0 => ?_
  replace c0 : Sx p e b0 S0 s₁ (mkF m 0 (a153 i tn ky sy ey al) []) := c0
  have Hw := @own_Hw _ _ hw
  have N0 := Fr.nil n0
  obtain ⟨V0, hV0⟩ : ∃ V, V = s.vm := ⟨_, rfl⟩
  have Xs : Stand p l e (rK 8 26 240 140) (s.setVm V0) m #[(.ref i), (.ref tn), .null, (.ref ky), (.ref sy), (.ref ey), (.ref al)] b0 meth c s₁ [] 0 0 := by subst hV0; exact X0
  have hS : s.Since V0 h0.size := by subst hV0; exact (State.WarmedH.refl s).since _
  replace hZ : Z.Warmed39 (s.setVm V0).vm := by subst hV0; exact hZ
  replace hown : (s.setVm V0).vm.findClass "com/example/spanfold/spanfold/Input" = some m.cls := by subst hV0; exact hown
  have hk : h0.size ≤ h0.size := Nat.le_refl _
  have Zh := Z0
  have Nf := N0
  have hO := X00
  have hKp := Keep.refl h0 [i, ky, sy, ey, a1, a2]
  have hal1 : al ∉ [i, ky, sy, ey, a1, a2] := (ninS (Lr.not Ei (by decide) (by decide)) (ninS (Lr.not Sky.exa (by decide) (by decide)) (ninS (Lr.not Ssy.exa (by decide) (by decide)) (ninS (Lr.not Sey.exa (by decide) (by decide)) (ninS (Lr.not Sa1.exa (by decide) (by decide)) (ninS (Lr.not Sa2.exa (by decide) (by decide)) nin0))))))
  have hal2 : ∀ x ∈ [i, ky, sy, ey, a1, a2], ¬ Exa Z h0 x own_OAn := (allS (nX Ei (by decide)) (allS (nX Sky.exa (by decide)) (allS (nX Ssy.exa (by decide)) (allS (nX Sey.exa (by decide)) (allS (nX Sa1.exa (by decide)) (allS (nX Sa2.exa (by decide)) all0))))))
  obtain ⟨_, _, ⟨T2, L2, k2, n2⟩, -, X2, ⟨Lc2, hQ2, l2, y2, z2⟩, st2⟩ := Xs.specialBack hx (y := yM7) rfl hown (mvT hZ (Hw 74 rfl)) (mvT hZ (Hw 75 rfl)) (mvT hZ (Hw 78 rfl)) (by decide) (backOf (W := 0) (rmEx l Z a0 hw [] i h0 n0 Zh) hZ (Hw 78 rfl) (Hw 77 rfl) (by decide) (by decide)) (g := (mkF m 1 (a153 i tn ky sy ey al) [(.ref i)])) rfl hml.symm (Steps.refl _) (a := i) (argsL := []) (rest := []) (lenOf pd0 rfl) rfl (nE rfl) (D 1 rfl) (fun _ _ => ⟨rfl, e0, (by decide : 0 + 0 ≤ _), (by decide : 0 + 0 ≤ _)⟩)
  dsimp only [Pt.U, Pt.locs, Pt.cells, Pt.slots] at X2 l2 y2 z2 st2 hQ2
  subst l2 y2 z2
  obtain ⟨rfl, N1, e1⟩ := hQ2
  have c2 : Sx p e b0 S0 T2 (mkF m 4 (a153 i tn ky sy ey al) []) := c0.trans (qA Xs hx rfl (D 0 rfl) rfl rfl (st2))
  have Nf := Fr.app Nf N1
  obtain ⟨T4, h4, X4, e4, W4, st4⟩ := putF X2 hx hZ hown (host := "") (Or.inl (Hw 80 rfl)) Via.refl e1 Gt Ei (Or.inr ⟨(Hw 81 rfl), rfl, hnm⟩) (Hw 64 rfl) (ty := (.object "java/lang/String")) (by decide) rfl rfl (g := (mkF m 6 (a153 i tn ky sy ey al) [(.ref tn), (.ref i)])) rfl rfl (D 4 rfl)
  have c4 : Sx p e b0 S0 T4 (mkF m 9 (a153 i tn ky sy ey al) []) := c2.trans (qA X2 hx rfl (D 2 rfl) rfl rfl (qA X2 hx rfl (D 3 rfl) rfl rfl (st4 _ (Steps.refl _))))
  have Sky_ := Sky.keep (Keep.of_wr W4) (ninS (Sky.exa.ne Ei kST_IN) nin0) (allS (nX Ei kIN_BA) all0)
  have Ssy_ := Ssy.keep (Keep.of_wr W4) (ninS (Ssy.exa.ne Ei kST_IN) nin0) (allS (nX Ei kIN_BA) all0)
  have Sey_ := Sey.keep (Keep.of_wr W4) (ninS (Sey.exa.ne Ei kST_IN) nin0) (allS (nX Ei kIN_BA) all0)
  have Sa1_ := Sa1.keep (Keep.of_wr W4) (ninS (Sa1.exa.ne Ei kST_IN) nin0) (allS (nX Ei kIN_BA) all0)
  have Sa2_ := Sa2.keep (Keep.of_wr W4) (ninS (Sa2.exa.ne Ei kST_IN) nin0) (allS (nX Ei kIN_BA) all0)
  have Sky := Sky_
  have Ssy := Ssy_
  have Sey := Sey_
  have Sa1 := Sa1_
  have Sa2 := Sa2_
  have Ei := Ei.wr W4
  have Gt := Gt.same W4
  have Gq := Gq.other W4 (own_sn (Or.inr (Hw 83 rfl)) (Or.inr (Hw 81 rfl)) (.object "java/lang/String") (.object "java/lang/String"))
  have Gk := Gk.other W4 (own_sn (Or.inr (Hw 87 rfl)) (Or.inr (Hw 81 rfl)) (.object "java/lang/String") (.object "java/lang/String"))
  have Gs := Gs.other W4 (own_sn (Or.inr (Hw 90 rfl)) (Or.inr (Hw 81 rfl)) (.object "java/lang/String") (.object "java/lang/String"))
  have Ge := Ge.other W4 (own_sn (Or.inr (Hw 93 rfl)) (Or.inr (Hw 81 rfl)) (.object "java/lang/String") (.object "java/lang/String"))
  have Ga := Ga.other W4 (own_sn (Or.inr (Hw 113 rfl)) (Or.inr (Hw 81 rfl)) (.object "java/util/List") (.object "java/lang/String"))
  have Nf := Fr.snoc X4 Nf gi
  have hk := nT hk (nE (own_wsz W4).symm)
  have Zh := nT Zh (nE (own_wsz W4).symm)
  have hO := hO.wr W4 gi
  have hKp := hKp.wr W4 (mI 0 rfl)
  obtain ⟨T6, h6, X6, e6, W6, st6⟩ := putF X4 hx hZ hown (host := "") (Or.inl (Hw 82 rfl)) Via.refl e4 Gq Ei (Or.inr ⟨(Hw 83 rfl), rfl, hnm⟩) (Hw 64 rfl) (ty := (.object "java/lang/String")) (by decide) rfl rfl (g := (mkF m 11 (a153 i tn ky sy ey al) [.null, (.ref i)])) rfl rfl (D 7 rfl)
  have c6 : Sx p e b0 S0 T6 (mkF m 14 (a153 i tn ky sy ey al) []) := c4.trans (qA X4 hx rfl (D 5 rfl) rfl rfl (qA X4 hx rfl (D 6 rfl) rfl rfl (st6 _ (Steps.refl _))))
  have Sky_ := Sky.keep (Keep.of_wr W6) (ninS (Sky.exa.ne Ei kST_IN) nin0) (allS (nX Ei kIN_BA) all0)
  have Ssy_ := Ssy.keep (Keep.of_wr W6) (ninS (Ssy.exa.ne Ei kST_IN) nin0) (allS (nX Ei kIN_BA) all0)
  have Sey_ := Sey.keep (Keep.of_wr W6) (ninS (Sey.exa.ne Ei kST_IN) nin0) (allS (nX Ei kIN_BA) all0)
  have Sa1_ := Sa1.keep (Keep.of_wr W6) (ninS (Sa1.exa.ne Ei kST_IN) nin0) (allS (nX Ei kIN_BA) all0)
  have Sa2_ := Sa2.keep (Keep.of_wr W6) (ninS (Sa2.exa.ne Ei kST_IN) nin0) (allS (nX Ei kIN_BA) all0)
  have Sky := Sky_
  have Ssy := Ssy_
  have Sey := Sey_
  have Sa1 := Sa1_
  have Sa2 := Sa2_
  have Ei := Ei.wr W6
  have Gt := Gt.other W6 (own_sn (Or.inr (Hw 81 rfl)) (Or.inr (Hw 83 rfl)) (.object "java/lang/String") (.object "java/lang/String"))
  have Gq := Gq.same W6
  have Gk := Gk.other W6 (own_sn (Or.inr (Hw 87 rfl)) (Or.inr (Hw 83 rfl)) (.object "java/lang/String") (.object "java/lang/String"))
  have Gs := Gs.other W6 (own_sn (Or.inr (Hw 90 rfl)) (Or.inr (Hw 83 rfl)) (.object "java/lang/String") (.object "java/lang/String"))
  have Ge := Ge.other W6 (own_sn (Or.inr (Hw 93 rfl)) (Or.inr (Hw 83 rfl)) (.object "java/lang/String") (.object "java/lang/String"))
  have Ga := Ga.other W6 (own_sn (Or.inr (Hw 113 rfl)) (Or.inr (Hw 83 rfl)) (.object "java/util/List") (.object "java/lang/String"))
  have Nf := Fr.snoc X6 Nf gi
  have hk := nT hk (nE (own_wsz W6).symm)
  have Zh := nT Zh (nE (own_wsz W6).symm)
  have hO := hO.wr W6 gi
  have hKp := hKp.wr W6 (mI 0 rfl)
  obtain ⟨q8, T8, h8, k8, X8, e8, E8, hS, hk, hZ, hown, st8⟩ := ldcS X6 hx hZ hown (Hw 84 rfl) (own_wS hw) e6 hS hk (g := (mkF m 16 (a153 i tn ky sy ey al) [(.ref ky), (.ref i)])) rfl (D 10 rfl) (n := 12) (by decide) (by decide) (by decide) (by decide)
  have c8 : Sx p e b0 S0 T8 (mkF m 18 (a153 i tn ky sy ey al) [(.ref q8), (.ref ky), (.ref i)]) := c6.trans (qA X6 hx rfl (D 8 rfl) rfl rfl (qA X6 hx rfl (D 9 rfl) rfl rfl (st8 _ (Steps.refl _))))
  have Sky := Sky.ext E8
  have Ssy := Ssy.ext E8
  have Sey := Sey.ext E8
  have Sa1 := Sa1.ext E8
  have Sa2 := Sa2.ext E8
  have Ei := Ei.ext E8
  have Gt := Gt.ext E8
  have Gq := Gq.ext E8
  have Gk := Gk.ext E8
  have Gs := Gs.ext E8
  have Ge := Ge.ext E8
  have Ga := Ga.ext E8
  have Zh := nT Zh E8.1
  have hO := hO.ext E8
  have hKp := hKp.ext E8
  obtain ⟨_, _, ⟨T9, L9, k9, n9⟩, -, X9, ⟨Lc9, hQ9, l9, y9, z9⟩, st9⟩ := Jvm.LawKit.callS X8 hx (y := yM1) hown (mvT hZ (Hw 59 rfl)) (mvT hZ (Hw 60 rfl)) (mvT hZ (Hw 61 rfl)) (mvT hZ (Hw 62 rfl)) (by decide) (backOf (W := 1) (rmR2 l Z a0 hw [] ky q8 h8 n0 Zh) hZ (Hw 62 rfl) (Hw 61 rfl) (by decide) (by decide)) (g := (mkF m 18 (a153 i tn ky sy ey al) [(.ref q8), (.ref ky), (.ref i)])) rfl hml.symm (argsL := [(.ref ky), (.ref q8)]) (rest := [(.ref i)]) (lenOf pd36 rfl) rfl (nE rfl) (D 11 rfl) (fun _ _ => ⟨rfl, e8, (by decide : 2 + 0 ≤ _), (by decide : 16 + 0 ≤ _)⟩)
  dsimp only [Pt.U, Pt.locs, Pt.cells, Pt.slots] at X9 l9 y9 z9 st9 hQ9
  subst l9 y9 z9
  obtain ⟨rfl, N1, e1⟩ := hQ9
  have c9 : Sx p e b0 S0 T9 (mkF m 21 (a153 i tn ky sy ey al) [(.ref ky), (.ref i)]) := c8.trans (st9 _ (Steps.refl _))
  have Nf := Fr.app Nf N1
  obtain ⟨T10, X10, e10, st10⟩ := castY X9 hx hZ hown (Hw 85 rfl) e1 (Ins.self Sky.exa) (g := (mkF m 21 (a153 i tn ky sy ey al) [(.ref ky), (.ref i)])) rfl rfl (D 12 rfl)
  have c10 : Sx p e b0 S0 T10 (mkF m 24 (a153 i tn ky sy ey al) [(.ref ky), (.ref i)]) := c9.trans (st10 _ (Steps.refl _))
  obtain ⟨T11, h11, X11, e11, W11, st11⟩ := putF X10 hx hZ hown (host := "") (Or.inl (Hw 86 rfl)) Via.refl e10 Gk Ei (Or.inr ⟨(Hw 87 rfl), rfl, hnm⟩) (Hw 64 rfl) (ty := (.object "java/lang/String")) (by decide) rfl rfl (g := (mkF m 24 (a153 i tn ky sy ey al) [(.ref ky), (.ref i)])) rfl rfl (D 13 rfl)
  have c11 : Sx p e b0 S0 T11 (mkF m 27 (a153 i tn ky sy ey al) []) := c10.trans (st11 _ (Steps.refl _))
  have Sky_ := Sky.keep (Keep.of_wr W11) (ninS (Sky.exa.ne Ei kST_IN) nin0) (allS (nX Ei kIN_BA) all0)
  have Ssy_ := Ssy.keep (Keep.of_wr W11) (ninS (Ssy.exa.ne Ei kST_IN) nin0) (allS (nX Ei kIN_BA) all0)
  have Sey_ := Sey.keep (Keep.of_wr W11) (ninS (Sey.exa.ne Ei kST_IN) nin0) (allS (nX Ei kIN_BA) all0)
  have Sa1_ := Sa1.keep (Keep.of_wr W11) (ninS (Sa1.exa.ne Ei kST_IN) nin0) (allS (nX Ei kIN_BA) all0)
  have Sa2_ := Sa2.keep (Keep.of_wr W11) (ninS (Sa2.exa.ne Ei kST_IN) nin0) (allS (nX Ei kIN_BA) all0)
  have Sky := Sky_
  have Ssy := Ssy_
  have Sey := Sey_
  have Sa1 := Sa1_
  have Sa2 := Sa2_
  have Ei := Ei.wr W11
  have Gt := Gt.other W11 (own_sn (Or.inr (Hw 81 rfl)) (Or.inr (Hw 87 rfl)) (.object "java/lang/String") (.object "java/lang/String"))
  have Gq := Gq.other W11 (own_sn (Or.inr (Hw 83 rfl)) (Or.inr (Hw 87 rfl)) (.object "java/lang/String") (.object "java/lang/String"))
  have Gk := Gk.same W11
  have Gs := Gs.other W11 (own_sn (Or.inr (Hw 90 rfl)) (Or.inr (Hw 87 rfl)) (.object "java/lang/String") (.object "java/lang/String"))
  have Ge := Ge.other W11 (own_sn (Or.inr (Hw 93 rfl)) (Or.inr (Hw 87 rfl)) (.object "java/lang/String") (.object "java/lang/String"))
  have Ga := Ga.other W11 (own_sn (Or.inr (Hw 113 rfl)) (Or.inr (Hw 87 rfl)) (.object "java/util/List") (.object "java/lang/String"))
  have Nf := Fr.snoc X11 Nf gi
  have hk := nT hk (nE (own_wsz W11).symm)
  have Zh := nT Zh (nE (own_wsz W11).symm)
  have hO := hO.wr W11 gi
  have hKp := hKp.wr W11 (mI 0 rfl)
  obtain ⟨q13, T13, h13, k13, X13, e13, E13, hS, hk, hZ, hown, st13⟩ := ldcS X11 hx hZ hown (Hw 88 rfl) (own_wS hw) e11 hS hk (g := (mkF m 30 (a153 i tn ky sy ey al) [(.ref sy), (.ref i)])) rfl (D 16 rfl) (n := 20) (by decide) (by decide) (by decide) (by decide)
  have c13 : Sx p e b0 S0 T13 (mkF m 32 (a153 i tn ky sy ey al) [(.ref q13), (.ref sy), (.ref i)]) := c11.trans (qA X11 hx rfl (D 14 rfl) rfl rfl (qa X11 hx rfl (D 15 rfl) rfl rfl (st13 _ (Steps.refl _))))
  have Sky := Sky.ext E13
  have Ssy := Ssy.ext E13
  have Sey := Sey.ext E13
  have Sa1 := Sa1.ext E13
  have Sa2 := Sa2.ext E13
  have Ei := Ei.ext E13
  have Gt := Gt.ext E13
  have Gq := Gq.ext E13
  have Gk := Gk.ext E13
  have Gs := Gs.ext E13
  have Ge := Ge.ext E13
  have Ga := Ga.ext E13
  have Zh := nT Zh E13.1
  have hO := hO.ext E13
  have hKp := hKp.ext E13
  obtain ⟨_, _, ⟨T14, L14, k14, n14⟩, -, X14, ⟨Lc14, hQ14, l14, y14, z14⟩, st14⟩ := Jvm.LawKit.callS X13 hx (y := yM1) hown (mvT hZ (Hw 59 rfl)) (mvT hZ (Hw 60 rfl)) (mvT hZ (Hw 61 rfl)) (mvT hZ (Hw 62 rfl)) (by decide) (backOf (W := 1) (rmR2 l Z a0 hw [] sy q13 h13 n0 Zh) hZ (Hw 62 rfl) (Hw 61 rfl) (by decide) (by decide)) (g := (mkF m 32 (a153 i tn ky sy ey al) [(.ref q13), (.ref sy), (.ref i)])) rfl hml.symm (argsL := [(.ref sy), (.ref q13)]) (rest := [(.ref i)]) (lenOf pd36 rfl) rfl (nE rfl) (D 17 rfl) (fun _ _ => ⟨rfl, e13, (by decide : 4 + 0 ≤ _), (by decide : 40 + 0 ≤ _)⟩)
  dsimp only [Pt.U, Pt.locs, Pt.cells, Pt.slots] at X14 l14 y14 z14 st14 hQ14
  subst l14 y14 z14
  obtain ⟨rfl, N1, e1⟩ := hQ14
  have c14 : Sx p e b0 S0 T14 (mkF m 35 (a153 i tn ky sy ey al) [(.ref sy), (.ref i)]) := c13.trans (st14 _ (Steps.refl _))
  have Nf := Fr.app Nf N1
  obtain ⟨T15, X15, e15, st15⟩ := castY X14 hx hZ hown (Hw 85 rfl) e1 (Ins.self Ssy.exa) (g := (mkF m 35 (a153 i tn ky sy ey al) [(.ref sy), (.ref i)])) rfl rfl (D 18 rfl)
  have c15 : Sx p e b0 S0 T15 (mkF m 38 (a153 i tn ky sy ey al) [(.ref sy), (.ref i)]) := c14.trans (st15 _ (Steps.refl _))
  obtain ⟨T16, h16, X16, e16, W16, st16⟩ := putF X15 hx hZ hown (host := "") (Or.inl (Hw 89 rfl)) Via.refl e15 Gs Ei (Or.inr ⟨(Hw 90 rfl), rfl, hnm⟩) (Hw 64 rfl) (ty := (.object "java/lang/String")) (by decide) rfl rfl (g := (mkF m 38 (a153 i tn ky sy ey al) [(.ref sy), (.ref i)])) rfl rfl (D 19 rfl)
  have c16 : Sx p e b0 S0 T16 (mkF m 41 (a153 i tn ky sy ey al) []) := c15.trans (st16 _ (Steps.refl _))
  have Sky_ := Sky.keep (Keep.of_wr W16) (ninS (Sky.exa.ne Ei kST_IN) nin0) (allS (nX Ei kIN_BA) all0)
  have Ssy_ := Ssy.keep (Keep.of_wr W16) (ninS (Ssy.exa.ne Ei kST_IN) nin0) (allS (nX Ei kIN_BA) all0)
  have Sey_ := Sey.keep (Keep.of_wr W16) (ninS (Sey.exa.ne Ei kST_IN) nin0) (allS (nX Ei kIN_BA) all0)
  have Sa1_ := Sa1.keep (Keep.of_wr W16) (ninS (Sa1.exa.ne Ei kST_IN) nin0) (allS (nX Ei kIN_BA) all0)
  have Sa2_ := Sa2.keep (Keep.of_wr W16) (ninS (Sa2.exa.ne Ei kST_IN) nin0) (allS (nX Ei kIN_BA) all0)
  have Sky := Sky_
  have Ssy := Ssy_
  have Sey := Sey_
  have Sa1 := Sa1_
  have Sa2 := Sa2_
  have Ei := Ei.wr W16
  have Gt := Gt.other W16 (own_sn (Or.inr (Hw 81 rfl)) (Or.inr (Hw 90 rfl)) (.object "java/lang/String") (.object "java/lang/String"))
  have Gq := Gq.other W16 (own_sn (Or.inr (Hw 83 rfl)) (Or.inr (Hw 90 rfl)) (.object "java/lang/String") (.object "java/lang/String"))
  have Gk := Gk.other W16 (own_sn (Or.inr (Hw 87 rfl)) (Or.inr (Hw 90 rfl)) (.object "java/lang/String") (.object "java/lang/String"))
  have Gs := Gs.same W16
  have Ge := Ge.other W16 (own_sn (Or.inr (Hw 93 rfl)) (Or.inr (Hw 90 rfl)) (.object "java/lang/String") (.object "java/lang/String"))
  have Ga := Ga.other W16 (own_sn (Or.inr (Hw 113 rfl)) (Or.inr (Hw 90 rfl)) (.object "java/util/List") (.object "java/lang/String"))
  have Nf := Fr.snoc X16 Nf gi
  have hk := nT hk (nE (own_wsz W16).symm)
  have Zh := nT Zh (nE (own_wsz W16).symm)
  have hO := hO.wr W16 gi
  have hKp := hKp.wr W16 (mI 0 rfl)
  obtain ⟨q18, T18, h18, k18, X18, e18, E18, hS, hk, hZ, hown, st18⟩ := ldcS X16 hx hZ hown (Hw 91 rfl) (own_wS hw) e16 hS hk (g := (mkF m 44 (a153 i tn ky sy ey al) [(.ref ey), (.ref i)])) rfl (D 22 rfl) (n := 12) (by decide) (by decide) (by decide) (by decide)
  have c18 : Sx p e b0 S0 T18 (mkF m 46 (a153 i tn ky sy ey al) [(.ref q18), (.ref ey), (.ref i)]) := c16.trans (qA X16 hx rfl (D 20 rfl) rfl rfl (qa X16 hx rfl (D 21 rfl) rfl rfl (st18 _ (Steps.refl _))))
  have Sky := Sky.ext E18
  have Ssy := Ssy.ext E18
  have Sey := Sey.ext E18
  have Sa1 := Sa1.ext E18
  have Sa2 := Sa2.ext E18
  have Ei := Ei.ext E18
  have Gt := Gt.ext E18
  have Gq := Gq.ext E18
  have Gk := Gk.ext E18
  have Gs := Gs.ext E18
  have Ge := Ge.ext E18
  have Ga := Ga.ext E18
  have Zh := nT Zh E18.1
  have hO := hO.ext E18
  have hKp := hKp.ext E18
  obtain ⟨_, _, ⟨T19, L19, k19, n19⟩, -, X19, ⟨Lc19, hQ19, l19, y19, z19⟩, st19⟩ := Jvm.LawKit.callS X18 hx (y := yM1) hown (mvT hZ (Hw 59 rfl)) (mvT hZ (Hw 60 rfl)) (mvT hZ (Hw 61 rfl)) (mvT hZ (Hw 62 rfl)) (by decide) (backOf (W := 1) (rmR2 l Z a0 hw [] ey q18 h18 n0 Zh) hZ (Hw 62 rfl) (Hw 61 rfl) (by decide) (by decide)) (g := (mkF m 46 (a153 i tn ky sy ey al) [(.ref q18), (.ref ey), (.ref i)])) rfl hml.symm (argsL := [(.ref ey), (.ref q18)]) (rest := [(.ref i)]) (lenOf pd36 rfl) rfl (nE rfl) (D 23 rfl) (fun _ _ => ⟨rfl, e18, (by decide : 6 + 0 ≤ _), (by decide : 56 + 0 ≤ _)⟩)
  dsimp only [Pt.U, Pt.locs, Pt.cells, Pt.slots] at X19 l19 y19 z19 st19 hQ19
  subst l19 y19 z19
  obtain ⟨rfl, N1, e1⟩ := hQ19
  have c19 : Sx p e b0 S0 T19 (mkF m 49 (a153 i tn ky sy ey al) [(.ref ey), (.ref i)]) := c18.trans (st19 _ (Steps.refl _))
  have Nf := Fr.app Nf N1
  obtain ⟨T20, X20, e20, st20⟩ := castY X19 hx hZ hown (Hw 85 rfl) e1 (Ins.self Sey.exa) (g := (mkF m 49 (a153 i tn ky sy ey al) [(.ref ey), (.ref i)])) rfl rfl (D 24 rfl)
  have c20 : Sx p e b0 S0 T20 (mkF m 52 (a153 i tn ky sy ey al) [(.ref ey), (.ref i)]) := c19.trans (st20 _ (Steps.refl _))
  obtain ⟨T21, h21, X21, e21, W21, st21⟩ := putF X20 hx hZ hown (host := "") (Or.inl (Hw 92 rfl)) Via.refl e20 Ge Ei (Or.inr ⟨(Hw 93 rfl), rfl, hnm⟩) (Hw 64 rfl) (ty := (.object "java/lang/String")) (by decide) rfl rfl (g := (mkF m 52 (a153 i tn ky sy ey al) [(.ref ey), (.ref i)])) rfl rfl (D 25 rfl)
  have c21 : Sx p e b0 S0 T21 (mkF m 55 (a153 i tn ky sy ey al) []) := c20.trans (st21 _ (Steps.refl _))
  have Sky_ := Sky.keep (Keep.of_wr W21) (ninS (Sky.exa.ne Ei kST_IN) nin0) (allS (nX Ei kIN_BA) all0)
  have Ssy_ := Ssy.keep (Keep.of_wr W21) (ninS (Ssy.exa.ne Ei kST_IN) nin0) (allS (nX Ei kIN_BA) all0)
  have Sey_ := Sey.keep (Keep.of_wr W21) (ninS (Sey.exa.ne Ei kST_IN) nin0) (allS (nX Ei kIN_BA) all0)
  have Sa1_ := Sa1.keep (Keep.of_wr W21) (ninS (Sa1.exa.ne Ei kST_IN) nin0) (allS (nX Ei kIN_BA) all0)
  have Sa2_ := Sa2.keep (Keep.of_wr W21) (ninS (Sa2.exa.ne Ei kST_IN) nin0) (allS (nX Ei kIN_BA) all0)
  have Sky := Sky_
  have Ssy := Ssy_
  have Sey := Sey_
  have Sa1 := Sa1_
  have Sa2 := Sa2_
  have Ei := Ei.wr W21
  have Gt := Gt.other W21 (own_sn (Or.inr (Hw 81 rfl)) (Or.inr (Hw 93 rfl)) (.object "java/lang/String") (.object "java/lang/String"))
  have Gq := Gq.other W21 (own_sn (Or.inr (Hw 83 rfl)) (Or.inr (Hw 93 rfl)) (.object "java/lang/String") (.object "java/lang/String"))
  have Gk := Gk.other W21 (own_sn (Or.inr (Hw 87 rfl)) (Or.inr (Hw 93 rfl)) (.object "java/lang/String") (.object "java/lang/String"))
  have Gs := Gs.other W21 (own_sn (Or.inr (Hw 90 rfl)) (Or.inr (Hw 93 rfl)) (.object "java/lang/String") (.object "java/lang/String"))
  have Ge := Ge.same W21
  have Ga := Ga.other W21 (own_sn (Or.inr (Hw 113 rfl)) (Or.inr (Hw 93 rfl)) (.object "java/util/List") (.object "java/lang/String"))
  have Nf := Fr.snoc X21 Nf gi
  have hk := nT hk (nE (own_wsz W21).symm)
  have Zh := nT Zh (nE (own_wsz W21).symm)
  have hO := hO.wr W21 gi
  have hKp := hKp.wr W21 (mI 0 rfl)
  obtain ⟨_, _, ⟨T23, L23, k23, n23⟩, -, X23, ⟨Lc23, hQ23, l23, y23, z23⟩, st23⟩ := Jvm.LawKit.callS X21 hx (y := yM72) hown (mvT hZ (Hw 94 rfl)) (mvT hZ (Hw 95 rfl)) (mvT hZ (Hw 67 rfl)) (mvT hZ (Hw 96 rfl)) (by decide) (backOf (W := 1) (rmLo l Z a0 hw [] al [a1, a2] gg h21 n0 Zh (Lr.keep hKp hal1 hal2)) hZ (Hw 96 rfl) (Hw 67 rfl) (by decide) (by decide)) (g := (mkF m 58 (a153 i tn ky sy ey al) [(.ref al), (.ref i)])) rfl hml.symm (argsL := [(.ref al)]) (rest := [(.ref i)]) (lenOf pd33 rfl) rfl (nE rfl) (D 28 rfl) (fun _ _ => ⟨rfl, e21, (by decide : 6 + 0 ≤ _), (by decide : 56 + 0 ≤ _)⟩)
  dsimp only [Pt.U, Pt.locs, Pt.cells, Pt.slots] at X23 l23 y23 z23 st23 hQ23
  subst l23 y23 z23
  obtain ⟨rfl, N1, e1⟩ := hQ23
  have c23 : Sx p e b0 S0 T23 (mkF m 61 (a153 i tn ky sy ey al) [(.ref al), (.ref i)]) := c21.trans (qA X21 hx rfl (D 26 rfl) rfl rfl (qa X21 hx rfl (D 27 rfl) rfl rfl (st23 _ (Steps.refl _))))
  have Nf := Fr.app Nf N1
  obtain ⟨T24, h24, X24, e24, W24, st24⟩ := putF X23 hx hZ hown (host := "") (Or.inl (Hw 112 rfl)) Via.refl e1 Ga Ei (Or.inr ⟨(Hw 113 rfl), rfl, hnm⟩) (Hw 64 rfl) (ty := (.object "java/util/List")) (by decide) rfl rfl (g := (mkF m 61 (a153 i tn ky sy ey al) [(.ref al), (.ref i)])) rfl rfl (D 29 rfl)
  have c24 : Sx p e b0 S0 T24 (mkF m 64 (a153 i tn ky sy ey al) []) := c23.trans (st24 _ (Steps.refl _))
  have Sky_ := Sky.keep (Keep.of_wr W24) (ninS (Sky.exa.ne Ei kST_IN) nin0) (allS (nX Ei kIN_BA) all0)
  have Ssy_ := Ssy.keep (Keep.of_wr W24) (ninS (Ssy.exa.ne Ei kST_IN) nin0) (allS (nX Ei kIN_BA) all0)
  have Sey_ := Sey.keep (Keep.of_wr W24) (ninS (Sey.exa.ne Ei kST_IN) nin0) (allS (nX Ei kIN_BA) all0)
  have Sa1_ := Sa1.keep (Keep.of_wr W24) (ninS (Sa1.exa.ne Ei kST_IN) nin0) (allS (nX Ei kIN_BA) all0)
  have Sa2_ := Sa2.keep (Keep.of_wr W24) (ninS (Sa2.exa.ne Ei kST_IN) nin0) (allS (nX Ei kIN_BA) all0)
  have Sky := Sky_
  have Ssy := Ssy_
  have Sey := Sey_
  have Sa1 := Sa1_
  have Sa2 := Sa2_
  have Ei := Ei.wr W24
  have Gt := Gt.other W24 (own_sn (Or.inr (Hw 81 rfl)) (Or.inr (Hw 113 rfl)) (.object "java/lang/String") (.object "java/util/List"))
  have Gq := Gq.other W24 (own_sn (Or.inr (Hw 83 rfl)) (Or.inr (Hw 113 rfl)) (.object "java/lang/String") (.object "java/util/List"))
  have Gk := Gk.other W24 (own_sn (Or.inr (Hw 87 rfl)) (Or.inr (Hw 113 rfl)) (.object "java/lang/String") (.object "java/util/List"))
  have Gs := Gs.other W24 (own_sn (Or.inr (Hw 90 rfl)) (Or.inr (Hw 113 rfl)) (.object "java/lang/String") (.object "java/util/List"))
  have Ge := Ge.other W24 (own_sn (Or.inr (Hw 93 rfl)) (Or.inr (Hw 113 rfl)) (.object "java/lang/String") (.object "java/util/List"))
  have Ga := Ga.same W24
  have Nf := Fr.snoc X24 Nf gi
  have hk := nT hk (nE (own_wsz W24).symm)
  have Zh := nT Zh (nE (own_wsz W24).symm)
  have hO := hO.wr W24 gi
  have hKp := hKp.wr W24 (mI 0 rfl)
  have P : own_If Z _ i tn ky sy ey al := ⟨Ei, Gt, Gq, Gk, Gs, Ge, Ga⟩
  clear Ei Gt Gq Gk Gs Ge Ga
  obtain ⟨T25, h25, X25, e25, E25, A25, D25, -, st25⟩ := newO X24 hx hZ hown (Hw 114 rfl) (Hw 115 rfl) (Hw 116 rfl) e24 (g := (mkF m 64 (a153 i tn ky sy ey al) [])) rfl (D 30 rfl) (by decide) (by decide)
  obtain ⟨b25, g25⟩ : ∃ z, z = h24.size := ⟨_, rfl⟩
  rw [← g25] at A25 D25 st25
  have c25 : Sx p e b0 S0 T25 (mkF m 67 (a153 i tn ky sy ey al) [(.ref b25)]) := c24.trans (st25 _ (Steps.refl _))
  have zb25 : h0.size ≤ b25 := nT hKp.1 (nE g25.symm)
  have nb25 : n0 ≤ b25 := nT Z0 zb25
  have Sky := Sky.ext E25
  have Ssy := Ssy.ext E25
  have Sey := Sey.ext E25
  have Sa1 := Sa1.ext E25
  have Sa2 := Sa2.ext E25
  have P := P.ext E25
  have hk := nT hk E25.1
  have Zh := nT Zh E25.1
  have hO := hO.ext E25
  have hKp := hKp.ext E25
  have Ea := A25
  have Fm : Fld Z h25 b25 "java/util/AbstractList" "modCount" "I" (.int 0) := D25 (Or.inl (Hw 169 rfl)) (ty := .int) (by decide)
  have Fs : Fld Z h25 b25 "java/util/ArrayList" "size" "I" (.int 0) := D25 (Or.inl (Hw 203 rfl)) (ty := .int) (by decide)
  have Fe : Fld Z h25 b25 "java/util/ArrayList" "elementData" "[Ljava/lang/Object;" .null := D25 (Or.inl (Hw 214 rfl)) (ty := (.array (.object "java/lang/Object"))) (by decide)
  obtain ⟨_, _, ⟨T27, L27, k27, n27⟩, -, X27, ⟨Lc27, hQ27, l27, y27, z27⟩, st27⟩ := Jvm.LawKit.callS X25 hx (y := yM25) hown (mvT hZ (Hw 117 rfl)) (mvT hZ (Hw 118 rfl)) (mvT hZ (Hw 67 rfl)) (mvT hZ (Hw 119 rfl)) (by decide) (backOf (W := 2) (rmO3 l Z a0 hw [] ky sy ey gg h25 n0 Zh EV hO (Ins.of_exa Sky.exa (Hw 122 rfl)) (Ins.of_exa Ssy.exa (Hw 122 rfl)) (Ins.of_exa Sey.exa (Hw 122 rfl))) hZ (Hw 119 rfl) (Hw 67 rfl) (by decide) (by decide)) (g := (mkF m 73 (a153 i tn ky sy ey al) [(.ref ey), (.ref sy), (.ref ky), (.ref b25), (.ref b25)])) rfl hml.symm (argsL := [(.ref ky), (.ref sy), (.ref ey)]) (rest := [(.ref b25), (.ref b25)]) (lenOf pd37 rfl) rfl (nE rfl) (D 35 rfl) (fun _ _ => ⟨rfl, e25, (by decide : 7 + 2 ≤ _), (by decide : 59 + 5 ≤ _)⟩)
  dsimp only [Pt.U, Pt.locs, Pt.cells, Pt.slots] at X27 l27 y27 z27 st27 hQ27
  subst l27 y27 z27
  obtain ⟨⟨r3, t3, rfl, zr3, Er3, Fl3, Ot3⟩, N1, K1⟩ := hQ27
  have c27 : Sx p e b0 S0 T27 (mkF m 76 (a153 i tn ky sy ey al) [(.ref r3), (.ref b25), (.ref b25)]) := c25.trans (XS.dup X25.here hx rfl (D 31 rfl) rfl rfl (qA X25 hx rfl (D 32 rfl) rfl rfl (qa X25 hx rfl (D 33 rfl) rfl rfl (qa X25 hx rfl (D 34 rfl) rfl rfl (st27 _ (Steps.refl _))))))
  have Sky_ := Sky.keep K1 nin0 all0
  have Ssy_ := Ssy.keep K1 nin0 all0
  have Sey_ := Sey.keep K1 nin0 all0
  have Sa1_ := Sa1.keep K1 nin0 all0
  have Sa2_ := Sa2.keep K1 nin0 all0
  have P_ := P.keep K1 nin0
  have Sky := Sky_
  have Ssy := Ssy_
  have Sey := Sey_
  have Sa1 := Sa1_
  have Sa2 := Sa2_
  have P := P_
  have Ea := Ea.keep K1
  have Fm := Fm.keep K1 nin0
  have Fs := Fs.keep K1 nin0
  have Fe := Fe.keep K1 nin0
  have Nf := Fr.app Nf N1
  have hk := nT hk K1.1
  have Zh := nT Zh K1.1
  have hO := hO.keep K1 all0
  have hKp := hKp.trans K1 all0
  obtain ⟨_, _, ⟨T28, L28, k28, n28⟩, -, X28, ⟨Lc28, hQ28, l28, y28, z28⟩, st28⟩ := X27.specialBack hx (y := yM41) rfl hown (mvT hZ (Hw 157 rfl)) (mvT hZ (Hw 158 rfl)) (mvT hZ (Hw 159 rfl)) (by decide) (backOf (W := 1) (rmK3 l Z a0 hw [] b25 r3 t3 ky sy ey gg T27.heap n0 Zh EV hO Ea Fm Fs Fe nb25 Er3 Fl3 Ot3 (own_El.cons (Ins.of_exa Sky.exa (Hw 122 rfl)) (own_El.cons (Ins.of_exa Ssy.exa (Hw 122 rfl)) (own_El.cons (Ins.of_exa Sey.exa (Hw 122 rfl)) own_El.nil)))) hZ (Hw 159 rfl) (Hw 116 rfl) (by decide) (by decide)) (g := (mkF m 76 (a153 i tn ky sy ey al) [(.ref r3), (.ref b25), (.ref b25)])) rfl hml.symm (Steps.refl _) (a := b25) (argsL := [(.ref r3)]) (rest := [(.ref b25)]) (lenOf pd38 rfl) rfl (nE rfl) (D 36 rfl) (fun _ _ => ⟨rfl, rfl, (by decide : 9 + 2 ≤ _), (by decide : 64 + 20 ≤ _)⟩)
  dsimp only [Pt.U, Pt.locs, Pt.cells, Pt.slots] at X28 l28 y28 z28 st28 hQ28
  subst l28 y28 z28
  obtain ⟨rfl, N1, K1, ed, zed, A⟩ := hQ28
  have c28 : Sx p e b0 S0 T28 (mkF m 79 (a153 i tn ky sy ey al) [(.ref b25)]) := c27.trans st28
  have Sky_ := Sky.keep K1 (ninS (Sky.exa.ne Ea kST_AL) nin0) (allS (nX Ea kAL_BA) all0)
  have Ssy_ := Ssy.keep K1 (ninS (Ssy.exa.ne Ea kST_AL) nin0) (allS (nX Ea kAL_BA) all0)
  have Sey_ := Sey.keep K1 (ninS (Sey.exa.ne Ea kST_AL) nin0) (allS (nX Ea kAL_BA) all0)
  have Sa1_ := Sa1.keep K1 (ninS (Sa1.exa.ne Ea kST_AL) nin0) (allS (nX Ea kAL_BA) all0)
  have Sa2_ := Sa2.keep K1 (ninS (Sa2.exa.ne Ea kST_AL) nin0) (allS (nX Ea kAL_BA) all0)
  have P_ := P.keep K1 (ninS (P.1.ne Ea kIN_AL) nin0)
  have Sky := Sky_
  have Ssy := Ssy_
  have Sey := Sey_
  have Sa1 := Sa1_
  have Sa2 := Sa2_
  have P := P_
  have Nf := Fr.app Nf N1
  have hk := nT hk K1.1
  have Zh := nT Zh K1.1
  have hO := hO.keep K1 (allS nb25 all0)
  have hKp := hKp.trans K1 (allS (Or.inr zb25) all0)
  obtain ⟨T30, X30, e30, st30⟩ := getF X28 hx hZ hown (host := "") (Or.inl (Hw 112 rfl)) Via.refl rfl P.2.2.2.2.2.2 (g := (mkF m 84 (a154 i tn ky sy ey al b25) [(.ref i), (.ref b25)])) rfl rfl (D 40 rfl)
  have c30 : Sx p e b0 S0 T30 (mkF m 87 (a154 i tn ky sy ey al b25) [(.ref al), (.ref b25)]) := c28.trans (XS.astore X28.here hx rfl (D 37 rfl) rfl rfl (l' := (a154 i tn ky sy ey al b25)) rfl (qa X28 hx rfl (D 38 rfl) rfl rfl (qA X28 hx rfl (D 39 rfl) rfl rfl (st30 _ (Steps.refl _)))))
  obtain ⟨cq31, kq31, q31a, q31b, q31c⟩ := isOf hZ e30 A.1
  obtain ⟨_, _, ⟨T31, L31, k31, n31⟩, -, X31, ⟨Lc31, hQ31, l31, y31, z31⟩, st31⟩ := X30.virtualBack hx (y := yM43) (z := yM43) hown (mvT hZ (Hw 215 rfl)) (mvT hZ (Hw 216 rfl)) (notFace_of_selects (args := #[]) (mvT hZ (Hw 218 rfl))) (mvT hZ (Hw 218 rfl)) (mvT hZ (Hw 217 rfl)) (by decide) (backOf (W := 0) (rmAa l Z a0 hw [] b25 ed [ky, sy, ey] 3 0 al [a1, a2] gg T28.heap n0 Zh EV hO A rfl (by decide) (by decide) (Lr.keep hKp hal1 hal2) (Nat.le_of_ble_eq_true rfl) (own_El.cons (Ins.of_exa Sky.exa (Hw 122 rfl)) (own_El.cons (Ins.of_exa Ssy.exa (Hw 122 rfl)) (own_El.cons (Ins.of_exa Sey.exa (Hw 122 rfl)) own_El.nil))) (own_El.cons (Ins.of_exa Sa1.exa (Hw 122 rfl)) (own_El.cons (Ins.of_exa Sa2.exa (Hw 122 rfl)) own_El.nil)) nb25) hZ (Hw 219 rfl) (Hw 116 rfl) (by decide) (by decide)) q31a q31c (g := (mkF m 87 (a154 i tn ky sy ey al b25) [(.ref al), (.ref b25)])) rfl hml.symm (Steps.refl _) (argsL := [(.ref al)]) (rest := []) (lenOf pd39 rfl) rfl (nE rfl) (D 41 rfl) (fun _ _ => ⟨rfl, e30, (by decide : 11 + 2 ≤ _), (by decide : 84 + 20 ≤ _)⟩)
  dsimp only [Pt.U, Pt.locs, Pt.cells, Pt.slots] at X31 l31 y31 z31 st31 hQ31
  subst l31 y31 z31
  obtain ⟨⟨zv, rfl⟩, ⟨e2, NN, mc, A2, ze2⟩, N1, K1⟩ := hQ31
  have c31 : Sx p e b0 S0 T31 (mkF m 90 (a154 i tn ky sy ey al b25) [(.int zv)]) := c30.trans st31
  have Sky_ := Sky.keep K1 (ninS (Sky.exa.ne A.1 kST_AL) nin0) (allS (nX A.1 kAL_BA) all0)
  have Ssy_ := Ssy.keep K1 (ninS (Ssy.exa.ne A.1 kST_AL) nin0) (allS (nX A.1 kAL_BA) all0)
  have Sey_ := Sey.keep K1 (ninS (Sey.exa.ne A.1 kST_AL) nin0) (allS (nX A.1 kAL_BA) all0)
  have Sa1_ := Sa1.keep K1 (ninS (Sa1.exa.ne A.1 kST_AL) nin0) (allS (nX A.1 kAL_BA) all0)
  have Sa2_ := Sa2.keep K1 (ninS (Sa2.exa.ne A.1 kST_AL) nin0) (allS (nX A.1 kAL_BA) all0)
  have P_ := P.keep K1 (ninS (P.1.ne A.1 kIN_AL) nin0)
  have Sky := Sky_
  have Ssy := Ssy_
  have Sey := Sey_
  have Sa1 := Sa1_
  have Sa2 := Sa2_
  have P := P_
  have Nf := Fr.app Nf N1
  have hk := nT hk K1.1
  have Zh := nT Zh K1.1
  have hO := hO.keep K1 (allS nb25 all0)
  have hKp := hKp.trans K1 (allS (Or.inr zb25) all0)
  have A := A2
  obtain ⟨T33, h33, X33, e33, E33, A33, D33, -, st33⟩ := newO X31 hx hZ hown (Hw 222 rfl) (Hw 223 rfl) (Hw 224 rfl) rfl (g := (mkF m 91 (a154 i tn ky sy ey al b25) [])) rfl (D 43 rfl) (by decide) (by decide)
  obtain ⟨b33, g33⟩ : ∃ z, z = T31.heap.size := ⟨_, rfl⟩
  rw [← g33] at A33 D33 st33
  have c33 : Sx p e b0 S0 T33 (mkF m 94 (a154 i tn ky sy ey al b25) [(.ref b33)]) := c31.trans (XS.pop X31.here hx rfl (D 42 rfl) rfl rfl (st33 _ (Steps.refl _)))
  have zb33 : h0.size ≤ b33 := nT hKp.1 (nE g33.symm)
  have nb33 : n0 ≤ b33 := nT Z0 zb33
  have Sky := Sky.ext E33
  have Ssy := Ssy.ext E33
  have Sey := Sey.ext E33
  have Sa1 := Sa1.ext E33
  have Sa2 := Sa2.ext E33
  have P := P.ext E33
  have A := A.ext E33
  have hk := nT hk E33.1
  have Zh := nT Zh E33.1
  have hO := hO.ext E33
  have hKp := hKp.ext E33
  have Es := A33
  have Fp : Fld Z h33 b33 "java/util/HashSet" "map" "Ljava/util/HashMap;" .null := D33 (Or.inl (Hw 254 rfl)) (ty := (.object "java/util/HashMap")) (by decide)
  obtain ⟨_, _, ⟨T35, L35, k35, n35⟩, -, X35, ⟨Lc35, hQ35, l35, y35, z35⟩, st35⟩ := X33.specialBack hx (y := yM70) rfl hown (mvT hZ (Hw 225 rfl)) (mvT hZ (Hw 226 rfl)) (mvT hZ (Hw 227 rfl)) (by decide) (backOf (W := 1) (rmSi0 l Z a0 hw [] b33 h33 n0 Zh Es Fp nb33) hZ (Hw 227 rfl) (Hw 224 rfl) (by decide) (by decide)) (g := (mkF m 95 (a154 i tn ky sy ey al b25) [(.ref b33), (.ref b33)])) rfl hml.symm (Steps.refl _) (a := b33) (argsL := []) (rest := [(.ref b33)]) (lenOf pd0 rfl) rfl (nE rfl) (D 45 rfl) (fun _ _ => ⟨rfl, e33, (by decide : 14 + 1 ≤ _), (by decide : 105 + 8 ≤ _)⟩)
  dsimp only [Pt.U, Pt.locs, Pt.cells, Pt.slots] at X35 l35 y35 z35 st35 hQ35
  subst l35 y35 z35
  obtain ⟨rfl, N1, K1, q, zq, Fz, H0⟩ := hQ35
  have c35 : Sx p e b0 S0 T35 (mkF m 98 (a154 i tn ky sy ey al b25) [(.ref b33)]) := c33.trans (XS.dup X33.here hx rfl (D 44 rfl) rfl rfl (st35))
  have zq0 : h0.size ≤ q := nT hKp.1 zq
  have gq : n0 ≤ q := nT Z0 zq0
  have Sky_ := Sky.keep K1 (ninS (Sky.exa.ne Es kST_HS) nin0) (allS (nX Es kHS_BA) all0)
  have Ssy_ := Ssy.keep K1 (ninS (Ssy.exa.ne Es kST_HS) nin0) (allS (nX Es kHS_BA) all0)
  have Sey_ := Sey.keep K1 (ninS (Sey.exa.ne Es kST_HS) nin0) (allS (nX Es kHS_BA) all0)
  have Sa1_ := Sa1.keep K1 (ninS (Sa1.exa.ne Es kST_HS) nin0) (allS (nX Es kHS_BA) all0)
  have Sa2_ := Sa2.keep K1 (ninS (Sa2.exa.ne Es kST_HS) nin0) (allS (nX Es kHS_BA) all0)
  have P_ := P.keep K1 (ninS (P.1.ne Es kIN_HS) nin0)
  have A_ := A.keep K1 (ninS (A.1.ne Es kAL_HS) nin0) (ninS (A.2.2.2.2.2.1.ne Es kOA_HS) nin0)
  have Es_ := Es.keep K1
  have Sky := Sky_
  have Ssy := Ssy_
  have Sey := Sey_
  have Sa1 := Sa1_
  have Sa2 := Sa2_
  have P := P_
  have A := A_
  have Es := Es_
  have Nf := Fr.app Nf N1
  have hk := nT hk K1.1
  have Zh := nT Zh K1.1
  have hO := hO.keep K1 (allS nb33 all0)
  have hKp := hKp.trans K1 (allS (Or.inr zb33) all0)
  have M : own_HMp Z _ q q [] := Or.inl ⟨rfl, rfl, H0⟩
  obtain ⟨cq37, kq37, q37a, q37b, q37c⟩ := isOf hZ rfl A.1
  obtain ⟨_, _, ⟨T37, L37, k37, n37⟩, -, X37, ⟨Lc37, hQ37, l37, y37, z37⟩, st37⟩ := X35.virtualBack hx (y := yM45) (z := yM45) hown (mvT hZ (Hw 255 rfl)) (mvT hZ (Hw 256 rfl)) (notFace_of_selects (args := #[]) (mvT hZ (Hw 258 rfl))) (mvT hZ (Hw 258 rfl)) (mvT hZ (Hw 257 rfl)) (by decide) (backOf (W := 0) (rmI1 l Z a0 hw [] b25 e2 ([ky, sy, ey] ++ [a1, a2]) NN mc T35.heap n0 Zh A) hZ (Hw 259 rfl) (Hw 116 rfl) (by decide) (by decide)) q37a q37c (g := (mkF m 102 (a155 i tn ky sy ey al b25 b33) [(.ref b25)])) rfl hml.symm (Steps.refl _) (argsL := []) (rest := []) (lenOf pd40 rfl) rfl (nE rfl) (D 48 rfl) (fun _ _ => ⟨rfl, rfl, (by decide : 15 + 1 ≤ _), (by decide : 113 + 4 ≤ _)⟩)
  dsimp only [Pt.U, Pt.locs, Pt.cells, Pt.slots] at X37 l37 y37 z37 st37 hQ37
  subst l37 y37 z37
  obtain ⟨⟨it, rfl, zit, I⟩, N1, K1⟩ := hQ37
  have c37 : Sx p e b0 S0 T37 (mkF m 105 (a155 i tn ky sy ey al b25 b33) [(.ref it)]) := c35.trans (XS.astore X35.here hx rfl (D 46 rfl) rfl rfl (l' := (a155 i tn ky sy ey al b25 b33)) rfl (qa X35 hx rfl (D 47 rfl) rfl rfl (st37)))
  have zit0 : h0.size ≤ it := nT hKp.1 zit
  have git : n0 ≤ it := nT Z0 zit0
  have Sky_ := Sky.keep K1 nin0 all0
  have Ssy_ := Ssy.keep K1 nin0 all0
  have Sey_ := Sey.keep K1 nin0 all0
  have Sa1_ := Sa1.keep K1 nin0 all0
  have Sa2_ := Sa2.keep K1 nin0 all0
  have P_ := P.keep K1 nin0
  have A_ := A.keep K1 nin0 nin0
  have Es_ := Es.keep K1
  have Fz_ := Fz.keep K1 nin0
  have M_ := M.keep K1 nin0 nin0
  have Sky := Sky_
  have Ssy := Ssy_
  have Sey := Sey_
  have Sa1 := Sa1_
  have Sa2 := Sa2_
  have P := P_
  have A := A_
  have Es := Es_
  have Fz := Fz_
  have M := M_
  have Nf := Fr.app Nf N1
  have hk := nT hk K1.1
  have Zh := nT Zh K1.1
  have hO := hO.keep K1 all0
  have hKp := hKp.trans K1 all0
  obtain ⟨T39, L39, X39, Nf, K1, I2, Sn, ⟨tky, gtky, M2, ztky⟩, st39⟩ := rmTu l Z a0 hw p e _ m _ b0 meth c T37 _ 16 117 i tn ky sy ey al b25 b33 it q q e2 ky ([ky, sy, ey] ++ [a1, a2]) NN mc 0 107 ch ([] : List Nat) gg T37.heap n0 X37 hx hby hml hZ hown rfl Zh (by decide) (by decide) Nf EV hO A I rfl git Es Fz Sky gky (by decide) (by decide) hc M gq gq (Nat.le_of_ble_eq_true rfl) (fun q => nomatch q)
  have ytky : h0.size ≤ tky := ztky.elim (fun q => q.symm ▸ zq0) (fun q => nT hKp.1 q)
  have Ssy_ := Ssy.keep K1 (ninS (Ssy.exa.ne I.1 kST_IT) (ninS (Ssy.ne Sky (by decide) (by decide) (by decide)) (ninS (Ssy.exa.ne M.exa kST_HM) (ninS (Ssy.exa.ne M.exa kST_HM) nin0)))) (allS (nX I.1 kIT_BA) (allS (nX Sky.exa kST_BA) (allS (nX M.exa kHM_BA) (allS (nX M.exa kHM_BA) all0))))
  have Sey_ := Sey.keep K1 (ninS (Sey.exa.ne I.1 kST_IT) (ninS (Sey.ne Sky (by decide) (by decide) (by decide)) (ninS (Sey.exa.ne M.exa kST_HM) (ninS (Sey.exa.ne M.exa kST_HM) nin0)))) (allS (nX I.1 kIT_BA) (allS (nX Sky.exa kST_BA) (allS (nX M.exa kHM_BA) (allS (nX M.exa kHM_BA) all0))))
  have Sa1_ := Sa1.keep K1 (ninS (Sa1.exa.ne I.1 kST_IT) (ninS (Sa1.ne Sky (by decide) (by decide) (by decide)) (ninS (Sa1.exa.ne M.exa kST_HM) (ninS (Sa1.exa.ne M.exa kST_HM) nin0)))) (allS (nX I.1 kIT_BA) (allS (nX Sky.exa kST_BA) (allS (nX M.exa kHM_BA) (allS (nX M.exa kHM_BA) all0))))
  have Sa2_ := Sa2.keep K1 (ninS (Sa2.exa.ne I.1 kST_IT) (ninS (Sa2.ne Sky (by decide) (by decide) (by decide)) (ninS (Sa2.exa.ne M.exa kST_HM) (ninS (Sa2.exa.ne M.exa kST_HM) nin0)))) (allS (nX I.1 kIT_BA) (allS (nX Sky.exa kST_BA) (allS (nX M.exa kHM_BA) (allS (nX M.exa kHM_BA) all0))))
  have P_ := P.keep K1 (ninS (P.1.ne I.1 kIN_IT) (ninS (P.1.ne Sky.exa kIN_ST) (ninS (P.1.ne M.exa kIN_HM) (ninS (P.1.ne M.exa kIN_HM) nin0))))
  have A_ := A.keep K1 (ninS (A.1.ne I.1 kAL_IT) (ninS (A.1.ne Sky.exa kAL_ST) (ninS (A.1.ne M.exa kAL_HM) (ninS (A.1.ne M.exa kAL_HM) nin0)))) (ninS (A.2.2.2.2.2.1.ne I.1 kOA_IT) (ninS (A.2.2.2.2.2.1.ne Sky.exa kOA_ST) (ninS (A.2.2.2.2.2.1.ne M.exa kOA_HM) (ninS (A.2.2.2.2.2.1.ne M.exa kOA_HM) nin0))))
  have Es_ := Es.keep K1
  have Fz_ := Fz.keep K1 (ninS (Es.ne I.1 kHS_IT) (ninS (Es.ne Sky.exa kHS_ST) (ninS (Es.ne M.exa kHS_HM) (ninS (Es.ne M.exa kHS_HM) nin0))))
  have Ssy := Ssy_
  have Sey := Sey_
  have Sa1 := Sa1_
  have Sa2 := Sa2_
  have P := P_
  have A := A_
  have Es := Es_
  have Fz := Fz_
  have hk := nT hk K1.1
  have Zh := nT Zh K1.1
  have hO := hO.keep K1 (allS git (allS gky (allS gq (allS gq all0))))
  have hKp := hKp.trans K1 (allS (Or.inr zit0) (allS (mI 1 rfl) (allS (Or.inr zq0) (allS (Or.inr zq0) all0))))
  have Sky := Sn
  have M := M2
  have I := I2
  have c39 : Sx p e b0 S0 T39 (mkF m 107 (a152 i tn ky sy ey al b25 b33 it ky) []) := c37.trans (XS.astore X37.here hx rfl (D 49 rfl) rfl rfl (l' := (a151 i tn ky sy ey al b25 b33 it)) rfl (st39))
  obtain ⟨T40, L40, X40, Nf, K1, I2, Sn, ⟨tsy, gtsy, M2, ztsy⟩, st40⟩ := rmTr l Z a0 hw p e _ m _ b0 meth c T39 _ 18 137 i tn ky sy ey al b25 b33 it q tky e2 sy ky ([ky, sy, ey] ++ [a1, a2]) NN mc 1 115 ch [((31 * 107 + ch) % 16)] gg T39.heap n0 X39 hx hby hml hZ hown rfl Zh (by decide) (by decide) Nf EV hO A I rfl git Es Fz Ssy gsy (by decide) (by decide) hc M gq gtky (Nat.le_of_ble_eq_true rfl) (own_ob1 ch)
  have ytsy : h0.size ≤ tsy := ztsy.elim (fun q => q.symm ▸ ytky) (fun q => nT hKp.1 q)
  have Sky_ := Sky.keep K1 (ninS (Sky.exa.ne I.1 kST_IT) (ninS (Sky.ne Ssy (by decide) (by decide) (by decide)) (ninS (Sky.exa.ne M.exa kST_HM) (ninS (Ne.symm (M.ne Sky.exa kHM_ST kNA_ST)) nin0)))) (allS (nX I.1 kIT_BA) (allS (nX Ssy.exa kST_BA) (allS (nX M.exa kHM_BA) (allS (M.notb kHM_BA kNA_BA) all0))))
  have Sey_ := Sey.keep K1 (ninS (Sey.exa.ne I.1 kST_IT) (ninS (Sey.ne Ssy (by decide) (by decide) (by decide)) (ninS (Sey.exa.ne M.exa kST_HM) (ninS (Ne.symm (M.ne Sey.exa kHM_ST kNA_ST)) nin0)))) (allS (nX I.1 kIT_BA) (allS (nX Ssy.exa kST_BA) (allS (nX M.exa kHM_BA) (allS (M.notb kHM_BA kNA_BA) all0))))
  have Sa1_ := Sa1.keep K1 (ninS (Sa1.exa.ne I.1 kST_IT) (ninS (Sa1.ne Ssy (by decide) (by decide) (by decide)) (ninS (Sa1.exa.ne M.exa kST_HM) (ninS (Ne.symm (M.ne Sa1.exa kHM_ST kNA_ST)) nin0)))) (allS (nX I.1 kIT_BA) (allS (nX Ssy.exa kST_BA) (allS (nX M.exa kHM_BA) (allS (M.notb kHM_BA kNA_BA) all0))))
  have Sa2_ := Sa2.keep K1 (ninS (Sa2.exa.ne I.1 kST_IT) (ninS (Sa2.ne Ssy (by decide) (by decide) (by decide)) (ninS (Sa2.exa.ne M.exa kST_HM) (ninS (Ne.symm (M.ne Sa2.exa kHM_ST kNA_ST)) nin0)))) (allS (nX I.1 kIT_BA) (allS (nX Ssy.exa kST_BA) (allS (nX M.exa kHM_BA) (allS (M.notb kHM_BA kNA_BA) all0))))
  have P_ := P.keep K1 (ninS (P.1.ne I.1 kIN_IT) (ninS (P.1.ne Ssy.exa kIN_ST) (ninS (P.1.ne M.exa kIN_HM) (ninS (Ne.symm (M.ne P.1 kHM_IN kNA_IN)) nin0))))
  have A_ := A.keep K1 (ninS (A.1.ne I.1 kAL_IT) (ninS (A.1.ne Ssy.exa kAL_ST) (ninS (A.1.ne M.exa kAL_HM) (ninS (Ne.symm (M.ne A.1 kHM_AL kNA_AL)) nin0)))) (ninS (A.2.2.2.2.2.1.ne I.1 kOA_IT) (ninS (A.2.2.2.2.2.1.ne Ssy.exa kOA_ST) (ninS (A.2.2.2.2.2.1.ne M.exa kOA_HM) (ninS (Ne.symm (M.ne A.2.2.2.2.2.1 kHM_OA kNA_OA)) nin0))))
  have Es_ := Es.keep K1
  have Fz_ := Fz.keep K1 (ninS (Es.ne I.1 kHS_IT) (ninS (Es.ne Ssy.exa kHS_ST) (ninS (Es.ne M.exa kHS_HM) (ninS (Ne.symm (M.ne Es kHM_HS kNA_HS)) nin0))))
  have Sky := Sky_
  have Sey := Sey_
  have Sa1 := Sa1_
  have Sa2 := Sa2_
  have P := P_
  have A := A_
  have Es := Es_
  have Fz := Fz_
  have hk := nT hk K1.1
  have Zh := nT Zh K1.1
  have hO := hO.keep K1 (allS git (allS gsy (allS gq (allS gtky all0))))
  have hKp := hKp.trans K1 (allS (Or.inr zit0) (allS (mI 2 rfl) (allS (Or.inr zq0) (allS (Or.inr ytky) all0))))
  have Ssy := Sn
  have M := M2
  have I := I2
  have c40 : Sx p e b0 S0 T40 (mkF m 107 (a152 i tn ky sy ey al b25 b33 it sy) []) := c39.trans st40
  obtain ⟨T41, L41, X41, Nf, K1, I2, Sn, ⟨tey, gtey, M2, ztey⟩, st41⟩ := rmTr l Z a0 hw p e _ m _ b0 meth c T40 _ 20 157 i tn ky sy ey al b25 b33 it q tsy e2 ey sy ([ky, sy, ey] ++ [a1, a2]) NN mc 2 101 ch [((31 * 115 + ch) % 16), ((31 * 107 + ch) % 16)] gg T40.heap n0 X40 hx hby hml hZ hown rfl Zh (by decide) (by decide) Nf EV hO A I rfl git Es Fz Sey gey (by decide) (by decide) hc M gq gtsy (Nat.le_of_ble_eq_true rfl) (own_ob2 ch)
  have ytey : h0.size ≤ tey := ztey.elim (fun q => q.symm ▸ ytsy) (fun q => nT hKp.1 q)
  have Sky_ := Sky.keep K1 (ninS (Sky.exa.ne I.1 kST_IT) (ninS (Sky.ne Sey (by decide) (by decide) (by decide)) (ninS (Sky.exa.ne M.exa kST_HM) (ninS (Ne.symm (M.ne Sky.exa kHM_ST kNA_ST)) nin0)))) (allS (nX I.1 kIT_BA) (allS (nX Sey.exa kST_BA) (allS (nX M.exa kHM_BA) (allS (M.notb kHM_BA kNA_BA) all0))))
  have Ssy_ := Ssy.keep K1 (ninS (Ssy.exa.ne I.1 kST_IT) (ninS (Ssy.ne Sey (by decide) (by decide) (by decide)) (ninS (Ssy.exa.ne M.exa kST_HM) (ninS (Ne.symm (M.ne Ssy.exa kHM_ST kNA_ST)) nin0)))) (allS (nX I.1 kIT_BA) (allS (nX Sey.exa kST_BA) (allS (nX M.exa kHM_BA) (allS (M.notb kHM_BA kNA_BA) all0))))
  have Sa1_ := Sa1.keep K1 (ninS (Sa1.exa.ne I.1 kST_IT) (ninS (Sa1.ne Sey (by decide) (by decide) (by decide)) (ninS (Sa1.exa.ne M.exa kST_HM) (ninS (Ne.symm (M.ne Sa1.exa kHM_ST kNA_ST)) nin0)))) (allS (nX I.1 kIT_BA) (allS (nX Sey.exa kST_BA) (allS (nX M.exa kHM_BA) (allS (M.notb kHM_BA kNA_BA) all0))))
  have Sa2_ := Sa2.keep K1 (ninS (Sa2.exa.ne I.1 kST_IT) (ninS (Sa2.ne Sey (by decide) (by decide) (by decide)) (ninS (Sa2.exa.ne M.exa kST_HM) (ninS (Ne.symm (M.ne Sa2.exa kHM_ST kNA_ST)) nin0)))) (allS (nX I.1 kIT_BA) (allS (nX Sey.exa kST_BA) (allS (nX M.exa kHM_BA) (allS (M.notb kHM_BA kNA_BA) all0))))
  have P_ := P.keep K1 (ninS (P.1.ne I.1 kIN_IT) (ninS (P.1.ne Sey.exa kIN_ST) (ninS (P.1.ne M.exa kIN_HM) (ninS (Ne.symm (M.ne P.1 kHM_IN kNA_IN)) nin0))))
  have A_ := A.keep K1 (ninS (A.1.ne I.1 kAL_IT) (ninS (A.1.ne Sey.exa kAL_ST) (ninS (A.1.ne M.exa kAL_HM) (ninS (Ne.symm (M.ne A.1 kHM_AL kNA_AL)) nin0)))) (ninS (A.2.2.2.2.2.1.ne I.1 kOA_IT) (ninS (A.2.2.2.2.2.1.ne Sey.exa kOA_ST) (ninS (A.2.2.2.2.2.1.ne M.exa kOA_HM) (ninS (Ne.symm (M.ne A.2.2.2.2.2.1 kHM_OA kNA_OA)) nin0))))
  have Es_ := Es.keep K1
  have Fz_ := Fz.keep K1 (ninS (Es.ne I.1 kHS_IT) (ninS (Es.ne Sey.exa kHS_ST) (ninS (Es.ne M.exa kHS_HM) (ninS (Ne.symm (M.ne Es kHM_HS kNA_HS)) nin0))))
  have Sky := Sky_
  have Ssy := Ssy_
  have Sa1 := Sa1_
  have Sa2 := Sa2_
  have P := P_
  have A := A_
  have Es := Es_
  have Fz := Fz_
  have hk := nT hk K1.1
  have Zh := nT Zh K1.1
  have hO := hO.keep K1 (allS git (allS gey (allS gq (allS gtsy all0))))
  have hKp := hKp.trans K1 (allS (Or.inr zit0) (allS (mI 3 rfl) (allS (Or.inr zq0) (allS (Or.inr ytsy) all0))))
  have Sey := Sn
  have M := M2
  have I := I2
  have c41 : Sx p e b0 S0 T41 (mkF m 107 (a152 i tn ky sy ey al b25 b33 it ey) []) := c40.trans st41
  obtain ⟨T42, L42, X42, Nf, K1, I2, Sn, ⟨ta1, gta1, M2, zta1⟩, st42⟩ := rmTr l Z a0 hw p e _ m _ b0 meth c T41 _ 22 177 i tn ky sy ey al b25 b33 it q tey e2 a1 ey ([ky, sy, ey] ++ [a1, a2]) NN mc 3 97 ch [((31 * 101 + ch) % 16), ((31 * 115 + ch) % 16), ((31 * 107 + ch) % 16)] gg T41.heap n0 X41 hx hby hml hZ hown rfl Zh (by decide) (by decide) Nf EV hO A I rfl git Es Fz Sa1 ga1 (by decide) (by decide) hc M gq gtey (Nat.le_of_ble_eq_true rfl) (own_ob3 ch)
  have yta1 : h0.size ≤ ta1 := zta1.elim (fun q => q.symm ▸ ytey) (fun q => nT hKp.1 q)
  have Sky_ := Sky.keep K1 (ninS (Sky.exa.ne I.1 kST_IT) (ninS (Sky.ne Sa1 (by decide) (by decide) (by decide)) (ninS (Sky.exa.ne M.exa kST_HM) (ninS (Ne.symm (M.ne Sky.exa kHM_ST kNA_ST)) nin0)))) (allS (nX I.1 kIT_BA) (allS (nX Sa1.exa kST_BA) (allS (nX M.exa kHM_BA) (allS (M.notb kHM_BA kNA_BA) all0))))
  have Ssy_ := Ssy.keep K1 (ninS (Ssy.exa.ne I.1 kST_IT) (ninS (Ssy.ne Sa1 (by decide) (by decide) (by decide)) (ninS (Ssy.exa.ne M.exa kST_HM) (ninS (Ne.symm (M.ne Ssy.exa kHM_ST kNA_ST)) nin0)))) (allS (nX I.1 kIT_BA) (allS (nX Sa1.exa kST_BA) (allS (nX M.exa kHM_BA) (allS (M.notb kHM_BA kNA_BA) all0))))
  have Sey_ := Sey.keep K1 (ninS (Sey.exa.ne I.1 kST_IT) (ninS (Sey.ne Sa1 (by decide) (by decide) (by decide)) (ninS (Sey.exa.ne M.exa kST_HM) (ninS (Ne.symm (M.ne Sey.exa kHM_ST kNA_ST)) nin0)))) (allS (nX I.1 kIT_BA) (allS (nX Sa1.exa kST_BA) (allS (nX M.exa kHM_BA) (allS (M.notb kHM_BA kNA_BA) all0))))
  have Sa2_ := Sa2.keep K1 (ninS (Sa2.exa.ne I.1 kST_IT) (ninS (Sa2.ne Sa1 (by decide) (by decide) (by decide)) (ninS (Sa2.exa.ne M.exa kST_HM) (ninS (Ne.symm (M.ne Sa2.exa kHM_ST kNA_ST)) nin0)))) (allS (nX I.1 kIT_BA) (allS (nX Sa1.exa kST_BA) (allS (nX M.exa kHM_BA) (allS (M.notb kHM_BA kNA_BA) all0))))
  have P_ := P.keep K1 (ninS (P.1.ne I.1 kIN_IT) (ninS (P.1.ne Sa1.exa kIN_ST) (ninS (P.1.ne M.exa kIN_HM) (ninS (Ne.symm (M.ne P.1 kHM_IN kNA_IN)) nin0))))
  have A_ := A.keep K1 (ninS (A.1.ne I.1 kAL_IT) (ninS (A.1.ne Sa1.exa kAL_ST) (ninS (A.1.ne M.exa kAL_HM) (ninS (Ne.symm (M.ne A.1 kHM_AL kNA_AL)) nin0)))) (ninS (A.2.2.2.2.2.1.ne I.1 kOA_IT) (ninS (A.2.2.2.2.2.1.ne Sa1.exa kOA_ST) (ninS (A.2.2.2.2.2.1.ne M.exa kOA_HM) (ninS (Ne.symm (M.ne A.2.2.2.2.2.1 kHM_OA kNA_OA)) nin0))))
  have Es_ := Es.keep K1
  have Fz_ := Fz.keep K1 (ninS (Es.ne I.1 kHS_IT) (ninS (Es.ne Sa1.exa kHS_ST) (ninS (Es.ne M.exa kHS_HM) (ninS (Ne.symm (M.ne Es kHM_HS kNA_HS)) nin0))))
  have Sky := Sky_
  have Ssy := Ssy_
  have Sey := Sey_
  have Sa2 := Sa2_
  have P := P_
  have A := A_
  have Es := Es_
  have Fz := Fz_
  have hk := nT hk K1.1
  have Zh := nT Zh K1.1
  have hO := hO.keep K1 (allS git (allS ga1 (allS gq (allS gtey all0))))
  have hKp := hKp.trans K1 (allS (Or.inr zit0) (allS (mI 4 rfl) (allS (Or.inr zq0) (allS (Or.inr ytey) all0))))
  have Sa1 := Sn
  have M := M2
  have I := I2
  have c42 : Sx p e b0 S0 T42 (mkF m 107 (a152 i tn ky sy ey al b25 b33 it a1) []) := c41.trans st42
  obtain ⟨T43, L43, X43, Nf, K1, I2, Sn, ⟨ta2, gta2, M2, zta2⟩, st43⟩ := rmTr l Z a0 hw p e _ m _ b0 meth c T42 _ 24 197 i tn ky sy ey al b25 b33 it q ta1 e2 a2 a1 ([ky, sy, ey] ++ [a1, a2]) NN mc 4 98 ch [((31 * 97 + ch) % 16), ((31 * 101 + ch) % 16), ((31 * 115 + ch) % 16), ((31 * 107 + ch) % 16)] gg T42.heap n0 X42 hx hby hml hZ hown rfl Zh (by decide) (by decide) Nf EV hO A I rfl git Es Fz Sa2 ga2 (by decide) (by decide) hc M gq gta1 (Nat.le_of_ble_eq_true rfl) (own_ob4 ch)
  have yta2 : h0.size ≤ ta2 := zta2.elim (fun q => q.symm ▸ yta1) (fun q => nT hKp.1 q)
  have Sky_ := Sky.keep K1 (ninS (Sky.exa.ne I.1 kST_IT) (ninS (Sky.ne Sa2 (by decide) (by decide) (by decide)) (ninS (Sky.exa.ne M.exa kST_HM) (ninS (Ne.symm (M.ne Sky.exa kHM_ST kNA_ST)) nin0)))) (allS (nX I.1 kIT_BA) (allS (nX Sa2.exa kST_BA) (allS (nX M.exa kHM_BA) (allS (M.notb kHM_BA kNA_BA) all0))))
  have Ssy_ := Ssy.keep K1 (ninS (Ssy.exa.ne I.1 kST_IT) (ninS (Ssy.ne Sa2 (by decide) (by decide) (by decide)) (ninS (Ssy.exa.ne M.exa kST_HM) (ninS (Ne.symm (M.ne Ssy.exa kHM_ST kNA_ST)) nin0)))) (allS (nX I.1 kIT_BA) (allS (nX Sa2.exa kST_BA) (allS (nX M.exa kHM_BA) (allS (M.notb kHM_BA kNA_BA) all0))))
  have Sey_ := Sey.keep K1 (ninS (Sey.exa.ne I.1 kST_IT) (ninS (Sey.ne Sa2 (by decide) (by decide) (by decide)) (ninS (Sey.exa.ne M.exa kST_HM) (ninS (Ne.symm (M.ne Sey.exa kHM_ST kNA_ST)) nin0)))) (allS (nX I.1 kIT_BA) (allS (nX Sa2.exa kST_BA) (allS (nX M.exa kHM_BA) (allS (M.notb kHM_BA kNA_BA) all0))))
  have Sa1_ := Sa1.keep K1 (ninS (Sa1.exa.ne I.1 kST_IT) (ninS (Sa1.ne Sa2 (by decide) (by decide) (by decide)) (ninS (Sa1.exa.ne M.exa kST_HM) (ninS (Ne.symm (M.ne Sa1.exa kHM_ST kNA_ST)) nin0)))) (allS (nX I.1 kIT_BA) (allS (nX Sa2.exa kST_BA) (allS (nX M.exa kHM_BA) (allS (M.notb kHM_BA kNA_BA) all0))))
  have P_ := P.keep K1 (ninS (P.1.ne I.1 kIN_IT) (ninS (P.1.ne Sa2.exa kIN_ST) (ninS (P.1.ne M.exa kIN_HM) (ninS (Ne.symm (M.ne P.1 kHM_IN kNA_IN)) nin0))))
  have A_ := A.keep K1 (ninS (A.1.ne I.1 kAL_IT) (ninS (A.1.ne Sa2.exa kAL_ST) (ninS (A.1.ne M.exa kAL_HM) (ninS (Ne.symm (M.ne A.1 kHM_AL kNA_AL)) nin0)))) (ninS (A.2.2.2.2.2.1.ne I.1 kOA_IT) (ninS (A.2.2.2.2.2.1.ne Sa2.exa kOA_ST) (ninS (A.2.2.2.2.2.1.ne M.exa kOA_HM) (ninS (Ne.symm (M.ne A.2.2.2.2.2.1 kHM_OA kNA_OA)) nin0))))
  have Es_ := Es.keep K1
  have Fz_ := Fz.keep K1 (ninS (Es.ne I.1 kHS_IT) (ninS (Es.ne Sa2.exa kHS_ST) (ninS (Es.ne M.exa kHS_HM) (ninS (Ne.symm (M.ne Es kHM_HS kNA_HS)) nin0))))
  have Sky := Sky_
  have Ssy := Ssy_
  have Sey := Sey_
  have Sa1 := Sa1_
  have P := P_
  have A := A_
  have Es := Es_
  have Fz := Fz_
  have hk := nT hk K1.1
  have Zh := nT Zh K1.1
  have hO := hO.keep K1 (allS git (allS ga2 (allS gq (allS gta1 all0))))
  have hKp := hKp.trans K1 (allS (Or.inr zit0) (allS (mI 5 rfl) (allS (Or.inr zq0) (allS (Or.inr yta1) all0))))
  have Sa2 := Sn
  have M := M2
  have I := I2
  have c43 : Sx p e b0 S0 T43 (mkF m 107 (a152 i tn ky sy ey al b25 b33 it a2) []) := c42.trans st43
  obtain ⟨cq45, kq45, q45a, q45b, q45c⟩ := isOf hZ rfl I.1
  obtain ⟨_, _, ⟨T45, L45, k45, n45⟩, -, X45, ⟨Lc45, hQ45, l45, y45, z45⟩, st45⟩ := X43.interfaceBack hx (xi := yM73) (y := yM46) (C := "java/util/ArrayList$Itr") hown (mvT hZ (Hw 275 rfl)) (mvT hZ (Hw 276 rfl)) (mvT hZ (Hw 277 rfl)) (mvT hZ (Hw 278 rfl)) (mvT hZ (Hw 279 rfl)) (mvT hZ (Hw 280 rfl)) (mvT hZ (Hw 281 rfl)) (mvT hZ (Hw 282 rfl)) (by decide) (backOf (W := 0) (rmH0 l Z a0 hw [] it b25 e2 ([ky, sy, ey] ++ [a1, a2]) NN mc 5 T43.heap n0 Zh I A rfl) hZ (Hw 283 rfl) (Hw 262 rfl) (by decide) (by decide)) q45a q45b q45c (g := (mkF m 109 (a152 i tn ky sy ey al b25 b33 it a2) [(.ref it)])) rfl hml.symm (Steps.refl _) (argsL := []) (rest := []) (lenOf pd23 rfl) rfl (nE rfl) (D 51 rfl) (fun _ _ => ⟨rfl, rfl, (by decide : 26 + 0 ≤ _), (by decide : 217 + 0 ≤ _)⟩)
  dsimp only [Pt.U, Pt.locs, Pt.cells, Pt.slots] at X45 l45 y45 z45 st45 hQ45
  subst l45 y45 z45
  obtain ⟨rfl, N1, e1⟩ := hQ45
  have c45 : Sx p e b0 S0 T45 (mkF m 114 (a152 i tn ky sy ey al b25 b33 it a2) [(.int J0)]) := c43.trans (qa X43 hx rfl (D 50 rfl) rfl rfl (st45))
  have Nf := Fr.app Nf N1
  have Lf := Lr.keep hKp hal1 hal2
  obtain ⟨fs, hr, r1, r2, hW⟩ := X45.leaveW hS (by rw [e1]; exact hk) (v := none) (fun _ => rfl)
  refine ⟨_, _, c45.trans ?_, r1, r2, _, _, rfl, ?_, hW.1, hW.2.1, hW.2.2.1, hW.2.2.2.mono (by decide) (by decide)⟩
  · refine XS.ifYes X45.here hx rfl (pc0 := 114) (pc' := 157) rfl (D 52 rfl) rfl ((if0 _ _).trans (teq rfl).1) (by decide) (by decide) ?_
    exact X45.returnOut hx hret (D 62 rfl) hr
  · show QIi2 Z i tn al ky sy ey a1 a2 ch gg h0 n0 _ T45.heap _
    rw [e1]
    exact ⟨rfl, Nf, hKp, P.1, P.2.1, P.2.2.1, P.2.2.2.1, P.2.2.2.2.1, P.2.2.2.2.2.1, P.2.2.2.2.2.2, Lf, Sky, Ssy, Sey, Sa1, Sa2⟩
def QTb (Z : State) (tn ky sy ey : Addr) (ch : Nat) (gg : own_G) (h0 : Heap) (n0 : Nat) (v : Option Value) (h : Heap) (L : List Loc) : Prop := (∃ r : Addr, v = some (.ref r) ∧ h0.size ≤ r ∧ Exa Z h r "com/example/spanfold/spanfold/Input" ∧ Fld Z h r "com/example/spanfold/spanfold/Input" "table" "Ljava/lang/String;" (.ref tn) ∧ Fld Z h r "com/example/spanfold/spanfold/Input" "query" "Ljava/lang/String;" .null ∧ Fld Z h r "com/example/spanfold/spanfold/Input" "key" "Ljava/lang/String;" (.ref ky) ∧ Fld Z h r "com/example/spanfold/spanfold/Input" "start" "Ljava/lang/String;" (.ref sy) ∧ Fld Z h r "com/example/spanfold/spanfold/Input" "end" "Ljava/lang/String;" (.ref ey) ∧ Fld Z h r "com/example/spanfold/spanfold/Input" "attributes" "Ljava/util/List;" (.ref gg.el) ∧ own_Lst Z gg h gg.el [] ∧ own_S2 Z h ky 107 ch ∧ own_S2 Z h sy 115 ch ∧ own_S2 Z h ey 101 ch) ∧ Fr n0 L ∧ Keep h0 h [ky, sy, ey]
theorem rmTb (l : Launch) (Z : State) (a0 : Array Value) (hw : HW a0 Z) (ws : List Jvm.Cond) (tn ky sy ey : Addr) (ch : Nat) (gg : own_G) (h0 : Heap) (n0 : Nat) (Z0 : n0 ≤ h0.size) (EV : own_Env Z gg) (X00 : Old Z n0 h0) (Sky : own_S2 Z h0 ky 107 ch) (Ssy : own_S2 Z h0 sy 115 ch) (Sey : own_S2 Z h0 ey 101 ch) (gky : n0 ≤ ky) (gsy : n0 ≤ sy) (gey : n0 ≤ ey) (hc : ch < 256) :
    own_MW l yM76 prog_11_method_2_code 4 (some (.object "com/example/spanfold/spanfold/Input")) ws (rK 9 29 272 165) #[(.ref tn), (.ref ky), (.ref sy), (.ref ey)] Z h0 (QTb Z tn ky sy ey ch gg h0 n0) := by
  refine own_openW (plainFor_of_name pn2) dB72 fun p e s m b0 meth c s₁ S0 hx D hby hml hown hnm hret hlk hZ X0 e0 c0 => ?_
  replace c0 : Sx p e b0 S0 s₁ (mkF m 0 (a156 tn ky sy ey) []) := c0
  have Hw := @own_Hw _ _ hw
  have N0 := Fr.nil n0
  obtain ⟨V0, hV0⟩ : ∃ V, V = s.vm := ⟨_, rfl⟩
  have Xs : Stand p l e (rK 9 29 272 165) (s.setVm V0) m #[(.ref tn), (.ref ky), (.ref sy), (.ref ey)] b0 meth c s₁ [] 0 0 := by subst hV0; exact X0
  have hS : s.Since V0 h0.size := by subst hV0; exact (State.WarmedH.refl s).since _
  replace hZ : Z.Warmed39 (s.setVm V0).vm := by subst hV0; exact hZ
  replace hown : (s.setVm V0).vm.findClass "com/example/spanfold/spanfold/Input" = some m.cls := by subst hV0; exact hown
  have hk : h0.size ≤ h0.size := Nat.le_refl _
  have Zh := Z0
  have Nf := N0
  have hO := X00
  have hKp := Keep.refl h0 [ky, sy, ey]
  obtain ⟨q2, T2, h2, k2, X2, e2, E2, hS, hk, hZ, hown, st2⟩ := ldcS Xs hx hZ hown (Hw 56 rfl) (own_wS hw) e0 hS hk (g := (mkF m 1 (a156 tn ky sy ey) [(.ref tn)])) rfl (D 1 rfl) (n := 20) (by decide) (by decide) (by decide) (by decide)
  have c2 : Sx p e b0 S0 T2 (mkF m 3 (a156 tn ky sy ey) [(.ref q2), (.ref tn)]) := c0.trans (qA Xs hx rfl (D 0 rfl) rfl rfl (st2 _ (Steps.refl _)))
  have Sky := Sky.ext E2
  have Ssy := Ssy.ext E2
  have Sey := Sey.ext E2
  have Zh := nT Zh E2.1
  have hO := hO.ext E2
  have hKp := hKp.ext E2
  obtain ⟨_, _, ⟨T3, L3, k3, n3⟩, -, X3, ⟨Lc3, hQ3, l3, y3, z3⟩, st3⟩ := Jvm.LawKit.callS X2 hx (y := yM1) hown (mvT hZ (Hw 59 rfl)) (mvT hZ (Hw 60 rfl)) (mvT hZ (Hw 61 rfl)) (mvT hZ (Hw 62 rfl)) (by decide) (backOf (W := 0) (rmR2 l Z a0 hw [] tn q2 h2 n0 Zh) hZ (Hw 62 rfl) (Hw 61 rfl) (by decide) (by decide)) (g := (mkF m 3 (a156 tn ky sy ey) [(.ref q2), (.ref tn)])) rfl hml.symm (argsL := [(.ref tn), (.ref q2)]) (rest := []) (lenOf pd36 rfl) rfl (nE rfl) (D 2 rfl) (fun _ _ => ⟨rfl, e2, (by decide : 2 + 0 ≤ _), (by decide : 24 + 0 ≤ _)⟩)
  dsimp only [Pt.U, Pt.locs, Pt.cells, Pt.slots] at X3 l3 y3 z3 st3 hQ3
  subst l3 y3 z3
  obtain ⟨rfl, N1, e1⟩ := hQ3
  have c3 : Sx p e b0 S0 T3 (mkF m 6 (a156 tn ky sy ey) [(.ref tn)]) := c2.trans (st3 _ (Steps.refl _))
  have Nf := Fr.app Nf N1
  obtain ⟨T5, h5, X5, e5, E5, A5, D5, -, st5⟩ := newO X3 hx hZ hown (Hw 63 rfl) (Hw 64 rfl) (Hw 54 rfl) e1 (g := (mkF m 7 (a156 tn ky sy ey) [])) rfl (D 4 rfl) (by decide) (by decide)
  obtain ⟨b5, g5⟩ : ∃ z, z = h2.size := ⟨_, rfl⟩
  rw [← g5] at A5 D5 st5
  have c5 : Sx p e b0 S0 T5 (mkF m 10 (a156 tn ky sy ey) [(.ref b5)]) := c3.trans (XS.pop X3.here hx rfl (D 3 rfl) rfl rfl (st5 _ (Steps.refl _)))
  have zb : h0.size ≤ b5 := nT hKp.1 (nE g5.symm)
  have gb : n0 ≤ b5 := nT Z0 zb
  have Sky := Sky.ext E5
  have Ssy := Ssy.ext E5
  have Sey := Sey.ext E5
  have hk := nT hk E5.1
  have Zh := nT Zh E5.1
  have hO := hO.ext E5
  have hKp := hKp.ext E5
  have Ei := A5
  have Gt : Fld Z h5 b5 "com/example/spanfold/spanfold/Input" "table" "Ljava/lang/String;" .null := D5 (Or.inr (Hw 81 rfl)) (ty := (.object "java/lang/String")) (by decide)
  have Gq : Fld Z h5 b5 "com/example/spanfold/spanfold/Input" "query" "Ljava/lang/String;" .null := D5 (Or.inr (Hw 83 rfl)) (ty := (.object "java/lang/String")) (by decide)
  have Gk : Fld Z h5 b5 "com/example/spanfold/spanfold/Input" "key" "Ljava/lang/String;" .null := D5 (Or.inr (Hw 87 rfl)) (ty := (.object "java/lang/String")) (by decide)
  have Gs : Fld Z h5 b5 "com/example/spanfold/spanfold/Input" "start" "Ljava/lang/String;" .null := D5 (Or.inr (Hw 90 rfl)) (ty := (.object "java/lang/String")) (by decide)
  have Ge : Fld Z h5 b5 "com/example/spanfold/spanfold/Input" "end" "Ljava/lang/String;" .null := D5 (Or.inr (Hw 93 rfl)) (ty := (.object "java/lang/String")) (by decide)
  have Ga : Fld Z h5 b5 "com/example/spanfold/spanfold/Input" "attributes" "Ljava/util/List;" .null := D5 (Or.inr (Hw 113 rfl)) (ty := (.object "java/util/List")) (by decide)
  obtain ⟨_, _, ⟨T7, L7, k7, n7⟩, -, X7, ⟨Lc7, hQ7, l7, y7, z7⟩, st7⟩ := Jvm.LawKit.callS X5 hx (y := yM22) hown (mvT hZ (Hw 65 rfl)) (mvT hZ (Hw 66 rfl)) (mvT hZ (Hw 67 rfl)) (mvT hZ (Hw 68 rfl)) (by decide) (backOf (W := 7) (rmO0 l Z a0 hw [] gg h5 n0 Zh EV hO) hZ (Hw 68 rfl) (Hw 67 rfl) (by decide) (by decide)) (g := (mkF m 16 (a156 tn ky sy ey) [(.ref ey), (.ref sy), (.ref ky), .null, (.ref tn), (.ref b5), (.ref b5)])) rfl hml.symm (argsL := []) (rest := [(.ref ey), (.ref sy), (.ref ky), .null, (.ref tn), (.ref b5), (.ref b5)]) (lenOf pd41 rfl) rfl (nE rfl) (D 11 rfl) (fun _ _ => ⟨rfl, e5, (by decide : 3 + 0 ≤ _), (by decide : 30 + 0 ≤ _)⟩)
  dsimp only [Pt.U, Pt.locs, Pt.cells, Pt.slots] at X7 l7 y7 z7 st7 hQ7
  subst l7 y7 z7
  obtain ⟨rfl, N1, e1⟩ := hQ7
  have c7 : Sx p e b0 S0 T7 (mkF m 19 (a156 tn ky sy ey) [(.ref gg.el), (.ref ey), (.ref sy), (.ref ky), .null, (.ref tn), (.ref b5), (.ref b5)]) := c5.trans (XS.dup X5.here hx rfl (D 5 rfl) rfl rfl (qA X5 hx rfl (D 6 rfl) rfl rfl (XS.aconstNull X5.here hx rfl (D 7 rfl) (qA X5 hx rfl (D 8 rfl) rfl rfl (qA X5 hx rfl (D 9 rfl) rfl rfl (qA X5 hx rfl (D 10 rfl) rfl rfl (st7 _ (Steps.refl _))))))))
  have Nf := Fr.app Nf N1
  obtain ⟨_, _, ⟨T8, L8, k8, n8⟩, -, X8, hS8, hge8, ⟨Lc8, hQ8, l8, y8, z8⟩, st8⟩ := X7.specialBackS hx (y := yM75) rfl hown (mvT hZ (Hw 71 rfl)) (mvT hZ (Hw 72 rfl)) (mvT hZ (Hw 73 rfl)) (by decide) (backOfS (W := 1) (rmIi0 l Z a0 hw [] b5 tn gg.el ky sy ey ch gg h5 n0 Zh EV hO Ei Gt Gq Gk Gs Ge Ga gb Sky Ssy Sey gky gsy gey (EV.ell.ext hO.2) hc) hZ (Hw 73 rfl) (Hw 54 rfl) (by decide) (by decide)) (g := (mkF m 19 (a156 tn ky sy ey) [(.ref gg.el), (.ref ey), (.ref sy), (.ref ky), .null, (.ref tn), (.ref b5), (.ref b5)])) rfl hml.symm (Steps.refl _) (a := b5) (argsL := [(.ref tn), .null, (.ref ky), (.ref sy), (.ref ey), (.ref gg.el)]) (rest := [(.ref b5)]) (lenOf pd42 rfl) rfl (nE rfl) (D 12 rfl) (fun _ _ => ⟨rfl, e1, (by decide : 3 + 26 ≤ _), (by decide : 30 + 240 ≤ _)⟩)
  dsimp only [Pt.U, Pt.locs, Pt.cells, Pt.slots] at X8 l8 y8 z8 st8 hQ8 hS8 hge8
  subst l8 y8 z8
  obtain ⟨X8, hS, hZ, hown⟩ := rebS hS (by rw [e1]; exact hk) X8 hS8 hge8 hZ hown
  have hk : T8.heap.size ≤ T8.heap.size := Nat.le_refl _
  obtain ⟨rfl, N1, K1, D1⟩ := hQ8
  have c8 : Sx p e b0 S0 T8 (mkF m 22 (a156 tn ky sy ey) [(.ref b5)]) := c7.trans st8
  have Nf := Fr.app Nf N1
  have Zh := nT Zh K1.1
  have hO := hO.keep K1 (allS gb (allS gky (allS gsy (allS gey all0))))
  have hKp := hKp.trans K1 (allS (Or.inr zb) (allS (mI 0 rfl) (allS (mI 1 rfl) (allS (mI 2 rfl) all0))))
  obtain ⟨fs, hr, r1, r2, hW⟩ := X8.leaveW hS hk (v := some (.ref b5)) (nV hret)
  refine ⟨_, _, c8.trans ?_, r1, r2, _, _, rfl, ?_, hW.1, hW.2.1, hW.2.2.1, hW.2.2.2.mono (by decide) (by decide)⟩
  · exact retA X8 hx hret rfl rfl (D 13 rfl) hr
  · show QTb Z tn ky sy ey ch gg h0 n0 _ T8.heap _
    exact ⟨⟨_, rfl, zb, by simpa only [and_assoc] using D1⟩, Nf, hKp⟩
def QWa1 (Z : State) (i t : Addr) (kt : ClassId) (tn ky sy ey a1 : Addr) (ch : Nat) (gg : own_G) (h0 : Heap) (n0 : Nat) (v : Option Value) (h : Heap) (L : List Loc) : Prop := (∃ r : Addr, v = some (.ref r) ∧ h0.size ≤ r ∧ own_In Z gg h r 1) ∧ Fr n0 L ∧ Keep h0 h [ky, sy, ey, a1]
theorem rmWa1 (l : Launch) (Z : State) (a0 : Array Value) (hw : HW a0 Z) (ws : List Jvm.Cond) (i t : Addr) (kt : ClassId) (tn ky sy ey a1 : Addr) (ch : Nat) (gg : own_G) (h0 : Heap) (n0 : Nat) (Z0 : n0 ≤ h0.size) (EV : own_Env Z gg) (X00 : Old Z n0 h0) (Bi : Exa Z h0 i "com/example/spanfold/spanfold/Input") (Bt : Fld Z h0 i "com/example/spanfold/spanfold/Input" "table" "Ljava/lang/String;" (.ref tn)) (Bq : Fld Z h0 i "com/example/spanfold/spanfold/Input" "query" "Ljava/lang/String;" .null) (Bk : Fld Z h0 i "com/example/spanfold/spanfold/Input" "key" "Ljava/lang/String;" (.ref ky)) (Bs : Fld Z h0 i "com/example/spanfold/spanfold/Input" "start" "Ljava/lang/String;" (.ref sy)) (Be : Fld Z h0 i "com/example/spanfold/spanfold/Input" "end" "Ljava/lang/String;" (.ref ey)) (Sky : own_S2 Z h0 ky 107 ch) (Ssy : own_S2 Z h0 sy 115 ch) (Sey : own_S2 Z h0 ey 101 ch) (Sa1 : own_S2 Z h0 a1 97 ch) (gky : n0 ≤ ky) (gsy : n0 ≤ sy) (gey : n0 ≤ ey) (ga1 : n0 ≤ a1) (Vt : Arv Z h0 t kt (.object "java/lang/String") J1 [.ref a1] .null) (hc : ch < 256) :
    own_MW l yM77 prog_11_method_4_code 2 (some (.object "com/example/spanfold/spanfold/Input")) ws (rK 9 31 300 170) #[(.ref i), (.ref t)] Z h0 (QWa1 Z i t kt tn ky sy ey a1 ch gg h0 n0) := by
  refine own_openW (plainFor_of_name pn2) dB73 fun p e s m b0 meth c s₁ S0 hx D hby hml hown hnm hret hlk hZ X0 e0 c0 => ?_
  replace c0 : Sx p e b0 S0 s₁ (mkF m 0 #[vR i, vR t] []) := c0
  have Hw := @own_Hw _ _ hw
  have N0 := Fr.nil n0
  obtain ⟨V0, hV0⟩ : ∃ V, V = s.vm := ⟨_, rfl⟩
  have Xs : Stand p l e (rK 9 31 300 170) (s.setVm V0) m #[(.ref i), (.ref t)] b0 meth c s₁ [] 0 0 := by subst hV0; exact X0
  have hS : s.Since V0 h0.size := by subst hV0; exact (State.WarmedH.refl s).since _
  replace hZ : Z.Warmed39 (s.setVm V0).vm := by subst hV0; exact hZ
  replace hown : (s.setVm V0).vm.findClass "com/example/spanfold/spanfold/Input" = some m.cls := by subst hV0; exact hown
  have hk : h0.size ≤ h0.size := Nat.le_refl _
  have Zh := Z0
  have Nf := N0
  have hO := X00
  have hKp := Keep.refl h0 [ky, sy, ey, a1]
  obtain ⟨q2, T2, h2, k2, X2, e2, E2, hS, hk, hZ, hown, st2⟩ := ldcS Xs hx hZ hown (Hw 524 rfl) (own_wS hw) e0 hS hk (g := (mkF m 1 #[vR i, vR t] [(.ref t)])) rfl (D 1 rfl) (n := 40) (by decide) (by decide) (by decide) (by decide)
  have c2 : Sx p e b0 S0 T2 (mkF m 3 #[vR i, vR t] [(.ref q2), (.ref t)]) := c0.trans (qA Xs hx rfl (D 0 rfl) rfl rfl (st2 _ (Steps.refl _)))
  have Sky := Sky.ext E2
  have Ssy := Ssy.ext E2
  have Sey := Sey.ext E2
  have Sa1 := Sa1.ext E2
  have Bt := Bt.ext E2
  have Bq := Bq.ext E2
  have Bk := Bk.ext E2
  have Bs := Bs.ext E2
  have Be := Be.ext E2
  have Vt := Vt.ext E2
  have Zh := nT Zh E2.1
  have hO := hO.ext E2
  have hKp := hKp.ext E2
  obtain ⟨_, _, ⟨T3, L3, k3, n3⟩, -, X3, ⟨Lc3, hQ3, l3, y3, z3⟩, st3⟩ := Jvm.LawKit.callS X2 hx (y := yM1) hown (mvT hZ (Hw 59 rfl)) (mvT hZ (Hw 60 rfl)) (mvT hZ (Hw 61 rfl)) (mvT hZ (Hw 62 rfl)) (by decide) (backOf (W := 0) (rmR2 l Z a0 hw [] t q2 h2 n0 Zh) hZ (Hw 62 rfl) (Hw 61 rfl) (by decide) (by decide)) (g := (mkF m 3 #[vR i, vR t] [(.ref q2), (.ref t)])) rfl hml.symm (argsL := [(.ref t), (.ref q2)]) (rest := []) (lenOf pd36 rfl) rfl (nE rfl) (D 2 rfl) (fun _ _ => ⟨rfl, e2, (by decide : 2 + 0 ≤ _), (by decide : 44 + 0 ≤ _)⟩)
  dsimp only [Pt.U, Pt.locs, Pt.cells, Pt.slots] at X3 l3 y3 z3 st3 hQ3
  subst l3 y3 z3
  obtain ⟨rfl, N1, e1⟩ := hQ3
  have c3 : Sx p e b0 S0 T3 (mkF m 6 #[vR i, vR t] [(.ref t)]) := c2.trans (st3 _ (Steps.refl _))
  have Nf := Fr.app Nf N1
  obtain ⟨T5, h5, X5, e5, E5, A5, D5, -, st5⟩ := newO X3 hx hZ hown (Hw 63 rfl) (Hw 64 rfl) (Hw 54 rfl) e1 (g := (mkF m 7 #[vR i, vR t] [])) rfl (D 4 rfl) (by decide) (by decide)
  obtain ⟨b5, g5⟩ : ∃ z, z = h2.size := ⟨_, rfl⟩
  rw [← g5] at A5 D5 st5
  have c5 : Sx p e b0 S0 T5 (mkF m 10 #[vR i, vR t] [(.ref b5)]) := c3.trans (XS.pop X3.here hx rfl (D 3 rfl) rfl rfl (st5 _ (Steps.refl _)))
  have zb : h0.size ≤ b5 := nT hKp.1 (nE g5.symm)
  have gb : n0 ≤ b5 := nT Z0 zb
  have Sky := Sky.ext E5
  have Ssy := Ssy.ext E5
  have Sey := Sey.ext E5
  have Sa1 := Sa1.ext E5
  have Bt := Bt.ext E5
  have Bq := Bq.ext E5
  have Bk := Bk.ext E5
  have Bs := Bs.ext E5
  have Be := Be.ext E5
  have Vt := Vt.ext E5
  have hk := nT hk E5.1
  have Zh := nT Zh E5.1
  have hO := hO.ext E5
  have hKp := hKp.ext E5
  have Ei := A5
  have Gt : Fld Z h5 b5 "com/example/spanfold/spanfold/Input" "table" "Ljava/lang/String;" .null := D5 (Or.inr (Hw 81 rfl)) (ty := (.object "java/lang/String")) (by decide)
  have Gq : Fld Z h5 b5 "com/example/spanfold/spanfold/Input" "query" "Ljava/lang/String;" .null := D5 (Or.inr (Hw 83 rfl)) (ty := (.object "java/lang/String")) (by decide)
  have Gk : Fld Z h5 b5 "com/example/spanfold/spanfold/Input" "key" "Ljava/lang/String;" .null := D5 (Or.inr (Hw 87 rfl)) (ty := (.object "java/lang/String")) (by decide)
  have Gs : Fld Z h5 b5 "com/example/spanfold/spanfold/Input" "start" "Ljava/lang/String;" .null := D5 (Or.inr (Hw 90 rfl)) (ty := (.object "java/lang/String")) (by decide)
  have Ge : Fld Z h5 b5 "com/example/spanfold/spanfold/Input" "end" "Ljava/lang/String;" .null := D5 (Or.inr (Hw 93 rfl)) (ty := (.object "java/lang/String")) (by decide)
  have Ga : Fld Z h5 b5 "com/example/spanfold/spanfold/Input" "attributes" "Ljava/util/List;" .null := D5 (Or.inr (Hw 113 rfl)) (ty := (.object "java/util/List")) (by decide)
  obtain ⟨T7, X7, e7, st7⟩ := getF X5 hx hZ hown (host := "") (Or.inl (Hw 80 rfl)) Via.refl e5 Bt (g := (mkF m 12 #[vR i, vR t] [(.ref i), (.ref b5), (.ref b5)])) rfl rfl (D 7 rfl)
  have c7 : Sx p e b0 S0 T7 (mkF m 15 #[vR i, vR t] [(.ref tn), (.ref b5), (.ref b5)]) := c5.trans (XS.dup X5.here hx rfl (D 5 rfl) rfl rfl (qA X5 hx rfl (D 6 rfl) rfl rfl (st7 _ (Steps.refl _))))
  obtain ⟨T9, X9, e9, st9⟩ := getF X7 hx hZ hown (host := "") (Or.inl (Hw 82 rfl)) Via.refl e7 Bq (g := (mkF m 16 #[vR i, vR t] [(.ref i), (.ref tn), (.ref b5), (.ref b5)])) rfl rfl (D 9 rfl)
  have c9 : Sx p e b0 S0 T9 (mkF m 19 #[vR i, vR t] [.null, (.ref tn), (.ref b5), (.ref b5)]) := c7.trans (qA X7 hx rfl (D 8 rfl) rfl rfl (st9 _ (Steps.refl _)))
  obtain ⟨T11, X11, e11, st11⟩ := getF X9 hx hZ hown (host := "") (Or.inl (Hw 86 rfl)) Via.refl e9 Bk (g := (mkF m 20 #[vR i, vR t] [(.ref i), .null, (.ref tn), (.ref b5), (.ref b5)])) rfl rfl (D 11 rfl)
  have c11 : Sx p e b0 S0 T11 (mkF m 23 #[vR i, vR t] [(.ref ky), .null, (.ref tn), (.ref b5), (.ref b5)]) := c9.trans (qA X9 hx rfl (D 10 rfl) rfl rfl (st11 _ (Steps.refl _)))
  obtain ⟨T13, X13, e13, st13⟩ := getF X11 hx hZ hown (host := "") (Or.inl (Hw 89 rfl)) Via.refl e11 Bs (g := (mkF m 24 #[vR i, vR t] [(.ref i), (.ref ky), .null, (.ref tn), (.ref b5), (.ref b5)])) rfl rfl (D 13 rfl)
  have c13 : Sx p e b0 S0 T13 (mkF m 27 #[vR i, vR t] [(.ref sy), (.ref ky), .null, (.ref tn), (.ref b5), (.ref b5)]) := c11.trans (qA X11 hx rfl (D 12 rfl) rfl rfl (st13 _ (Steps.refl _)))
  obtain ⟨T15, X15, e15, st15⟩ := getF X13 hx hZ hown (host := "") (Or.inl (Hw 92 rfl)) Via.refl e13 Be (g := (mkF m 28 #[vR i, vR t] [(.ref i), (.ref sy), (.ref ky), .null, (.ref tn), (.ref b5), (.ref b5)])) rfl rfl (D 15 rfl)
  have c15 : Sx p e b0 S0 T15 (mkF m 31 #[vR i, vR t] [(.ref ey), (.ref sy), (.ref ky), .null, (.ref tn), (.ref b5), (.ref b5)]) := c13.trans (qA X13 hx rfl (D 14 rfl) rfl rfl (st15 _ (Steps.refl _)))
  obtain ⟨_, _, ⟨T17, L17, k17, n17⟩, -, X17, ⟨Lc17, hQ17, l17, y17, z17⟩, st17⟩ := Jvm.LawKit.callS X15 hx (y := yM27) hown (mvT hZ (Hw 525 rfl)) (mvT hZ (Hw 503 rfl)) (mvT hZ (Hw 67 rfl)) (mvT hZ (Hw 504 rfl)) (by decide) (backOf (W := 7) (rmOf1 l Z a0 hw [] t kt "java/lang/String" a1 gg h5 n0 Zh EV hO Vt) hZ (Hw 504 rfl) (Hw 67 rfl) (by decide) (by decide)) (g := (mkF m 32 #[vR i, vR t] [(.ref t), (.ref ey), (.ref sy), (.ref ky), .null, (.ref tn), (.ref b5), (.ref b5)])) rfl hml.symm (argsL := [(.ref t)]) (rest := [(.ref ey), (.ref sy), (.ref ky), .null, (.ref tn), (.ref b5), (.ref b5)]) (lenOf pd7 rfl) rfl (nE rfl) (D 17 rfl) (fun _ _ => ⟨rfl, e15, (by decide : 3 + 2 ≤ _), (by decide : 50 + 5 ≤ _)⟩)
  dsimp only [Pt.U, Pt.locs, Pt.cells, Pt.slots] at X17 l17 y17 z17 st17 hQ17
  subst l17 y17 z17
  obtain ⟨⟨r2, rfl, zr2, L1, L2, L3⟩, N1, K1⟩ := hQ17
  have c17 : Sx p e b0 S0 T17 (mkF m 35 #[vR i, vR t] [(.ref r2), (.ref ey), (.ref sy), (.ref ky), .null, (.ref tn), (.ref b5), (.ref b5)]) := c15.trans (qA X15 hx rfl (D 16 rfl) rfl rfl (st17 _ (Steps.refl _)))
  have Sky_ := Sky.keep K1 nin0 all0
  have Ssy_ := Ssy.keep K1 nin0 all0
  have Sey_ := Sey.keep K1 nin0 all0
  have Sa1_ := Sa1.keep K1 nin0 all0
  have Sky := Sky_
  have Ssy := Ssy_
  have Sey := Sey_
  have Sa1 := Sa1_
  have Ei := Ei.keep K1
  have Gt := Gt.keep K1 nin0
  have Gq := Gq.keep K1 nin0
  have Gk := Gk.keep K1 nin0
  have Gs := Gs.keep K1 nin0
  have Ge := Ge.keep K1 nin0
  have Ga := Ga.keep K1 nin0
  have Nf := Fr.app Nf N1
  have hk := nT hk K1.1
  have Zh := nT Zh K1.1
  have hO := hO.keep K1 all0
  have hKp := hKp.trans K1 all0
  obtain ⟨_, _, ⟨T18, L18, k18, n18⟩, -, X18, hS18, hge18, ⟨Lc18, hQ18, l18, y18, z18⟩, st18⟩ := X17.specialBackS hx (y := yM75) rfl hown (mvT hZ (Hw 71 rfl)) (mvT hZ (Hw 72 rfl)) (mvT hZ (Hw 73 rfl)) (by decide) (backOfS (W := 1) (rmIi1 l Z a0 hw [] b5 tn r2 ky sy ey a1 ch gg T17.heap n0 Zh EV hO Ei Gt Gq Gk Gs Ge Ga gb Sky Ssy Sey Sa1 gky gsy gey ga1 (Or.inl ⟨L1, _, L2, Or.inl ⟨rfl, L3⟩⟩) hc) hZ (Hw 73 rfl) (Hw 54 rfl) (by decide) (by decide)) (g := (mkF m 35 #[vR i, vR t] [(.ref r2), (.ref ey), (.ref sy), (.ref ky), .null, (.ref tn), (.ref b5), (.ref b5)])) rfl hml.symm (Steps.refl _) (a := b5) (argsL := [(.ref tn), .null, (.ref ky), (.ref sy), (.ref ey), (.ref r2)]) (rest := [(.ref b5)]) (lenOf pd42 rfl) rfl (nE rfl) (D 18 rfl) (fun _ _ => ⟨rfl, rfl, (by decide : 5 + 26 ≤ _), (by decide : 55 + 240 ≤ _)⟩)
  dsimp only [Pt.U, Pt.locs, Pt.cells, Pt.slots] at X18 l18 y18 z18 st18 hQ18 hS18 hge18
  subst l18 y18 z18
  obtain ⟨X18, hS, hZ, hown⟩ := rebS hS hk X18 hS18 hge18 hZ hown
  have hk : T18.heap.size ≤ T18.heap.size := Nat.le_refl _
  obtain ⟨rfl, N1, K1, Ei, Gt, Gq, Gk, Gs, Ge, Ga, Lf, Sky, Ssy, Sey, Sa1⟩ := hQ18
  have c18 : Sx p e b0 S0 T18 (mkF m 38 #[vR i, vR t] [(.ref b5)]) := c17.trans st18
  have Nf := Fr.app Nf N1
  have Zh := nT Zh K1.1
  have hO := hO.keep K1 (allS gb (allS gky (allS gsy (allS gey (allS ga1 all0)))))
  have hKp := hKp.trans K1 (allS (Or.inr zb) (allS (mI 0 rfl) (allS (mI 1 rfl) (allS (mI 2 rfl) (allS (mI 3 rfl) all0)))))
  obtain ⟨fs, hr, r1, r2, hW⟩ := X18.leaveW hS hk (v := some (.ref b5)) (nV hret)
  refine ⟨_, _, c18.trans ?_, r1, r2, _, _, rfl, ?_, hW.1, hW.2.1, hW.2.2.1, hW.2.2.2.mono (by decide) (by decide)⟩
  · exact retA X18 hx hret rfl rfl (D 19 rfl) hr
  · show QWa1 Z i t kt tn ky sy ey a1 ch gg h0 n0 _ T18.heap _
    exact ⟨⟨_, rfl, zb, Ei, _, _, _, Gk, Ins.of_exa Sky.exa (Hw 122 rfl), Ga, Lf, rfl, own_El.cons (Ins.of_exa Sa1.exa (Hw 122 rfl)) (own_El.nil)⟩, Nf, hKp⟩
def QWa2 (Z : State) (i t : Addr) (kt : ClassId) (tn ky sy ey a1 a2 : Addr) (ch : Nat) (gg : own_G) (h0 : Heap) (n0 : Nat) (v : Option Value) (h : Heap) (L : List Loc) : Prop := (∃ r : Addr, v = some (.ref r) ∧ h0.size ≤ r ∧ own_In Z gg h r 2) ∧ Fr n0 L ∧ Keep h0 h [ky, sy, ey, a1, a2]
theorem rmWa2 (l : Launch) (Z : State) (a0 : Array Value) (hw : HW a0 Z) (ws : List Jvm.Cond) (i t : Addr) (kt : ClassId) (tn ky sy ey a1 a2 : Addr) (ch : Nat) (gg : own_G) (h0 : Heap) (n0 : Nat) (Z0 : n0 ≤ h0.size) (EV : own_Env Z gg) (X00 : Old Z n0 h0) (Bi : Exa Z h0 i "com/example/spanfold/spanfold/Input") (Bt : Fld Z h0 i "com/example/spanfold/spanfold/Input" "table" "Ljava/lang/String;" (.ref tn)) (Bq : Fld Z h0 i "com/example/spanfold/spanfold/Input" "query" "Ljava/lang/String;" .null) (Bk : Fld Z h0 i "com/example/spanfold/spanfold/Input" "key" "Ljava/lang/String;" (.ref ky)) (Bs : Fld Z h0 i "com/example/spanfold/spanfold/Input" "start" "Ljava/lang/String;" (.ref sy)) (Be : Fld Z h0 i "com/example/spanfold/spanfold/Input" "end" "Ljava/lang/String;" (.ref ey)) (Sky : own_S2 Z h0 ky 107 ch) (Ssy : own_S2 Z h0 sy 115 ch) (Sey : own_S2 Z h0 ey 101 ch) (Sa1 : own_S2 Z h0 a1 97 ch) (Sa2 : own_S2 Z h0 a2 98 ch) (gky : n0 ≤ ky) (gsy : n0 ≤ sy) (gey : n0 ≤ ey) (ga1 : n0 ≤ a1) (ga2 : n0 ≤ a2) (Vt : Arv Z h0 t kt (.object "java/lang/String") J2 [.ref a1, .ref a2] .null) (hc : ch < 256) :
    own_MW l yM77 prog_11_method_4_code 2 (some (.object "com/example/spanfold/spanfold/Input")) ws (rK 9 31 300 170) #[(.ref i), (.ref t)] Z h0 (QWa2 Z i t kt tn ky sy ey a1 a2 ch gg h0 n0) := by
  refine own_openW (plainFor_of_name pn2) dB73 fun p e s m b0 meth c s₁ S0 hx D hby hml hown hnm hret hlk hZ X0 e0 c0 => ?_
  replace c0 : Sx p e b0 S0 s₁ (mkF m 0 #[vR i, vR t] []) := c0
  have Hw := @own_Hw _ _ hw
  have N0 := Fr.nil n0
  obtain ⟨V0, hV0⟩ : ∃ V, V = s.vm := ⟨_, rfl⟩
  have Xs : Stand p l e (rK 9 31 300 170) (s.setVm V0) m #[(.ref i), (.ref t)] b0 meth c s₁ [] 0 0 := by subst hV0; exact X0
  have hS : s.Since V0 h0.size := by subst hV0; exact (State.WarmedH.refl s).since _
  replace hZ : Z.Warmed39 (s.setVm V0).vm := by subst hV0; exact hZ
  replace hown : (s.setVm V0).vm.findClass "com/example/spanfold/spanfold/Input" = some m.cls := by subst hV0; exact hown
  have hk : h0.size ≤ h0.size := Nat.le_refl _
  have Zh := Z0
  have Nf := N0
  have hO := X00
  have hKp := Keep.refl h0 [ky, sy, ey, a1, a2]
  obtain ⟨q2, T2, h2, k2, X2, e2, E2, hS, hk, hZ, hown, st2⟩ := ldcS Xs hx hZ hown (Hw 524 rfl) (own_wS hw) e0 hS hk (g := (mkF m 1 #[vR i, vR t] [(.ref t)])) rfl (D 1 rfl) (n := 40) (by decide) (by decide) (by decide) (by decide)
  have c2 : Sx p e b0 S0 T2 (mkF m 3 #[vR i, vR t] [(.ref q2), (.ref t)]) := c0.trans (qA Xs hx rfl (D 0 rfl) rfl rfl (st2 _ (Steps.refl _)))
  have Sky := Sky.ext E2
  have Ssy := Ssy.ext E2
  have Sey := Sey.ext E2
  have Sa1 := Sa1.ext E2
  have Sa2 := Sa2.ext E2
  have Bt := Bt.ext E2
  have Bq := Bq.ext E2
  have Bk := Bk.ext E2
  have Bs := Bs.ext E2
  have Be := Be.ext E2
  have Vt := Vt.ext E2
  have Zh := nT Zh E2.1
  have hO := hO.ext E2
  have hKp := hKp.ext E2
  obtain ⟨_, _, ⟨T3, L3, k3, n3⟩, -, X3, ⟨Lc3, hQ3, l3, y3, z3⟩, st3⟩ := Jvm.LawKit.callS X2 hx (y := yM1) hown (mvT hZ (Hw 59 rfl)) (mvT hZ (Hw 60 rfl)) (mvT hZ (Hw 61 rfl)) (mvT hZ (Hw 62 rfl)) (by decide) (backOf (W := 0) (rmR2 l Z a0 hw [] t q2 h2 n0 Zh) hZ (Hw 62 rfl) (Hw 61 rfl) (by decide) (by decide)) (g := (mkF m 3 #[vR i, vR t] [(.ref q2), (.ref t)])) rfl hml.symm (argsL := [(.ref t), (.ref q2)]) (rest := []) (lenOf pd36 rfl) rfl (nE rfl) (D 2 rfl) (fun _ _ => ⟨rfl, e2, (by decide : 2 + 0 ≤ _), (by decide : 44 + 0 ≤ _)⟩)
  dsimp only [Pt.U, Pt.locs, Pt.cells, Pt.slots] at X3 l3 y3 z3 st3 hQ3
  subst l3 y3 z3
  obtain ⟨rfl, N1, e1⟩ := hQ3
  have c3 : Sx p e b0 S0 T3 (mkF m 6 #[vR i, vR t] [(.ref t)]) := c2.trans (st3 _ (Steps.refl _))
  have Nf := Fr.app Nf N1
  obtain ⟨T5, h5, X5, e5, E5, A5, D5, -, st5⟩ := newO X3 hx hZ hown (Hw 63 rfl) (Hw 64 rfl) (Hw 54 rfl) e1 (g := (mkF m 7 #[vR i, vR t] [])) rfl (D 4 rfl) (by decide) (by decide)
  obtain ⟨b5, g5⟩ : ∃ z, z = h2.size := ⟨_, rfl⟩
  rw [← g5] at A5 D5 st5
  have c5 : Sx p e b0 S0 T5 (mkF m 10 #[vR i, vR t] [(.ref b5)]) := c3.trans (XS.pop X3.here hx rfl (D 3 rfl) rfl rfl (st5 _ (Steps.refl _)))
  have zb : h0.size ≤ b5 := nT hKp.1 (nE g5.symm)
  have gb : n0 ≤ b5 := nT Z0 zb
  have Sky := Sky.ext E5
  have Ssy := Ssy.ext E5
  have Sey := Sey.ext E5
  have Sa1 := Sa1.ext E5
  have Sa2 := Sa2.ext E5
  have Bt := Bt.ext E5
  have Bq := Bq.ext E5
  have Bk := Bk.ext E5
  have Bs := Bs.ext E5
  have Be := Be.ext E5
  have Vt := Vt.ext E5
  have hk := nT hk E5.1
  have Zh := nT Zh E5.1
  have hO := hO.ext E5
  have hKp := hKp.ext E5
  have Ei := A5
  have Gt : Fld Z h5 b5 "com/example/spanfold/spanfold/Input" "table" "Ljava/lang/String;" .null := D5 (Or.inr (Hw 81 rfl)) (ty := (.object "java/lang/String")) (by decide)
  have Gq : Fld Z h5 b5 "com/example/spanfold/spanfold/Input" "query" "Ljava/lang/String;" .null := D5 (Or.inr (Hw 83 rfl)) (ty := (.object "java/lang/String")) (by decide)
  have Gk : Fld Z h5 b5 "com/example/spanfold/spanfold/Input" "key" "Ljava/lang/String;" .null := D5 (Or.inr (Hw 87 rfl)) (ty := (.object "java/lang/String")) (by decide)
  have Gs : Fld Z h5 b5 "com/example/spanfold/spanfold/Input" "start" "Ljava/lang/String;" .null := D5 (Or.inr (Hw 90 rfl)) (ty := (.object "java/lang/String")) (by decide)
  have Ge : Fld Z h5 b5 "com/example/spanfold/spanfold/Input" "end" "Ljava/lang/String;" .null := D5 (Or.inr (Hw 93 rfl)) (ty := (.object "java/lang/String")) (by decide)
  have Ga : Fld Z h5 b5 "com/example/spanfold/spanfold/Input" "attributes" "Ljava/util/List;" .null := D5 (Or.inr (Hw 113 rfl)) (ty := (.object "java/util/List")) (by decide)
  obtain ⟨T7, X7, e7, st7⟩ := getF X5 hx hZ hown (host := "") (Or.inl (Hw 80 rfl)) Via.refl e5 Bt (g := (mkF m 12 #[vR i, vR t] [(.ref i), (.ref b5), (.ref b5)])) rfl rfl (D 7 rfl)
  have c7 : Sx p e b0 S0 T7 (mkF m 15 #[vR i, vR t] [(.ref tn), (.ref b5), (.ref b5)]) := c5.trans (XS.dup X5.here hx rfl (D 5 rfl) rfl rfl (qA X5 hx rfl (D 6 rfl) rfl rfl (st7 _ (Steps.refl _))))
  obtain ⟨T9, X9, e9, st9⟩ := getF X7 hx hZ hown (host := "") (Or.inl (Hw 82 rfl)) Via.refl e7 Bq (g := (mkF m 16 #[vR i, vR t] [(.ref i), (.ref tn), (.ref b5), (.ref b5)])) rfl rfl (D 9 rfl)
  have c9 : Sx p e b0 S0 T9 (mkF m 19 #[vR i, vR t] [.null, (.ref tn), (.ref b5), (.ref b5)]) := c7.trans (qA X7 hx rfl (D 8 rfl) rfl rfl (st9 _ (Steps.refl _)))
  obtain ⟨T11, X11, e11, st11⟩ := getF X9 hx hZ hown (host := "") (Or.inl (Hw 86 rfl)) Via.refl e9 Bk (g := (mkF m 20 #[vR i, vR t] [(.ref i), .null, (.ref tn), (.ref b5), (.ref b5)])) rfl rfl (D 11 rfl)
  have c11 : Sx p e b0 S0 T11 (mkF m 23 #[vR i, vR t] [(.ref ky), .null, (.ref tn), (.ref b5), (.ref b5)]) := c9.trans (qA X9 hx rfl (D 10 rfl) rfl rfl (st11 _ (Steps.refl _)))
  obtain ⟨T13, X13, e13, st13⟩ := getF X11 hx hZ hown (host := "") (Or.inl (Hw 89 rfl)) Via.refl e11 Bs (g := (mkF m 24 #[vR i, vR t] [(.ref i), (.ref ky), .null, (.ref tn), (.ref b5), (.ref b5)])) rfl rfl (D 13 rfl)
  have c13 : Sx p e b0 S0 T13 (mkF m 27 #[vR i, vR t] [(.ref sy), (.ref ky), .null, (.ref tn), (.ref b5), (.ref b5)]) := c11.trans (qA X11 hx rfl (D 12 rfl) rfl rfl (st13 _ (Steps.refl _)))
  obtain ⟨T15, X15, e15, st15⟩ := getF X13 hx hZ hown (host := "") (Or.inl (Hw 92 rfl)) Via.refl e13 Be (g := (mkF m 28 #[vR i, vR t] [(.ref i), (.ref sy), (.ref ky), .null, (.ref tn), (.ref b5), (.ref b5)])) rfl rfl (D 15 rfl)
  have c15 : Sx p e b0 S0 T15 (mkF m 31 #[vR i, vR t] [(.ref ey), (.ref sy), (.ref ky), .null, (.ref tn), (.ref b5), (.ref b5)]) := c13.trans (qA X13 hx rfl (D 14 rfl) rfl rfl (st15 _ (Steps.refl _)))
  obtain ⟨_, _, ⟨T17, L17, k17, n17⟩, -, X17, ⟨Lc17, hQ17, l17, y17, z17⟩, st17⟩ := Jvm.LawKit.callS X15 hx (y := yM27) hown (mvT hZ (Hw 525 rfl)) (mvT hZ (Hw 503 rfl)) (mvT hZ (Hw 67 rfl)) (mvT hZ (Hw 504 rfl)) (by decide) (backOf (W := 7) (rmOf2 l Z a0 hw [] t kt "java/lang/String" a1 a2 gg h5 n0 Zh EV hO Vt) hZ (Hw 504 rfl) (Hw 67 rfl) (by decide) (by decide)) (g := (mkF m 32 #[vR i, vR t] [(.ref t), (.ref ey), (.ref sy), (.ref ky), .null, (.ref tn), (.ref b5), (.ref b5)])) rfl hml.symm (argsL := [(.ref t)]) (rest := [(.ref ey), (.ref sy), (.ref ky), .null, (.ref tn), (.ref b5), (.ref b5)]) (lenOf pd7 rfl) rfl (nE rfl) (D 17 rfl) (fun _ _ => ⟨rfl, e15, (by decide : 3 + 2 ≤ _), (by decide : 50 + 5 ≤ _)⟩)
  dsimp only [Pt.U, Pt.locs, Pt.cells, Pt.slots] at X17 l17 y17 z17 st17 hQ17
  subst l17 y17 z17
  obtain ⟨⟨r2, rfl, zr2, L1, L2, L3⟩, N1, K1⟩ := hQ17
  have c17 : Sx p e b0 S0 T17 (mkF m 35 #[vR i, vR t] [(.ref r2), (.ref ey), (.ref sy), (.ref ky), .null, (.ref tn), (.ref b5), (.ref b5)]) := c15.trans (qA X15 hx rfl (D 16 rfl) rfl rfl (st17 _ (Steps.refl _)))
  have Sky_ := Sky.keep K1 nin0 all0
  have Ssy_ := Ssy.keep K1 nin0 all0
  have Sey_ := Sey.keep K1 nin0 all0
  have Sa1_ := Sa1.keep K1 nin0 all0
  have Sa2_ := Sa2.keep K1 nin0 all0
  have Sky := Sky_
  have Ssy := Ssy_
  have Sey := Sey_
  have Sa1 := Sa1_
  have Sa2 := Sa2_
  have Ei := Ei.keep K1
  have Gt := Gt.keep K1 nin0
  have Gq := Gq.keep K1 nin0
  have Gk := Gk.keep K1 nin0
  have Gs := Gs.keep K1 nin0
  have Ge := Ge.keep K1 nin0
  have Ga := Ga.keep K1 nin0
  have Nf := Fr.app Nf N1
  have hk := nT hk K1.1
  have Zh := nT Zh K1.1
  have hO := hO.keep K1 all0
  have hKp := hKp.trans K1 all0
  obtain ⟨_, _, ⟨T18, L18, k18, n18⟩, -, X18, hS18, hge18, ⟨Lc18, hQ18, l18, y18, z18⟩, st18⟩ := X17.specialBackS hx (y := yM75) rfl hown (mvT hZ (Hw 71 rfl)) (mvT hZ (Hw 72 rfl)) (mvT hZ (Hw 73 rfl)) (by decide) (backOfS (W := 1) (rmIi2 l Z a0 hw [] b5 tn r2 ky sy ey a1 a2 ch gg T17.heap n0 Zh EV hO Ei Gt Gq Gk Gs Ge Ga gb Sky Ssy Sey Sa1 Sa2 gky gsy gey ga1 ga2 (Or.inl ⟨L1, _, L2, Or.inr ⟨_, rfl, L3, (Sa2.exa.ne (EV.eme.ext hO.2) (by decide))⟩⟩) hc) hZ (Hw 73 rfl) (Hw 54 rfl) (by decide) (by decide)) (g := (mkF m 35 #[vR i, vR t] [(.ref r2), (.ref ey), (.ref sy), (.ref ky), .null, (.ref tn), (.ref b5), (.ref b5)])) rfl hml.symm (Steps.refl _) (a := b5) (argsL := [(.ref tn), .null, (.ref ky), (.ref sy), (.ref ey), (.ref r2)]) (rest := [(.ref b5)]) (lenOf pd42 rfl) rfl (nE rfl) (D 18 rfl) (fun _ _ => ⟨rfl, rfl, (by decide : 5 + 26 ≤ _), (by decide : 55 + 240 ≤ _)⟩)
  dsimp only [Pt.U, Pt.locs, Pt.cells, Pt.slots] at X18 l18 y18 z18 st18 hQ18 hS18 hge18
  subst l18 y18 z18
  obtain ⟨X18, hS, hZ, hown⟩ := rebS hS hk X18 hS18 hge18 hZ hown
  have hk : T18.heap.size ≤ T18.heap.size := Nat.le_refl _
  obtain ⟨rfl, N1, K1, Ei, Gt, Gq, Gk, Gs, Ge, Ga, Lf, Sky, Ssy, Sey, Sa1, Sa2⟩ := hQ18
  have c18 : Sx p e b0 S0 T18 (mkF m 38 #[vR i, vR t] [(.ref b5)]) := c17.trans st18
  have Nf := Fr.app Nf N1
  have Zh := nT Zh K1.1
  have hO := hO.keep K1 (allS gb (allS gky (allS gsy (allS gey (allS ga1 (allS ga2 all0))))))
  have hKp := hKp.trans K1 (allS (Or.inr zb) (allS (mI 0 rfl) (allS (mI 1 rfl) (allS (mI 2 rfl) (allS (mI 3 rfl) (allS (mI 4 rfl) all0))))))
  obtain ⟨fs, hr, r1, r2, hW⟩ := X18.leaveW hS hk (v := some (.ref b5)) (nV hret)
  refine ⟨_, _, c18.trans ?_, r1, r2, _, _, rfl, ?_, hW.1, hW.2.1, hW.2.2.1, hW.2.2.2.mono (by decide) (by decide)⟩
  · exact retA X18 hx hret rfl rfl (D 19 rfl) hr
  · show QWa2 Z i t kt tn ky sy ey a1 a2 ch gg h0 n0 _ T18.heap _
    exact ⟨⟨_, rfl, zb, Ei, _, _, _, Gk, Ins.of_exa Sky.exa (Hw 122 rfl), Ga, Lf, rfl, own_El.cons (Ins.of_exa Sa1.exa (Hw 122 rfl)) (own_El.cons (Ins.of_exa Sa2.exa (Hw 122 rfl)) (own_El.nil))⟩, Nf, hKp⟩
def QGp (Z : State) (i : Addr) (kk : Nat) (gg : own_G) (h0 : Heap) (n0 : Nat) (v : Option Value) (h : Heap) (L : List Loc) : Prop := (∃ (a ed : Addr) (xs : List Addr) (N : Nat) (mc : Int32), v = some (.ref a) ∧ own_ALs Z h a ed xs N mc ∧ xs.length = 1 + kk) ∧ Fr n0 L ∧ Keep h0 h []
theorem rmGp (l : Launch) (Z : State) (a0 : Array Value) (hw : HW a0 Z) (ws : List Jvm.Cond) (i : Addr) (kk : Nat) (gg : own_G) (h0 : Heap) (n0 : Nat) (Z0 : n0 ≤ h0.size) (EV : own_Env Z gg) (X00 : Old Z n0 h0) (Di : own_In Z gg h0 i kk) (hk2 : kk ≤ 2) :
    own_M l yM78 prog_11_method_14_code 2 (some (.object "java/util/List")) ws (rK 6 6 45 106) #[(.ref i)] Z h0 (QGp Z i kk gg h0 n0) := by
  refine own_open (plainFor_of_name pn2) dB74 fun p e s m b0 meth c s₁ S0 hx D hby hml hown hnm hret hlk hZ X0 e0 c0 => ?_
  replace c0 : Sx p e b0 S0 s₁ (mkF m 0 #[vR i, uU] []) := c0
  have Hw := @own_Hw _ _ hw
  have N0 := Fr.nil n0
  obtain ⟨Ei, ky, al, xs, Gk, Ik, Ga, Lr, hlx, Ex⟩ := id Di
  have Nf := N0
  have hO := X00
  have hKp := Keep.refl h0 []
  have Zh := Z0
  obtain ⟨T1, h1, X1, e1, E1, A1, D1, -, st1⟩ := newO X0 hx hZ hown (Hw 114 rfl) (Hw 115 rfl) (Hw 116 rfl) e0 (g := (mkF m 0 #[vR i, uU] [])) rfl (D 0 rfl) (by decide) (by decide)
  obtain ⟨b1, g1⟩ : ∃ z, z = h0.size := ⟨_, rfl⟩
  rw [← g1] at A1 D1 st1
  have c1 : Sx p e b0 S0 T1 (mkF m 3 #[vR i, uU] [(.ref b1)]) := c0.trans (st1 _ (Steps.refl _))
  have Ea := A1
  have Fm : Fld Z h1 b1 "java/util/AbstractList" "modCount" "I" (.int 0) := D1 (Or.inl (Hw 169 rfl)) (ty := .int) (by decide)
  have Fs : Fld Z h1 b1 "java/util/ArrayList" "size" "I" (.int 0) := D1 (Or.inl (Hw 203 rfl)) (ty := .int) (by decide)
  have Fe : Fld Z h1 b1 "java/util/ArrayList" "elementData" "[Ljava/lang/Object;" .null := D1 (Or.inl (Hw 214 rfl)) (ty := (.array (.object "java/lang/Object"))) (by decide)
  have zb : h0.size ≤ b1 := nE g1.symm
  have gb : n0 ≤ b1 := nT Z0 zb
  have Zh := nT Zh E1.1
  have hO := hO.ext E1
  have hKp := hKp.ext E1
  obtain ⟨T3, X3, e3, st3⟩ := getF X1 hx hZ hown (host := "") (Or.inl (Hw 86 rfl)) Via.refl e1 (Gk.ext E1) (g := (mkF m 5 #[vR i, uU] [(.ref i), (.ref b1), (.ref b1)])) rfl rfl (D 3 rfl)
  have c3 : Sx p e b0 S0 T3 (mkF m 8 #[vR i, uU] [(.ref ky), (.ref b1), (.ref b1)]) := c1.trans (XS.dup X1.here hx rfl (D 1 rfl) rfl rfl (qA X1 hx rfl (D 2 rfl) rfl rfl (st3 _ (Steps.refl _))))
  obtain ⟨_, _, ⟨T4, L4, k4, n4⟩, -, X4, ⟨Lc4, hQ4, l4, y4, z4⟩, st4⟩ := Jvm.LawKit.callS X3 hx (y := yM23) hown (mvT hZ (Hw 447 rfl)) (mvT hZ (Hw 448 rfl)) (mvT hZ (Hw 67 rfl)) (mvT hZ (Hw 449 rfl)) (by decide) (backOf (W := 2) (rmO1 l Z a0 hw [] ky gg h1 n0 Zh EV hO) hZ (Hw 449 rfl) (Hw 67 rfl) (by decide) (by decide)) (g := (mkF m 8 #[vR i, uU] [(.ref ky), (.ref b1), (.ref b1)])) rfl hml.symm (argsL := [(.ref ky)]) (rest := [(.ref b1), (.ref b1)]) (lenOf pd43 rfl) rfl (nE rfl) (D 4 rfl) (fun _ _ => ⟨rfl, e3, (by decide : 1 + 1 ≤ _), (by decide : 3 + 2 ≤ _)⟩)
  dsimp only [Pt.U, Pt.locs, Pt.cells, Pt.slots] at X4 l4 y4 z4 st4 hQ4
  subst l4 y4 z4
  obtain ⟨⟨r1, rfl, zr1, L1, L2, L3⟩, N1, K1⟩ := hQ4
  have c4 : Sx p e b0 S0 T4 (mkF m 11 #[vR i, uU] [(.ref r1), (.ref b1), (.ref b1)]) := c3.trans (st4 _ (Steps.refl _))
  have Ea := Ea.keep K1
  have Fm := Fm.keep K1 nin0
  have Fs := Fs.keep K1 nin0
  have Fe := Fe.keep K1 nin0
  have K01 := hKp.trans K1 all0
  have Ik := own_insK Ik K01
  have Nf := Fr.app Nf N1
  have Zh := nT Zh K1.1
  have hO := hO.keep K1 all0
  have hKp := hKp.trans K1 all0
  obtain ⟨_, _, ⟨T5, L5, k5, n5⟩, -, X5, ⟨Lc5, hQ5, l5, y5, z5⟩, st5⟩ := X4.specialBack hx (y := yM41) rfl hown (mvT hZ (Hw 157 rfl)) (mvT hZ (Hw 158 rfl)) (mvT hZ (Hw 159 rfl)) (by decide) (backOf (W := 1) (rmK1 l Z a0 hw [] b1 r1 ky gg T4.heap n0 Zh EV hO Ea Fm Fs Fe gb L1 L2 L3 (own_El.cons Ik own_El.nil)) hZ (Hw 159 rfl) (Hw 116 rfl) (by decide) (by decide)) (g := (mkF m 11 #[vR i, uU] [(.ref r1), (.ref b1), (.ref b1)])) rfl hml.symm (Steps.refl _) (a := b1) (argsL := [(.ref r1)]) (rest := [(.ref b1)]) (lenOf pd38 rfl) rfl (nE rfl) (D 5 rfl) (fun _ _ => ⟨rfl, rfl, (by decide : 2 + 2 ≤ _), (by decide : 5 + 20 ≤ _)⟩)
  dsimp only [Pt.U, Pt.locs, Pt.cells, Pt.slots] at X5 l5 y5 z5 st5 hQ5
  subst l5 y5 z5
  obtain ⟨rfl, N1, K1, ed, zed, A⟩ := hQ5
  have c5 : Sx p e b0 S0 T5 (mkF m 14 #[vR i, uU] [(.ref b1)]) := c4.trans st5
  have Ik := own_insK Ik K1
  have Nf := Fr.app Nf N1
  have Zh := nT Zh K1.1
  have hO := hO.keep K1 (allS gb all0)
  have hKp := hKp.trans K1 (allS (Or.inr zb) all0)
  obtain ⟨T7, X7, e7, st7⟩ := getF X5 hx hZ hown (host := "") (Or.inl (Hw 112 rfl)) Via.refl rfl (Ga.keep hKp nin0) (g := (mkF m 17 #[vR i, vR b1] [(.ref i), (.ref b1)])) rfl rfl (D 9 rfl)
  have c7 : Sx p e b0 S0 T7 (mkF m 20 #[vR i, vR b1] [(.ref al), (.ref b1)]) := c5.trans (XS.astoreN X5.here hx rfl (D 6 rfl) rfl rfl (l' := #[vR i, vR b1]) rfl (qA X5 hx rfl (D 7 rfl) rfl rfl (qA X5 hx rfl (D 8 rfl) rfl rfl (st7 _ (Steps.refl _)))))
  obtain ⟨cq8, kq8, q8a, q8b, q8c⟩ := isOf hZ e7 A.1
  obtain ⟨_, _, ⟨T8, L8, k8, n8⟩, -, X8, ⟨Lc8, hQ8, l8, y8, z8⟩, st8⟩ := X7.virtualBack hx (y := yM43) (z := yM43) hown (mvT hZ (Hw 215 rfl)) (mvT hZ (Hw 216 rfl)) (notFace_of_selects (args := #[]) (mvT hZ (Hw 218 rfl))) (mvT hZ (Hw 218 rfl)) (mvT hZ (Hw 217 rfl)) (by decide) (backOf (W := 0) (rmAa l Z a0 hw [] b1 ed [ky] 1 0 al xs gg T5.heap n0 Zh EV hO A rfl (by decide) (by decide) (Lr.keep0 hKp) (by omega) (own_El.cons Ik own_El.nil) (Ex.keep hKp) gb) hZ (Hw 219 rfl) (Hw 116 rfl) (by decide) (by decide)) q8a q8c (g := (mkF m 20 #[vR i, vR b1] [(.ref al), (.ref b1)])) rfl hml.symm (Steps.refl _) (argsL := [(.ref al)]) (rest := []) (lenOf pd39 rfl) rfl (nE rfl) (D 10 rfl) (fun _ _ => ⟨rfl, e7, (by decide : 4 + 2 ≤ _), (by decide : 25 + 20 ≤ _)⟩)
  dsimp only [Pt.U, Pt.locs, Pt.cells, Pt.slots] at X8 l8 y8 z8 st8 hQ8
  subst l8 y8 z8
  obtain ⟨⟨zv, rfl⟩, ⟨e2, NN, mc, A2, ze2⟩, N1, K1⟩ := hQ8
  have c8 : Sx p e b0 S0 T8 (mkF m 23 #[vR i, vR b1] [(.int zv)]) := c7.trans st8
  have Nf := Fr.app Nf N1
  have Zh := nT Zh K1.1
  have hO := hO.keep K1 (allS gb all0)
  have hKp := hKp.trans K1 (allS (Or.inr zb) all0)
  obtain ⟨fs, hr, r1, r2, hW, r4⟩ := X8.leave (v := some (.ref b1)) (nV hret)
  refine ⟨_, _, c8.trans ?_, r1, r2, _, _, rfl, ?_, ⟨_, rfl⟩, hW, r4.mono (by decide) (by decide)⟩
  · refine XS.pop X8.here hx rfl (D 11 rfl) rfl rfl ?_
    refine qA X8 hx rfl (D 12 rfl) rfl rfl ?_
    exact retA X8 hx hret rfl rfl (D 13 rfl) hr
  · show QGp Z i kk gg h0 n0 _ T8.heap _
    exact ⟨⟨_, _, _, _, _, rfl, A2, by rw [List.length_append, hlx]; rfl⟩, Nf, hKp⟩
def QLx1 (Z : State) (a ed : Addr) (mc : Int32) (u : Addr) (gg : own_G) (h0 : Heap) (n0 : Nat) (v : Option Value) (h : Heap) (L : List Loc) : Prop := (∃ r : Addr, v = some (.ref r) ∧ h0.size ≤ r ∧ Exa Z h r own_L12 ∧ Fld Z h r own_L12 "e0" "Ljava/lang/Object;" (.ref u) ∧ Fld Z h r own_L12 "e1" "Ljava/lang/Object;" (.ref gg.em)) ∧ Fr n0 L ∧ Keep h0 h []
theorem rmLx1 (l : Launch) (Z : State) (a0 : Array Value) (hw : HW a0 Z) (ws : List Jvm.Cond) (a ed : Addr) (mc : Int32) (u : Addr) (gg : own_G) (h0 : Heap) (n0 : Nat) (Z0 : n0 ≤ h0.size) (EV : own_Env Z gg) (X00 : Old Z n0 h0) (A : own_ALs Z h0 a ed [u] 10 mc) (Eu : Exa Z h0 u own_INn) :
    own_M l yM71 jdk_56_method_3_code 2 (some (.object "java/util/List")) ws (rK 7 3 15 100) #[(.ref a)] Z h0 (QLx1 Z a ed mc u gg h0 n0) := by
  refine own_open (by decide +kernel) dB69 fun p e s m b0 meth c s₁ S0 hx D hby hml hown hnm hret hlk hZ X0 e0 c0 => ?_
  replace c0 : Sx p e b0 S0 s₁ (mkF m 0 #[vR a, uU] []) := c0
  have Hw := @own_Hw _ _ hw
  have N0 := Fr.nil n0
  obtain ⟨T2, X2, e2, st2⟩ := instNo X0 hx hZ hown (Hw 100 rfl) e0 A.1 (own_no (Hw 484 rfl) (Hw 451 rfl) (NS.step (Hw 484 rfl) (NS.step (Hw 485 rfl) (NS.step (Hw 104 rfl) (own_root (Hw 105 rfl) (Hw 451 rfl) (by decide)) (by decide)) (by decide)) (by decide)) (by decide)) (g := (mkF m 1 #[vR a, uU] [(.ref a)])) rfl rfl (D 1 rfl)
  have c2 : Sx p e b0 S0 T2 (mkF m 4 #[vR a, uU] [(.int J0)]) := c0.trans (qA X0 hx rfl (D 0 rfl) rfl rfl (st2 _ (Steps.refl _)))
  obtain ⟨T5, X5, e5, st5⟩ := instNo X2 hx hZ hown (Hw 106 rfl) e2 A.1 (own_no (Hw 484 rfl) (Hw 130 rfl) (NS.step (Hw 484 rfl) (NS.step (Hw 485 rfl) (NS.step (Hw 104 rfl) (own_root (Hw 105 rfl) (Hw 130 rfl) (by decide)) (by decide)) (by decide)) (by decide)) (by decide)) (g := (mkF m 8 #[vR a, uU] [(.ref a)])) rfl rfl (D 4 rfl)
  have c5 : Sx p e b0 S0 T5 (mkF m 11 #[vR a, uU] [(.int J0)]) := c2.trans (XS.ifNo X2.here hx rfl (D 2 rfl) rfl ((if0 _ _).trans (teq rfl).2) (qA X2 hx rfl (D 3 rfl) rfl rfl (st5 _ (Steps.refl _))))
  obtain ⟨cq8, kq8, q8a, q8b, q8c⟩ := isOf hZ e5 A.1
  obtain ⟨_, _, ⟨T8, L8, k8, n8⟩, -, X8, ⟨Lc8, hQ8, l8, y8, z8⟩, st8⟩ := X5.interfaceBack hx (xi := yM79) (y := yM29) (C := "java/util/ArrayList") hown (mvT hZ (Hw 486 rfl)) (mvT hZ (Hw 487 rfl)) (mvT hZ (Hw 488 rfl)) (mvT hZ (Hw 489 rfl)) (mvT hZ (Hw 490 rfl)) (mvT hZ (Hw 491 rfl)) (mvT hZ (Hw 492 rfl)) (mvT hZ (Hw 493 rfl)) (by decide) (backOf (W := 0) (rmAe l Z a0 hw [] a ed [u] 10 mc h0 n0 Z0 A (Nat.le_of_ble_eq_true rfl)) hZ (Hw 494 rfl) (Hw 116 rfl) (by decide) (by decide)) q8a q8b q8c (g := (mkF m 32 #[vR a, uU] [(.ref a)])) rfl hml.symm (Steps.refl _) (argsL := []) (rest := []) (lenOf pd23 rfl) rfl (nE rfl) (D 16 rfl) (fun _ _ => ⟨rfl, e5, (by decide : 0 + 0 ≤ _), (by decide : 0 + 0 ≤ _)⟩)
  dsimp only [Pt.U, Pt.locs, Pt.cells, Pt.slots] at X8 l8 y8 z8 st8 hQ8
  subst l8 y8 z8
  obtain ⟨rfl, Na, ea⟩ := hQ8
  have c8 : Sx p e b0 S0 T8 (mkF m 37 #[vR a, uU] [(.int J0)]) := c5.trans (XS.ifYes X5.here hx rfl (pc0 := 11) (pc' := 31) rfl (D 5 rfl) rfl ((if0 _ _).trans (teq rfl).1) (by decide) (by decide) (qA X5 hx rfl (D 15 rfl) rfl rfl (st8)))
  obtain ⟨cq11, kq11, q11a, q11b, q11c⟩ := isOf hZ ea A.1
  obtain ⟨_, _, ⟨T11, L11, k11, n11⟩, -, X11, ⟨Lc11, hQ11, l11, y11, z11⟩, st11⟩ := X8.interfaceBack hx (xi := yM42) (y := yM34) (C := "java/util/ArrayList") hown (mvT hZ (Hw 495 rfl)) (mvT hZ (Hw 171 rfl)) (mvT hZ (Hw 172 rfl)) (mvT hZ (Hw 496 rfl)) (mvT hZ (Hw 497 rfl)) (mvT hZ (Hw 498 rfl)) (mvT hZ (Hw 499 rfl)) (mvT hZ (Hw 493 rfl)) (by decide) (backOf (W := 0) (rmAt l Z a0 hw [] a ed [u] 10 mc gg h0 n0 Z0 EV X00 A (own_El.cons (Ins.of_exa Eu (Hw 416 rfl)) own_El.nil) (Nat.le_of_ble_eq_true rfl)) hZ (Hw 500 rfl) (Hw 116 rfl) (by decide) (by decide)) q11a q11b q11c (g := (mkF m 45 #[vR a, uU] [(.ref a)])) rfl hml.symm (Steps.refl _) (argsL := []) (rest := []) (lenOf pd13 rfl) rfl (nE rfl) (D 19 rfl) (fun _ _ => ⟨rfl, ea, (by decide : 0 + 1 ≤ _), (by decide : 0 + 10 ≤ _)⟩)
  dsimp only [Pt.U, Pt.locs, Pt.cells, Pt.slots] at X11 l11 y11 z11 st11 hQ11
  subst l11 y11 z11
  obtain ⟨⟨b, rfl, zb, Ob⟩, N2, K2⟩ := hQ11
  have c11 : Sx p e b0 S0 T11 (mkF m 50 #[vR a, uU] [(.ref b)]) := c8.trans (XS.ifYes X8.here hx rfl (pc0 := 37) (pc' := 44) rfl (D 17 rfl) rfl ((if0 _ _).trans (teq rfl).1) (by decide) (by decide) (qA X8 hx rfl (D 18 rfl) rfl rfl (st11)))
  have Z2 := nT Z0 K2.1
  have X02 := X00.keep K2 all0
  obtain ⟨⟨kt, Vt, Ot⟩, -⟩ := id Ob
  have Eu := Eu.keep K2
  obtain ⟨_, _, ⟨T12, L12, k12, n12⟩, -, X12, ⟨Lc12, hQ12, l12, y12, z12⟩, st12⟩ := Jvm.LawKit.callS X11 hx (y := yM27) hown (mvT hZ (Hw 502 rfl)) (mvT hZ (Hw 503 rfl)) (mvT hZ (Hw 67 rfl)) (mvT hZ (Hw 504 rfl)) (by decide) (backOf (W := 0) (rmOf1 l Z a0 hw [] b kt own_OB u gg T11.heap n0 Z2 EV X02 Vt) hZ (Hw 504 rfl) (Hw 67 rfl) (by decide) (by decide)) (g := (mkF m 50 #[vR a, uU] [(.ref b)])) rfl hml.symm (argsL := [(.ref b)]) (rest := []) (lenOf pd7 rfl) rfl (nE rfl) (D 20 rfl) (fun _ _ => ⟨rfl, rfl, (by decide : 1 + 2 ≤ _), (by decide : 10 + 5 ≤ _)⟩)
  dsimp only [Pt.U, Pt.locs, Pt.cells, Pt.slots] at X12 l12 y12 z12 st12 hQ12
  subst l12 y12 z12
  obtain ⟨⟨r, rfl, zr, Dr⟩, N1, K1⟩ := hQ12
  have c12 : Sx p e b0 S0 T12 (mkF m 53 #[vR a, uU] [(.ref r)]) := c11.trans (st12 _ (Steps.refl _))
  obtain ⟨fs, hr, r1, r2, hW, r4⟩ := X12.leave (v := some (.ref r)) (nV hret)
  refine ⟨_, _, c12.trans ?_, r1, r2, _, _, rfl, ?_, ⟨_, rfl⟩, hW, r4.mono (by decide) (by decide)⟩
  · exact retA X12 hx hret rfl rfl (D 21 rfl) hr
  · show QLx1 Z a ed mc u gg h0 n0 _ T12.heap _
    exact ⟨⟨_, rfl, nT K2.1 zr, Dr⟩, Fr.app (Fr.app (Fr.app N0 Na) N2) N1, K2.trans K1 all0⟩
def QCx1 (Z : State) (a ed : Addr) (mc : Int32) (u : Addr) (gg : own_G) (h0 : Heap) (n0 : Nat) (v : Option Value) (h : Heap) (L : List Loc) : Prop := (∃ r : Addr, v = some (.ref r) ∧ h0.size ≤ r ∧ Exa Z h r own_L12 ∧ Fld Z h r own_L12 "e0" "Ljava/lang/Object;" (.ref u) ∧ Fld Z h r own_L12 "e1" "Ljava/lang/Object;" (.ref gg.em)) ∧ Fr n0 L ∧ Keep h0 h []
theorem rmCx1 (l : Launch) (Z : State) (a0 : Array Value) (hw : HW a0 Z) (ws : List Jvm.Cond) (a ed : Addr) (mc : Int32) (u : Addr) (gg : own_G) (h0 : Heap) (n0 : Nat) (Z0 : n0 ≤ h0.size) (EV : own_Env Z gg) (X00 : Old Z n0 h0) (A : own_ALs Z h0 a ed [u] 10 mc) (Eu : Exa Z h0 u own_INn) :
    own_M l yM72 jdk_40_method_48_code 1 (some (.object "java/util/List")) ws (rK 8 3 15 114) #[(.ref a)] Z h0 (QCx1 Z a ed mc u gg h0 n0) := by
  refine own_open (by decide +kernel) dB70 fun p e s m b0 meth c s₁ S0 hx D hby hml hown hnm hret hlk hZ X0 e0 c0 => ?_
  replace c0 : Sx p e b0 S0 s₁ (mkF m 0 #[vR a] []) := c0
  have Hw := @own_Hw _ _ hw
  have N0 := Fr.nil n0
  obtain ⟨_, _, ⟨T2, L2, k2, n2⟩, -, X2, ⟨Lc2, hQ2, l2, y2, z2⟩, st2⟩ := Jvm.LawKit.callS X0 hx (y := yM71) hown (mvT hZ (Hw 97 rfl)) (mvT hZ (Hw 98 rfl)) (mvT hZ (Hw 70 rfl)) (mvT hZ (Hw 99 rfl)) (by decide) (backOf (W := 0) (rmLx1 l Z a0 hw [] a ed mc u gg h0 n0 Z0 EV X00 A Eu) hZ (Hw 99 rfl) (Hw 70 rfl) (by decide) (by decide)) (g := (mkF m 1 #[vR a] [(.ref a)])) rfl hml.symm (argsL := [(.ref a)]) (rest := []) (lenOf pd33 rfl) rfl (nE rfl) (D 1 rfl) (fun _ _ => ⟨rfl, e0, (by decide : 0 + 3 ≤ _), (by decide : 0 + 15 ≤ _)⟩)
  dsimp only [Pt.U, Pt.locs, Pt.cells, Pt.slots] at X2 l2 y2 z2 st2 hQ2
  subst l2 y2 z2
  obtain ⟨⟨r, rfl, zr, Dr⟩, N1, K1⟩ := hQ2
  have c2 : Sx p e b0 S0 T2 (mkF m 4 #[vR a] [(.ref r)]) := c0.trans (qA X0 hx rfl (D 0 rfl) rfl rfl (st2 _ (Steps.refl _)))
  obtain ⟨fs, hr, r1, r2, hW, r4⟩ := X2.leave (v := some (.ref r)) (nV hret)
  refine ⟨_, _, c2.trans ?_, r1, r2, _, _, rfl, ?_, ⟨_, rfl⟩, hW, r4.mono (by decide) (by decide)⟩
  · exact retA X2 hx hret rfl rfl (D 2 rfl) hr
  · show QCx1 Z a ed mc u gg h0 n0 _ T2.heap _
    exact ⟨⟨_, rfl, zr, Dr⟩, Fr.app N0 N1, K1⟩
def QMa1 (Z : State) (a ed : Addr) (mc : Int32) (u : Addr) (gg : own_G) (kk : Nat) (h0 : Heap) (n0 : Nat) (v : Option Value) (h : Heap) (L : List Loc) : Prop := (∃ r : Addr, v = some (.ref r) ∧ h0.size ≤ r ∧ Exa Z h r own_L12 ∧ Fld Z h r own_L12 "e0" "Ljava/lang/Object;" (.ref u) ∧ Fld Z h r own_L12 "e1" "Ljava/lang/Object;" (.ref gg.em)) ∧ Fr n0 L ∧ Keep h0 h []
theorem rmMa1 (l : Launch) (Z : State) (a0 : Array Value) (hw : HW a0 Z) (ws : List Jvm.Cond) (a ed : Addr) (mc : Int32) (u : Addr) (gg : own_G) (kk : Nat) (h0 : Heap) (n0 : Nat) (Z0 : n0 ≤ h0.size) (EV : own_Env Z gg) (X00 : Old Z n0 h0) (A : own_ALs Z h0 a ed [u] 10 mc) (hk2 : kk ≤ 2) (Du : own_In Z gg h0 u kk) :
    own_M l yM80 prog_11_method_5_code 4 (some (.object "java/util/List")) ws (rK 9 21 150 130) #[(.ref a)] Z h0 (QMa1 Z a ed mc u gg kk h0 n0) := by
  refine own_open (plainFor_of_name pn2) dB75 fun p e s m b0 meth c s₁ S0 hx D hby hml hown hnm hret hlk hZ X0 e0 c0 => ?_
  replace c0 : Sx p e b0 S0 s₁ (mkF m 0 (a157 a) []) := c0
  have Hw := @own_Hw _ _ hw
  have N0 := Fr.nil n0
  have Nf := N0
  have hO := X00
  have hKp := Keep.refl h0 []
  have Zh := Z0
  obtain ⟨cq2, kq2, q2a, q2b, q2c⟩ := isOf hZ e0 A.1
  obtain ⟨_, _, ⟨T2, L2, k2, n2⟩, -, X2, ⟨Lc2, hQ2, l2, y2, z2⟩, st2⟩ := X0.interfaceBack hx (xi := yM81) (y := yM33) (C := "java/util/ArrayList") hown (mvT hZ (Hw 420 rfl)) (mvT hZ (Hw 421 rfl)) (mvT hZ (Hw 422 rfl)) (mvT hZ (Hw 423 rfl)) (mvT hZ (Hw 424 rfl)) (mvT hZ (Hw 425 rfl)) (mvT hZ (Hw 426 rfl)) (mvT hZ (Hw 427 rfl)) (by decide) (backOf (W := 0) (rmAg l Z a0 hw [] a ed [u] 10 mc 0 u h0 n0 Zh A rfl) hZ (Hw 428 rfl) (Hw 116 rfl) (by decide) (by decide)) q2a q2b q2c (g := (mkF m 2 (a157 a) [(.int J0), (.ref a)])) rfl hml.symm (Steps.refl _) (argsL := [(.int J0)]) (rest := []) (lenOf pd10 rfl) rfl (nE rfl) (D 2 rfl) (fun _ _ => ⟨rfl, e0, (by decide : 0 + 0 ≤ _), (by decide : 0 + 0 ≤ _)⟩)
  dsimp only [Pt.U, Pt.locs, Pt.cells, Pt.slots] at X2 l2 y2 z2 st2 hQ2
  subst l2 y2 z2
  obtain ⟨rfl, N1, e1⟩ := hQ2
  have c2 : Sx p e b0 S0 T2 (mkF m 7 (a157 a) [(.ref u)]) := c0.trans (qA X0 hx rfl (D 0 rfl) rfl rfl (qc X0 hx rfl (D 1 rfl) (st2)))
  have Nf := Fr.app Nf N1
  obtain ⟨T3, X3, e3, st3⟩ := castY X2 hx hZ hown (Hw 63 rfl) e1 (Ins.self Du.1) (g := (mkF m 7 (a157 a) [(.ref u)])) rfl rfl (D 3 rfl)
  have c3 : Sx p e b0 S0 T3 (mkF m 10 (a157 a) [(.ref u)]) := c2.trans (st3 _ (Steps.refl _))
  obtain ⟨cq4, kq4, q4a, q4b, q4c⟩ := isOf hZ e3 Du.1
  obtain ⟨_, _, ⟨T4, L4, k4, n4⟩, -, X4, ⟨Lc4, hQ4, l4, y4, z4⟩, st4⟩ := X3.virtualBack hx (y := yM78) (z := yM78) hown (mvT hZ (Hw 442 rfl)) (mvT hZ (Hw 443 rfl)) (notFace_of_selects (args := #[]) (mvT hZ (Hw 445 rfl))) (mvT hZ (Hw 445 rfl)) (mvT hZ (Hw 444 rfl)) (by decide) (backOf (W := 0) (rmGp l Z a0 hw [] u kk gg h0 n0 Zh EV hO Du hk2) hZ (Hw 446 rfl) (Hw 54 rfl) (by decide) (by decide)) q4a q4c (g := (mkF m 10 (a157 a) [(.ref u)])) rfl hml.symm (Steps.refl _) (argsL := []) (rest := []) (lenOf pd41 rfl) rfl (nE rfl) (D 4 rfl) (fun _ _ => ⟨rfl, e3, (by decide : 0 + 6 ≤ _), (by decide : 0 + 45 ≤ _)⟩)
  dsimp only [Pt.U, Pt.locs, Pt.cells, Pt.slots] at X4 l4 y4 z4 st4 hQ4
  subst l4 y4 z4
  obtain ⟨⟨ga, ged, gxs, gN, gmc, rfl, Ag, hgl⟩, N1, K1⟩ := hQ4
  have c4 : Sx p e b0 S0 T4 (mkF m 13 (a157 a) [(.ref ga)]) := c3.trans st4
  have Nf := Fr.app Nf N1
  have Zh := nT Zh K1.1
  have hO := hO.keep K1 all0
  have hKp := hKp.trans K1 all0
  have A := A.keep0 K1
  have Du := Du.keep0 K1
  obtain ⟨cq5, kq5, q5a, q5b, q5c⟩ := isOf hZ rfl Ag.1
  obtain ⟨_, _, ⟨T5, L5, k5, n5⟩, -, X5, ⟨Lc5, hQ5, l5, y5, z5⟩, st5⟩ := X4.interfaceBack hx (xi := yM82) (y := yM28) (C := "java/util/ArrayList") hown (mvT hZ (Hw 476 rfl)) (mvT hZ (Hw 477 rfl)) (mvT hZ (Hw 478 rfl)) (mvT hZ (Hw 479 rfl)) (mvT hZ (Hw 480 rfl)) (mvT hZ (Hw 481 rfl)) (mvT hZ (Hw 482 rfl)) (mvT hZ (Hw 427 rfl)) (by decide) (backOf (W := 0) (rmAz l Z a0 hw [] ga ged gxs gN gmc T4.heap n0 Zh Ag) hZ (Hw 483 rfl) (Hw 116 rfl) (by decide) (by decide)) q5a q5b q5c (g := (mkF m 13 (a157 a) [(.ref ga)])) rfl hml.symm (Steps.refl _) (argsL := []) (rest := []) (lenOf pd25 rfl) rfl (nE rfl) (D 5 rfl) (fun _ _ => ⟨rfl, rfl, (by decide : 6 + 0 ≤ _), (by decide : 45 + 0 ≤ _)⟩)
  dsimp only [Pt.U, Pt.locs, Pt.cells, Pt.slots] at X5 l5 y5 z5 st5 hQ5
  subst l5 y5 z5
  obtain ⟨rfl, N1, e1⟩ := hQ5
  have c5 : Sx p e b0 S0 T5 (mkF m 18 (a157 a) [(.int (Int32.ofNat gxs.length))]) := c4.trans st5
  have Nf := Fr.app Nf N1
  rw [hgl] at c5
  obtain ⟨cq8, kq8, q8a, q8b, q8c⟩ := isOf hZ e1 A.1
  obtain ⟨_, _, ⟨T8, L8, k8, n8⟩, -, X8, ⟨Lc8, hQ8, l8, y8, z8⟩, st8⟩ := X5.interfaceBack hx (xi := yM82) (y := yM28) (C := "java/util/ArrayList") hown (mvT hZ (Hw 476 rfl)) (mvT hZ (Hw 477 rfl)) (mvT hZ (Hw 478 rfl)) (mvT hZ (Hw 479 rfl)) (mvT hZ (Hw 480 rfl)) (mvT hZ (Hw 481 rfl)) (mvT hZ (Hw 482 rfl)) (mvT hZ (Hw 427 rfl)) (by decide) (backOf (W := 1) (rmAz l Z a0 hw [] a ed [u] 10 mc T4.heap n0 Zh A) hZ (Hw 483 rfl) (Hw 116 rfl) (by decide) (by decide)) q8a q8b q8c (g := (mkF m 23 (a115 a (Int32.ofNat (1 + kk)) J1) [(.ref a), (.int J1)])) rfl hml.symm (Steps.refl _) (argsL := []) (rest := [(.int J1)]) (lenOf pd25 rfl) rfl (nE rfl) (D 11 rfl) (fun _ _ => ⟨rfl, e1, (by decide : 6 + 0 ≤ _), (by decide : 45 + 0 ≤ _)⟩)
  dsimp only [Pt.U, Pt.locs, Pt.cells, Pt.slots] at X8 l8 y8 z8 st8 hQ8
  subst l8 y8 z8
  obtain ⟨rfl, N1, e1⟩ := hQ8
  have c8 : Sx p e b0 S0 T8 (mkF m 28 (a115 a (Int32.ofNat (1 + kk)) J1) [(.int J1), (.int J1)]) := c5.trans (XS.istoreN X5.here hx rfl (D 6 rfl) rfl (l' := (a114 a (Int32.ofNat (1 + kk)))) rfl (qc X5 hx rfl (D 7 rfl) (XS.istoreN X5.here hx rfl (D 8 rfl) rfl (l' := (a115 a (Int32.ofNat (1 + kk)) J1)) rfl (qI X5 hx rfl (D 9 rfl) rfl (qA X5 hx rfl (D 10 rfl) rfl rfl (st8))))))
  have Nf := Fr.app Nf N1
  obtain ⟨_, _, ⟨T11, L11, k11, n11⟩, -, X11, ⟨Lc11, hQ11, l11, y11, z11⟩, st11⟩ := Jvm.LawKit.callS X8 hx (y := yM72) hown (mvT hZ (Hw 94 rfl)) (mvT hZ (Hw 95 rfl)) (mvT hZ (Hw 67 rfl)) (mvT hZ (Hw 96 rfl)) (by decide) (backOf (W := 0) (rmCx1 l Z a0 hw [] a ed mc u gg T4.heap n0 Zh EV hO A Du.1) hZ (Hw 96 rfl) (Hw 67 rfl) (by decide) (by decide)) (g := (mkF m 106 (a115 a (Int32.ofNat (1 + kk)) J1) [(.ref a)])) rfl hml.symm (argsL := [(.ref a)]) (rest := []) (lenOf pd33 rfl) rfl (nE rfl) (D 26 rfl) (fun _ _ => ⟨rfl, e1, (by decide : 6 + 3 ≤ _), (by decide : 45 + 15 ≤ _)⟩)
  dsimp only [Pt.U, Pt.locs, Pt.cells, Pt.slots] at X11 l11 y11 z11 st11 hQ11
  subst l11 y11 z11
  obtain ⟨⟨r, rfl, zr, Dr⟩, N1, K1⟩ := hQ11
  have c11 : Sx p e b0 S0 T11 (mkF m 109 (a115 a (Int32.ofNat (1 + kk)) J1) [(.ref r)]) := c8.trans (XS.icmpYes X8.here hx rfl (pc0 := 28) (pc' := 105) rfl (D 12 rfl) rfl (flt (by decide)).2.1 (by decide) (by decide) (qA X8 hx rfl (D 25 rfl) rfl rfl (st11 _ (Steps.refl _))))
  obtain ⟨fs, hr, r1, r2, hW, r4⟩ := X11.leave (v := some (.ref r)) (nV hret)
  refine ⟨_, _, c11.trans ?_, r1, r2, _, _, rfl, ?_, ⟨_, rfl⟩, hW, r4.mono (by decide) (by decide)⟩
  · exact retA X11 hx hret rfl rfl (D 27 rfl) hr
  · show QMa1 Z a ed mc u gg kk h0 n0 _ T11.heap _
    exact ⟨⟨_, rfl, nT hKp.1 zr, Dr⟩, Fr.app Nf N1, hKp.trans K1 all0⟩
def QLx2 (Z : State) (a ed : Addr) (mc : Int32) (u y : Addr) (gg : own_G) (h0 : Heap) (n0 : Nat) (v : Option Value) (h : Heap) (L : List Loc) : Prop := (∃ r : Addr, v = some (.ref r) ∧ h0.size ≤ r ∧ Exa Z h r own_L12 ∧ Fld Z h r own_L12 "e0" "Ljava/lang/Object;" (.ref u) ∧ Fld Z h r own_L12 "e1" "Ljava/lang/Object;" (.ref y)) ∧ Fr n0 L ∧ Keep h0 h []
theorem rmLx2 (l : Launch) (Z : State) (a0 : Array Value) (hw : HW a0 Z) (ws : List Jvm.Cond) (a ed : Addr) (mc : Int32) (u y : Addr) (gg : own_G) (h0 : Heap) (n0 : Nat) (Z0 : n0 ≤ h0.size) (EV : own_Env Z gg) (X00 : Old Z n0 h0) (A : own_ALs Z h0 a ed [u, y] 10 mc) (Eu : Exa Z h0 u own_INn) (Ey : Exa Z h0 y own_INn) :
    own_M l yM71 jdk_56_method_3_code 2 (some (.object "java/util/List")) ws (rK 7 3 15 100) #[(.ref a)] Z h0 (QLx2 Z a ed mc u y gg h0 n0) := by
  refine own_open (by decide +kernel) dB69 fun p e s m b0 meth c s₁ S0 hx D hby hml hown hnm hret hlk hZ X0 e0 c0 => ?_
  replace c0 : Sx p e b0 S0 s₁ (mkF m 0 #[vR a, uU] []) := c0
  have Hw := @own_Hw _ _ hw
  have N0 := Fr.nil n0
  obtain ⟨T2, X2, e2, st2⟩ := instNo X0 hx hZ hown (Hw 100 rfl) e0 A.1 (own_no (Hw 484 rfl) (Hw 451 rfl) (NS.step (Hw 484 rfl) (NS.step (Hw 485 rfl) (NS.step (Hw 104 rfl) (own_root (Hw 105 rfl) (Hw 451 rfl) (by decide)) (by decide)) (by decide)) (by decide)) (by decide)) (g := (mkF m 1 #[vR a, uU] [(.ref a)])) rfl rfl (D 1 rfl)
  have c2 : Sx p e b0 S0 T2 (mkF m 4 #[vR a, uU] [(.int J0)]) := c0.trans (qA X0 hx rfl (D 0 rfl) rfl rfl (st2 _ (Steps.refl _)))
  obtain ⟨T5, X5, e5, st5⟩ := instNo X2 hx hZ hown (Hw 106 rfl) e2 A.1 (own_no (Hw 484 rfl) (Hw 130 rfl) (NS.step (Hw 484 rfl) (NS.step (Hw 485 rfl) (NS.step (Hw 104 rfl) (own_root (Hw 105 rfl) (Hw 130 rfl) (by decide)) (by decide)) (by decide)) (by decide)) (by decide)) (g := (mkF m 8 #[vR a, uU] [(.ref a)])) rfl rfl (D 4 rfl)
  have c5 : Sx p e b0 S0 T5 (mkF m 11 #[vR a, uU] [(.int J0)]) := c2.trans (XS.ifNo X2.here hx rfl (D 2 rfl) rfl ((if0 _ _).trans (teq rfl).2) (qA X2 hx rfl (D 3 rfl) rfl rfl (st5 _ (Steps.refl _))))
  obtain ⟨cq8, kq8, q8a, q8b, q8c⟩ := isOf hZ e5 A.1
  obtain ⟨_, _, ⟨T8, L8, k8, n8⟩, -, X8, ⟨Lc8, hQ8, l8, y8, z8⟩, st8⟩ := X5.interfaceBack hx (xi := yM79) (y := yM29) (C := "java/util/ArrayList") hown (mvT hZ (Hw 486 rfl)) (mvT hZ (Hw 487 rfl)) (mvT hZ (Hw 488 rfl)) (mvT hZ (Hw 489 rfl)) (mvT hZ (Hw 490 rfl)) (mvT hZ (Hw 491 rfl)) (mvT hZ (Hw 492 rfl)) (mvT hZ (Hw 493 rfl)) (by decide) (backOf (W := 0) (rmAe l Z a0 hw [] a ed [u, y] 10 mc h0 n0 Z0 A (Nat.le_of_ble_eq_true rfl)) hZ (Hw 494 rfl) (Hw 116 rfl) (by decide) (by decide)) q8a q8b q8c (g := (mkF m 32 #[vR a, uU] [(.ref a)])) rfl hml.symm (Steps.refl _) (argsL := []) (rest := []) (lenOf pd23 rfl) rfl (nE rfl) (D 16 rfl) (fun _ _ => ⟨rfl, e5, (by decide : 0 + 0 ≤ _), (by decide : 0 + 0 ≤ _)⟩)
  dsimp only [Pt.U, Pt.locs, Pt.cells, Pt.slots] at X8 l8 y8 z8 st8 hQ8
  subst l8 y8 z8
  obtain ⟨rfl, Na, ea⟩ := hQ8
  have c8 : Sx p e b0 S0 T8 (mkF m 37 #[vR a, uU] [(.int J0)]) := c5.trans (XS.ifYes X5.here hx rfl (pc0 := 11) (pc' := 31) rfl (D 5 rfl) rfl ((if0 _ _).trans (teq rfl).1) (by decide) (by decide) (qA X5 hx rfl (D 15 rfl) rfl rfl (st8)))
  obtain ⟨cq11, kq11, q11a, q11b, q11c⟩ := isOf hZ ea A.1
  obtain ⟨_, _, ⟨T11, L11, k11, n11⟩, -, X11, ⟨Lc11, hQ11, l11, y11, z11⟩, st11⟩ := X8.interfaceBack hx (xi := yM42) (y := yM34) (C := "java/util/ArrayList") hown (mvT hZ (Hw 495 rfl)) (mvT hZ (Hw 171 rfl)) (mvT hZ (Hw 172 rfl)) (mvT hZ (Hw 496 rfl)) (mvT hZ (Hw 497 rfl)) (mvT hZ (Hw 498 rfl)) (mvT hZ (Hw 499 rfl)) (mvT hZ (Hw 493 rfl)) (by decide) (backOf (W := 0) (rmAt l Z a0 hw [] a ed [u, y] 10 mc gg h0 n0 Z0 EV X00 A (own_El.cons (Ins.of_exa Eu (Hw 416 rfl)) (own_El.cons (Ins.of_exa Ey (Hw 416 rfl)) own_El.nil)) (Nat.le_of_ble_eq_true rfl)) hZ (Hw 500 rfl) (Hw 116 rfl) (by decide) (by decide)) q11a q11b q11c (g := (mkF m 45 #[vR a, uU] [(.ref a)])) rfl hml.symm (Steps.refl _) (argsL := []) (rest := []) (lenOf pd13 rfl) rfl (nE rfl) (D 19 rfl) (fun _ _ => ⟨rfl, ea, (by decide : 0 + 1 ≤ _), (by decide : 0 + 10 ≤ _)⟩)
  dsimp only [Pt.U, Pt.locs, Pt.cells, Pt.slots] at X11 l11 y11 z11 st11 hQ11
  subst l11 y11 z11
  obtain ⟨⟨b, rfl, zb, Ob⟩, N2, K2⟩ := hQ11
  have c11 : Sx p e b0 S0 T11 (mkF m 50 #[vR a, uU] [(.ref b)]) := c8.trans (XS.ifYes X8.here hx rfl (pc0 := 37) (pc' := 44) rfl (D 17 rfl) rfl ((if0 _ _).trans (teq rfl).1) (by decide) (by decide) (qA X8 hx rfl (D 18 rfl) rfl rfl (st11)))
  have Z2 := nT Z0 K2.1
  have X02 := X00.keep K2 all0
  obtain ⟨⟨kt, Vt, Ot⟩, -⟩ := id Ob
  have Eu := Eu.keep K2
  have Ey := Ey.keep K2
  obtain ⟨_, _, ⟨T12, L12, k12, n12⟩, -, X12, ⟨Lc12, hQ12, l12, y12, z12⟩, st12⟩ := Jvm.LawKit.callS X11 hx (y := yM27) hown (mvT hZ (Hw 502 rfl)) (mvT hZ (Hw 503 rfl)) (mvT hZ (Hw 67 rfl)) (mvT hZ (Hw 504 rfl)) (by decide) (backOf (W := 0) (rmOf2 l Z a0 hw [] b kt own_OB u y gg T11.heap n0 Z2 EV X02 Vt) hZ (Hw 504 rfl) (Hw 67 rfl) (by decide) (by decide)) (g := (mkF m 50 #[vR a, uU] [(.ref b)])) rfl hml.symm (argsL := [(.ref b)]) (rest := []) (lenOf pd7 rfl) rfl (nE rfl) (D 20 rfl) (fun _ _ => ⟨rfl, rfl, (by decide : 1 + 2 ≤ _), (by decide : 10 + 5 ≤ _)⟩)
  dsimp only [Pt.U, Pt.locs, Pt.cells, Pt.slots] at X12 l12 y12 z12 st12 hQ12
  subst l12 y12 z12
  obtain ⟨⟨r, rfl, zr, Dr⟩, N1, K1⟩ := hQ12
  have c12 : Sx p e b0 S0 T12 (mkF m 53 #[vR a, uU] [(.ref r)]) := c11.trans (st12 _ (Steps.refl _))
  obtain ⟨fs, hr, r1, r2, hW, r4⟩ := X12.leave (v := some (.ref r)) (nV hret)
  refine ⟨_, _, c12.trans ?_, r1, r2, _, _, rfl, ?_, ⟨_, rfl⟩, hW, r4.mono (by decide) (by decide)⟩
  · exact retA X12 hx hret rfl rfl (D 21 rfl) hr
  · show QLx2 Z a ed mc u y gg h0 n0 _ T12.heap _
    exact ⟨⟨_, rfl, nT K2.1 zr, Dr⟩, Fr.app (Fr.app (Fr.app N0 Na) N2) N1, K2.trans K1 all0⟩
def QCx2 (Z : State) (a ed : Addr) (mc : Int32) (u y : Addr) (gg : own_G) (h0 : Heap) (n0 : Nat) (v : Option Value) (h : Heap) (L : List Loc) : Prop := (∃ r : Addr, v = some (.ref r) ∧ h0.size ≤ r ∧ Exa Z h r own_L12 ∧ Fld Z h r own_L12 "e0" "Ljava/lang/Object;" (.ref u) ∧ Fld Z h r own_L12 "e1" "Ljava/lang/Object;" (.ref y)) ∧ Fr n0 L ∧ Keep h0 h []
theorem rmCx2 (l : Launch) (Z : State) (a0 : Array Value) (hw : HW a0 Z) (ws : List Jvm.Cond) (a ed : Addr) (mc : Int32) (u y : Addr) (gg : own_G) (h0 : Heap) (n0 : Nat) (Z0 : n0 ≤ h0.size) (EV : own_Env Z gg) (X00 : Old Z n0 h0) (A : own_ALs Z h0 a ed [u, y] 10 mc) (Eu : Exa Z h0 u own_INn) (Ey : Exa Z h0 y own_INn) :
    own_M l yM72 jdk_40_method_48_code 1 (some (.object "java/util/List")) ws (rK 8 3 15 114) #[(.ref a)] Z h0 (QCx2 Z a ed mc u y gg h0 n0) := by
  refine own_open (by decide +kernel) dB70 fun p e s m b0 meth c s₁ S0 hx D hby hml hown hnm hret hlk hZ X0 e0 c0 => ?_
  replace c0 : Sx p e b0 S0 s₁ (mkF m 0 #[vR a] []) := c0
  have Hw := @own_Hw _ _ hw
  have N0 := Fr.nil n0
  obtain ⟨_, _, ⟨T2, L2, k2, n2⟩, -, X2, ⟨Lc2, hQ2, l2, y2, z2⟩, st2⟩ := Jvm.LawKit.callS X0 hx (y := yM71) hown (mvT hZ (Hw 97 rfl)) (mvT hZ (Hw 98 rfl)) (mvT hZ (Hw 70 rfl)) (mvT hZ (Hw 99 rfl)) (by decide) (backOf (W := 0) (rmLx2 l Z a0 hw [] a ed mc u y gg h0 n0 Z0 EV X00 A Eu Ey) hZ (Hw 99 rfl) (Hw 70 rfl) (by decide) (by decide)) (g := (mkF m 1 #[vR a] [(.ref a)])) rfl hml.symm (argsL := [(.ref a)]) (rest := []) (lenOf pd33 rfl) rfl (nE rfl) (D 1 rfl) (fun _ _ => ⟨rfl, e0, (by decide : 0 + 3 ≤ _), (by decide : 0 + 15 ≤ _)⟩)
  dsimp only [Pt.U, Pt.locs, Pt.cells, Pt.slots] at X2 l2 y2 z2 st2 hQ2
  subst l2 y2 z2
  obtain ⟨⟨r, rfl, zr, Dr⟩, N1, K1⟩ := hQ2
  have c2 : Sx p e b0 S0 T2 (mkF m 4 #[vR a] [(.ref r)]) := c0.trans (qA X0 hx rfl (D 0 rfl) rfl rfl (st2 _ (Steps.refl _)))
  obtain ⟨fs, hr, r1, r2, hW, r4⟩ := X2.leave (v := some (.ref r)) (nV hret)
  refine ⟨_, _, c2.trans ?_, r1, r2, _, _, rfl, ?_, ⟨_, rfl⟩, hW, r4.mono (by decide) (by decide)⟩
  · exact retA X2 hx hret rfl rfl (D 2 rfl) hr
  · show QCx2 Z a ed mc u y gg h0 n0 _ T2.heap _
    exact ⟨⟨_, rfl, zr, Dr⟩, Fr.app N0 N1, K1⟩
def QMa2 (Z : State) (a ed : Addr) (mc : Int32) (u y : Addr) (gg : own_G) (kk : Nat) (h0 : Heap) (n0 : Nat) (v : Option Value) (h : Heap) (L : List Loc) : Prop := (∃ r : Addr, v = some (.ref r) ∧ h0.size ≤ r ∧ Exa Z h r own_L12 ∧ Fld Z h r own_L12 "e0" "Ljava/lang/Object;" (.ref u) ∧ Fld Z h r own_L12 "e1" "Ljava/lang/Object;" (.ref y)) ∧ Fr n0 L ∧ Keep h0 h []
theorem rmMa2 (l : Launch) (Z : State) (a0 : Array Value) (hw : HW a0 Z) (ws : List Jvm.Cond) (a ed : Addr) (mc : Int32) (u y : Addr) (gg : own_G) (kk : Nat) (h0 : Heap) (n0 : Nat) (Z0 : n0 ≤ h0.size) (EV : own_Env Z gg) (X00 : Old Z n0 h0) (A : own_ALs Z h0 a ed [u, y] 10 mc) (hk2 : kk ≤ 2) (Du : own_In Z gg h0 u kk) (Dy : own_In Z gg h0 y kk) :
    own_M l yM80 prog_11_method_5_code 4 (some (.object "java/util/List")) ws (rK 9 21 150 130) #[(.ref a)] Z h0 (QMa2 Z a ed mc u y gg kk h0 n0) := by
  refine own_open (plainFor_of_name pn2) dB75 fun p e s m b0 meth c s₁ S0 hx D hby hml hown hnm hret hlk hZ X0 e0 c0 => ?_
  replace c0 : Sx p e b0 S0 s₁ (mkF m 0 (a157 a) []) := c0
  have Hw := @own_Hw _ _ hw
  have N0 := Fr.nil n0
  have Nf := N0
  have hO := X00
  have hKp := Keep.refl h0 []
  have Zh := Z0
  obtain ⟨cq2, kq2, q2a, q2b, q2c⟩ := isOf hZ e0 A.1
  obtain ⟨_, _, ⟨T2, L2, k2, n2⟩, -, X2, ⟨Lc2, hQ2, l2, y2, z2⟩, st2⟩ := X0.interfaceBack hx (xi := yM81) (y := yM33) (C := "java/util/ArrayList") hown (mvT hZ (Hw 420 rfl)) (mvT hZ (Hw 421 rfl)) (mvT hZ (Hw 422 rfl)) (mvT hZ (Hw 423 rfl)) (mvT hZ (Hw 424 rfl)) (mvT hZ (Hw 425 rfl)) (mvT hZ (Hw 426 rfl)) (mvT hZ (Hw 427 rfl)) (by decide) (backOf (W := 0) (rmAg l Z a0 hw [] a ed [u, y] 10 mc 0 u h0 n0 Zh A rfl) hZ (Hw 428 rfl) (Hw 116 rfl) (by decide) (by decide)) q2a q2b q2c (g := (mkF m 2 (a157 a) [(.int J0), (.ref a)])) rfl hml.symm (Steps.refl _) (argsL := [(.int J0)]) (rest := []) (lenOf pd10 rfl) rfl (nE rfl) (D 2 rfl) (fun _ _ => ⟨rfl, e0, (by decide : 0 + 0 ≤ _), (by decide : 0 + 0 ≤ _)⟩)
  dsimp only [Pt.U, Pt.locs, Pt.cells, Pt.slots] at X2 l2 y2 z2 st2 hQ2
  subst l2 y2 z2
  obtain ⟨rfl, N1, e1⟩ := hQ2
  have c2 : Sx p e b0 S0 T2 (mkF m 7 (a157 a) [(.ref u)]) := c0.trans (qA X0 hx rfl (D 0 rfl) rfl rfl (qc X0 hx rfl (D 1 rfl) (st2)))
  have Nf := Fr.app Nf N1
  obtain ⟨T3, X3, e3, st3⟩ := castY X2 hx hZ hown (Hw 63 rfl) e1 (Ins.self Du.1) (g := (mkF m 7 (a157 a) [(.ref u)])) rfl rfl (D 3 rfl)
  have c3 : Sx p e b0 S0 T3 (mkF m 10 (a157 a) [(.ref u)]) := c2.trans (st3 _ (Steps.refl _))
  obtain ⟨cq4, kq4, q4a, q4b, q4c⟩ := isOf hZ e3 Du.1
  obtain ⟨_, _, ⟨T4, L4, k4, n4⟩, -, X4, ⟨Lc4, hQ4, l4, y4, z4⟩, st4⟩ := X3.virtualBack hx (y := yM78) (z := yM78) hown (mvT hZ (Hw 442 rfl)) (mvT hZ (Hw 443 rfl)) (notFace_of_selects (args := #[]) (mvT hZ (Hw 445 rfl))) (mvT hZ (Hw 445 rfl)) (mvT hZ (Hw 444 rfl)) (by decide) (backOf (W := 0) (rmGp l Z a0 hw [] u kk gg h0 n0 Zh EV hO Du hk2) hZ (Hw 446 rfl) (Hw 54 rfl) (by decide) (by decide)) q4a q4c (g := (mkF m 10 (a157 a) [(.ref u)])) rfl hml.symm (Steps.refl _) (argsL := []) (rest := []) (lenOf pd41 rfl) rfl (nE rfl) (D 4 rfl) (fun _ _ => ⟨rfl, e3, (by decide : 0 + 6 ≤ _), (by decide : 0 + 45 ≤ _)⟩)
  dsimp only [Pt.U, Pt.locs, Pt.cells, Pt.slots] at X4 l4 y4 z4 st4 hQ4
  subst l4 y4 z4
  obtain ⟨⟨ga, ged, gxs, gN, gmc, rfl, Ag, hgl⟩, N1, K1⟩ := hQ4
  have c4 : Sx p e b0 S0 T4 (mkF m 13 (a157 a) [(.ref ga)]) := c3.trans st4
  have Nf := Fr.app Nf N1
  have Zh := nT Zh K1.1
  have hO := hO.keep K1 all0
  have hKp := hKp.trans K1 all0
  have A := A.keep0 K1
  have Du := Du.keep0 K1
  have Dy := Dy.keep0 K1
  obtain ⟨cq5, kq5, q5a, q5b, q5c⟩ := isOf hZ rfl Ag.1
  obtain ⟨_, _, ⟨T5, L5, k5, n5⟩, -, X5, ⟨Lc5, hQ5, l5, y5, z5⟩, st5⟩ := X4.interfaceBack hx (xi := yM82) (y := yM28) (C := "java/util/ArrayList") hown (mvT hZ (Hw 476 rfl)) (mvT hZ (Hw 477 rfl)) (mvT hZ (Hw 478 rfl)) (mvT hZ (Hw 479 rfl)) (mvT hZ (Hw 480 rfl)) (mvT hZ (Hw 481 rfl)) (mvT hZ (Hw 482 rfl)) (mvT hZ (Hw 427 rfl)) (by decide) (backOf (W := 0) (rmAz l Z a0 hw [] ga ged gxs gN gmc T4.heap n0 Zh Ag) hZ (Hw 483 rfl) (Hw 116 rfl) (by decide) (by decide)) q5a q5b q5c (g := (mkF m 13 (a157 a) [(.ref ga)])) rfl hml.symm (Steps.refl _) (argsL := []) (rest := []) (lenOf pd25 rfl) rfl (nE rfl) (D 5 rfl) (fun _ _ => ⟨rfl, rfl, (by decide : 6 + 0 ≤ _), (by decide : 45 + 0 ≤ _)⟩)
  dsimp only [Pt.U, Pt.locs, Pt.cells, Pt.slots] at X5 l5 y5 z5 st5 hQ5
  subst l5 y5 z5
  obtain ⟨rfl, N1, e1⟩ := hQ5
  have c5 : Sx p e b0 S0 T5 (mkF m 18 (a157 a) [(.int (Int32.ofNat gxs.length))]) := c4.trans st5
  have Nf := Fr.app Nf N1
  rw [hgl] at c5
  obtain ⟨cq8, kq8, q8a, q8b, q8c⟩ := isOf hZ e1 A.1
  obtain ⟨_, _, ⟨T8, L8, k8, n8⟩, -, X8, ⟨Lc8, hQ8, l8, y8, z8⟩, st8⟩ := X5.interfaceBack hx (xi := yM82) (y := yM28) (C := "java/util/ArrayList") hown (mvT hZ (Hw 476 rfl)) (mvT hZ (Hw 477 rfl)) (mvT hZ (Hw 478 rfl)) (mvT hZ (Hw 479 rfl)) (mvT hZ (Hw 480 rfl)) (mvT hZ (Hw 481 rfl)) (mvT hZ (Hw 482 rfl)) (mvT hZ (Hw 427 rfl)) (by decide) (backOf (W := 1) (rmAz l Z a0 hw [] a ed [u, y] 10 mc T4.heap n0 Zh A) hZ (Hw 483 rfl) (Hw 116 rfl) (by decide) (by decide)) q8a q8b q8c (g := (mkF m 23 (a115 a (Int32.ofNat (1 + kk)) J1) [(.ref a), (.int J1)])) rfl hml.symm (Steps.refl _) (argsL := []) (rest := [(.int J1)]) (lenOf pd25 rfl) rfl (nE rfl) (D 11 rfl) (fun _ _ => ⟨rfl, e1, (by decide : 6 + 0 ≤ _), (by decide : 45 + 0 ≤ _)⟩)
  dsimp only [Pt.U, Pt.locs, Pt.cells, Pt.slots] at X8 l8 y8 z8 st8 hQ8
  subst l8 y8 z8
  obtain ⟨rfl, N1, e1⟩ := hQ8
  have c8 : Sx p e b0 S0 T8 (mkF m 28 (a115 a (Int32.ofNat (1 + kk)) J1) [(.int J2), (.int J1)]) := c5.trans (XS.istoreN X5.here hx rfl (D 6 rfl) rfl (l' := (a114 a (Int32.ofNat (1 + kk)))) rfl (qc X5 hx rfl (D 7 rfl) (XS.istoreN X5.here hx rfl (D 8 rfl) rfl (l' := (a115 a (Int32.ofNat (1 + kk)) J1)) rfl (qI X5 hx rfl (D 9 rfl) rfl (qA X5 hx rfl (D 10 rfl) rfl rfl (st8))))))
  have Nf := Fr.app Nf N1
  obtain ⟨cq11, kq11, q11a, q11b, q11c⟩ := isOf hZ e1 A.1
  obtain ⟨_, _, ⟨T11, L11, k11, n11⟩, -, X11, ⟨Lc11, hQ11, l11, y11, z11⟩, st11⟩ := X8.interfaceBack hx (xi := yM81) (y := yM33) (C := "java/util/ArrayList") hown (mvT hZ (Hw 420 rfl)) (mvT hZ (Hw 421 rfl)) (mvT hZ (Hw 422 rfl)) (mvT hZ (Hw 423 rfl)) (mvT hZ (Hw 424 rfl)) (mvT hZ (Hw 425 rfl)) (mvT hZ (Hw 426 rfl)) (mvT hZ (Hw 427 rfl)) (by decide) (backOf (W := 0) (rmAg l Z a0 hw [] a ed [u, y] 10 mc 1 y T4.heap n0 Zh A rfl) hZ (Hw 428 rfl) (Hw 116 rfl) (by decide) (by decide)) q11a q11b q11c (g := (mkF m 33 (a115 a (Int32.ofNat (1 + kk)) J1) [(.int J1), (.ref a)])) rfl hml.symm (Steps.refl _) (argsL := [(.int J1)]) (rest := []) (lenOf pd10 rfl) rfl (nE rfl) (D 15 rfl) (fun _ _ => ⟨rfl, e1, (by decide : 6 + 0 ≤ _), (by decide : 45 + 0 ≤ _)⟩)
  dsimp only [Pt.U, Pt.locs, Pt.cells, Pt.slots] at X11 l11 y11 z11 st11 hQ11
  subst l11 y11 z11
  obtain ⟨rfl, N1, e1⟩ := hQ11
  have c11 : Sx p e b0 S0 T11 (mkF m 38 (a115 a (Int32.ofNat (1 + kk)) J1) [(.ref y)]) := c8.trans (XS.icmpNo X8.here hx rfl (D 12 rfl) rfl (tlt (by decide)).2.1 (qA X8 hx rfl (D 13 rfl) rfl rfl (qI X8 hx rfl (D 14 rfl) rfl (st11))))
  have Nf := Fr.app Nf N1
  obtain ⟨T12, X12, e12, st12⟩ := castY X11 hx hZ hown (Hw 63 rfl) e1 (Ins.self Dy.1) (g := (mkF m 38 (a115 a (Int32.ofNat (1 + kk)) J1) [(.ref y)])) rfl rfl (D 16 rfl)
  have c12 : Sx p e b0 S0 T12 (mkF m 41 (a115 a (Int32.ofNat (1 + kk)) J1) [(.ref y)]) := c11.trans (st12 _ (Steps.refl _))
  obtain ⟨cq13, kq13, q13a, q13b, q13c⟩ := isOf hZ e12 Dy.1
  obtain ⟨_, _, ⟨T13, L13, k13, n13⟩, -, X13, ⟨Lc13, hQ13, l13, y13, z13⟩, st13⟩ := X12.virtualBack hx (y := yM78) (z := yM78) hown (mvT hZ (Hw 442 rfl)) (mvT hZ (Hw 443 rfl)) (notFace_of_selects (args := #[]) (mvT hZ (Hw 445 rfl))) (mvT hZ (Hw 445 rfl)) (mvT hZ (Hw 444 rfl)) (by decide) (backOf (W := 0) (rmGp l Z a0 hw [] y kk gg T4.heap n0 Zh EV hO Dy hk2) hZ (Hw 446 rfl) (Hw 54 rfl) (by decide) (by decide)) q13a q13c (g := (mkF m 41 (a115 a (Int32.ofNat (1 + kk)) J1) [(.ref y)])) rfl hml.symm (Steps.refl _) (argsL := []) (rest := []) (lenOf pd41 rfl) rfl (nE rfl) (D 17 rfl) (fun _ _ => ⟨rfl, e12, (by decide : 6 + 6 ≤ _), (by decide : 45 + 45 ≤ _)⟩)
  dsimp only [Pt.U, Pt.locs, Pt.cells, Pt.slots] at X13 l13 y13 z13 st13 hQ13
  subst l13 y13 z13
  obtain ⟨⟨ga, ged, gxs, gN, gmc, rfl, Ag, hgl⟩, N1, K1⟩ := hQ13
  have c13 : Sx p e b0 S0 T13 (mkF m 44 (a115 a (Int32.ofNat (1 + kk)) J1) [(.ref ga)]) := c12.trans st13
  have Nf := Fr.app Nf N1
  have Zh := nT Zh K1.1
  have hO := hO.keep K1 all0
  have hKp := hKp.trans K1 all0
  have A := A.keep0 K1
  have Du := Du.keep0 K1
  have Dy := Dy.keep0 K1
  obtain ⟨cq14, kq14, q14a, q14b, q14c⟩ := isOf hZ rfl Ag.1
  obtain ⟨_, _, ⟨T14, L14, k14, n14⟩, -, X14, ⟨Lc14, hQ14, l14, y14, z14⟩, st14⟩ := X13.interfaceBack hx (xi := yM82) (y := yM28) (C := "java/util/ArrayList") hown (mvT hZ (Hw 476 rfl)) (mvT hZ (Hw 477 rfl)) (mvT hZ (Hw 478 rfl)) (mvT hZ (Hw 479 rfl)) (mvT hZ (Hw 480 rfl)) (mvT hZ (Hw 481 rfl)) (mvT hZ (Hw 482 rfl)) (mvT hZ (Hw 427 rfl)) (by decide) (backOf (W := 0) (rmAz l Z a0 hw [] ga ged gxs gN gmc T13.heap n0 Zh Ag) hZ (Hw 483 rfl) (Hw 116 rfl) (by decide) (by decide)) q14a q14b q14c (g := (mkF m 44 (a115 a (Int32.ofNat (1 + kk)) J1) [(.ref ga)])) rfl hml.symm (Steps.refl _) (argsL := []) (rest := []) (lenOf pd25 rfl) rfl (nE rfl) (D 18 rfl) (fun _ _ => ⟨rfl, rfl, (by decide : 12 + 0 ≤ _), (by decide : 90 + 0 ≤ _)⟩)
  dsimp only [Pt.U, Pt.locs, Pt.cells, Pt.slots] at X14 l14 y14 z14 st14 hQ14
  subst l14 y14 z14
  obtain ⟨rfl, N1, e1⟩ := hQ14
  have c14 : Sx p e b0 S0 T14 (mkF m 49 (a115 a (Int32.ofNat (1 + kk)) J1) [(.int (Int32.ofNat gxs.length))]) := c13.trans st14
  have Nf := Fr.app Nf N1
  rw [hgl] at c14
  obtain ⟨cq18, kq18, q18a, q18b, q18c⟩ := isOf hZ e1 A.1
  obtain ⟨_, _, ⟨T18, L18, k18, n18⟩, -, X18, ⟨Lc18, hQ18, l18, y18, z18⟩, st18⟩ := X14.interfaceBack hx (xi := yM82) (y := yM28) (C := "java/util/ArrayList") hown (mvT hZ (Hw 476 rfl)) (mvT hZ (Hw 477 rfl)) (mvT hZ (Hw 478 rfl)) (mvT hZ (Hw 479 rfl)) (mvT hZ (Hw 480 rfl)) (mvT hZ (Hw 481 rfl)) (mvT hZ (Hw 482 rfl)) (mvT hZ (Hw 427 rfl)) (by decide) (backOf (W := 1) (rmAz l Z a0 hw [] a ed [u, y] 10 mc T13.heap n0 Zh A) hZ (Hw 483 rfl) (Hw 116 rfl) (by decide) (by decide)) q18a q18b q18c (g := (mkF m 23 (a116 a (Int32.ofNat (1 + kk)) (J1 + J1) (Int32.ofNat (1 + kk))) [(.ref a), (.int (J1 + J1))])) rfl hml.symm (Steps.refl _) (argsL := []) (rest := [(.int (J1 + J1))]) (lenOf pd25 rfl) rfl (nE rfl) (D 11 rfl) (fun _ _ => ⟨rfl, e1, (by decide : 12 + 0 ≤ _), (by decide : 90 + 0 ≤ _)⟩)
  dsimp only [Pt.U, Pt.locs, Pt.cells, Pt.slots] at X18 l18 y18 z18 st18 hQ18
  subst l18 y18 z18
  obtain ⟨rfl, N1, e1⟩ := hQ18
  have c18 : Sx p e b0 S0 T18 (mkF m 28 (a116 a (Int32.ofNat (1 + kk)) (J1 + J1) (Int32.ofNat (1 + kk))) [(.int J2), (.int (J1 + J1))]) := c14.trans (XS.istoreN X14.here hx rfl (D 19 rfl) rfl (l' := (a116 a (Int32.ofNat (1 + kk)) J1 (Int32.ofNat (1 + kk)))) rfl (qI X14 hx rfl (D 20 rfl) rfl (qI X14 hx rfl (D 21 rfl) rfl (XS.icmpYes X14.here hx rfl (pc0 := 52) (pc' := 99) rfl (D 22 rfl) rfl (teq rfl).1 (by decide) (by decide) (XS.iinc X14.here hx rfl (D 23 rfl) rfl (l' := (a116 a (Int32.ofNat (1 + kk)) (J1 + J1) (Int32.ofNat (1 + kk)))) rfl (XS.goto X14.here hx rfl (pc0 := 102) (pc' := 21) rfl (D 24 rfl) (by decide) (by decide) (qI X14 hx rfl (D 9 rfl) rfl (qA X14 hx rfl (D 10 rfl) rfl rfl (st18)))))))))
  have Nf := Fr.app Nf N1
  obtain ⟨_, _, ⟨T21, L21, k21, n21⟩, -, X21, ⟨Lc21, hQ21, l21, y21, z21⟩, st21⟩ := Jvm.LawKit.callS X18 hx (y := yM72) hown (mvT hZ (Hw 94 rfl)) (mvT hZ (Hw 95 rfl)) (mvT hZ (Hw 67 rfl)) (mvT hZ (Hw 96 rfl)) (by decide) (backOf (W := 0) (rmCx2 l Z a0 hw [] a ed mc u y gg T13.heap n0 Zh EV hO A Du.1 Dy.1) hZ (Hw 96 rfl) (Hw 67 rfl) (by decide) (by decide)) (g := (mkF m 106 (a116 a (Int32.ofNat (1 + kk)) (J1 + J1) (Int32.ofNat (1 + kk))) [(.ref a)])) rfl hml.symm (argsL := [(.ref a)]) (rest := []) (lenOf pd33 rfl) rfl (nE rfl) (D 26 rfl) (fun _ _ => ⟨rfl, e1, (by decide : 12 + 3 ≤ _), (by decide : 90 + 15 ≤ _)⟩)
  dsimp only [Pt.U, Pt.locs, Pt.cells, Pt.slots] at X21 l21 y21 z21 st21 hQ21
  subst l21 y21 z21
  obtain ⟨⟨r, rfl, zr, Dr⟩, N1, K1⟩ := hQ21
  have c21 : Sx p e b0 S0 T21 (mkF m 109 (a116 a (Int32.ofNat (1 + kk)) (J1 + J1) (Int32.ofNat (1 + kk))) [(.ref r)]) := c18.trans (XS.icmpYes X18.here hx rfl (pc0 := 28) (pc' := 105) rfl (D 12 rfl) rfl (flt (by decide)).2.1 (by decide) (by decide) (qA X18 hx rfl (D 25 rfl) rfl rfl (st21 _ (Steps.refl _))))
  obtain ⟨fs, hr, r1, r2, hW, r4⟩ := X21.leave (v := some (.ref r)) (nV hret)
  refine ⟨_, _, c21.trans ?_, r1, r2, _, _, rfl, ?_, ⟨_, rfl⟩, hW, r4.mono (by decide) (by decide)⟩
  · exact retA X21 hx hret rfl rfl (D 27 rfl) hr
  · show QMa2 Z a ed mc u y gg kk h0 n0 _ T21.heap _
    exact ⟨⟨_, rfl, nT hKp.1 zr, Dr⟩, Fr.app Nf N1, hKp.trans K1 all0⟩
def QLx3 (Z : State) (a ed : Addr) (mc : Int32) (x0 x1 x2 : Addr) (gg : own_G) (h0 : Heap) (n0 : Nat) (v : Option Value) (h : Heap) (L : List Loc) : Prop := (∃ r t : Addr, v = some (.ref r) ∧ h0.size ≤ r ∧ Exa Z h r own_LN ∧ Fld Z h r own_LN "elements" "[Ljava/lang/Object;" (.ref t) ∧ own_OA Z h t [x0, x1, x2] 3) ∧ Fr n0 L ∧ Keep h0 h []
theorem rmLx3 (l : Launch) (Z : State) (a0 : Array Value) (hw : HW a0 Z) (ws : List Jvm.Cond) (a ed : Addr) (mc : Int32) (x0 x1 x2 : Addr) (gg : own_G) (h0 : Heap) (n0 : Nat) (Z0 : n0 ≤ h0.size) (EV : own_Env Z gg) (X00 : Old Z n0 h0) (A : own_ALs Z h0 a ed [x0, x1, x2] 10 mc) (Ex0 : Exa Z h0 x0 own_INn) (Ex1 : Exa Z h0 x1 own_INn) (Ex2 : Exa Z h0 x2 own_INn) :
    own_M l yM71 jdk_56_method_3_code 2 (some (.object "java/util/List")) ws (rK 7 3 15 100) #[(.ref a)] Z h0 (QLx3 Z a ed mc x0 x1 x2 gg h0 n0) := by
  refine own_open (by decide +kernel) dB69 fun p e s m b0 meth c s₁ S0 hx D hby hml hown hnm hret hlk hZ X0 e0 c0 => ?_
  replace c0 : Sx p e b0 S0 s₁ (mkF m 0 #[vR a, uU] []) := c0
  have Hw := @own_Hw _ _ hw
  have N0 := Fr.nil n0
  obtain ⟨T2, X2, e2, st2⟩ := instNo X0 hx hZ hown (Hw 100 rfl) e0 A.1 (own_no (Hw 484 rfl) (Hw 451 rfl) (NS.step (Hw 484 rfl) (NS.step (Hw 485 rfl) (NS.step (Hw 104 rfl) (own_root (Hw 105 rfl) (Hw 451 rfl) (by decide)) (by decide)) (by decide)) (by decide)) (by decide)) (g := (mkF m 1 #[vR a, uU] [(.ref a)])) rfl rfl (D 1 rfl)
  have c2 : Sx p e b0 S0 T2 (mkF m 4 #[vR a, uU] [(.int J0)]) := c0.trans (qA X0 hx rfl (D 0 rfl) rfl rfl (st2 _ (Steps.refl _)))
  obtain ⟨T5, X5, e5, st5⟩ := instNo X2 hx hZ hown (Hw 106 rfl) e2 A.1 (own_no (Hw 484 rfl) (Hw 130 rfl) (NS.step (Hw 484 rfl) (NS.step (Hw 485 rfl) (NS.step (Hw 104 rfl) (own_root (Hw 105 rfl) (Hw 130 rfl) (by decide)) (by decide)) (by decide)) (by decide)) (by decide)) (g := (mkF m 8 #[vR a, uU] [(.ref a)])) rfl rfl (D 4 rfl)
  have c5 : Sx p e b0 S0 T5 (mkF m 11 #[vR a, uU] [(.int J0)]) := c2.trans (XS.ifNo X2.here hx rfl (D 2 rfl) rfl ((if0 _ _).trans (teq rfl).2) (qA X2 hx rfl (D 3 rfl) rfl rfl (st5 _ (Steps.refl _))))
  obtain ⟨cq8, kq8, q8a, q8b, q8c⟩ := isOf hZ e5 A.1
  obtain ⟨_, _, ⟨T8, L8, k8, n8⟩, -, X8, ⟨Lc8, hQ8, l8, y8, z8⟩, st8⟩ := X5.interfaceBack hx (xi := yM79) (y := yM29) (C := "java/util/ArrayList") hown (mvT hZ (Hw 486 rfl)) (mvT hZ (Hw 487 rfl)) (mvT hZ (Hw 488 rfl)) (mvT hZ (Hw 489 rfl)) (mvT hZ (Hw 490 rfl)) (mvT hZ (Hw 491 rfl)) (mvT hZ (Hw 492 rfl)) (mvT hZ (Hw 493 rfl)) (by decide) (backOf (W := 0) (rmAe l Z a0 hw [] a ed [x0, x1, x2] 10 mc h0 n0 Z0 A (Nat.le_of_ble_eq_true rfl)) hZ (Hw 494 rfl) (Hw 116 rfl) (by decide) (by decide)) q8a q8b q8c (g := (mkF m 32 #[vR a, uU] [(.ref a)])) rfl hml.symm (Steps.refl _) (argsL := []) (rest := []) (lenOf pd23 rfl) rfl (nE rfl) (D 16 rfl) (fun _ _ => ⟨rfl, e5, (by decide : 0 + 0 ≤ _), (by decide : 0 + 0 ≤ _)⟩)
  dsimp only [Pt.U, Pt.locs, Pt.cells, Pt.slots] at X8 l8 y8 z8 st8 hQ8
  subst l8 y8 z8
  obtain ⟨rfl, Na, ea⟩ := hQ8
  have c8 : Sx p e b0 S0 T8 (mkF m 37 #[vR a, uU] [(.int J0)]) := c5.trans (XS.ifYes X5.here hx rfl (pc0 := 11) (pc' := 31) rfl (D 5 rfl) rfl ((if0 _ _).trans (teq rfl).1) (by decide) (by decide) (qA X5 hx rfl (D 15 rfl) rfl rfl (st8)))
  obtain ⟨cq11, kq11, q11a, q11b, q11c⟩ := isOf hZ ea A.1
  obtain ⟨_, _, ⟨T11, L11, k11, n11⟩, -, X11, ⟨Lc11, hQ11, l11, y11, z11⟩, st11⟩ := X8.interfaceBack hx (xi := yM42) (y := yM34) (C := "java/util/ArrayList") hown (mvT hZ (Hw 495 rfl)) (mvT hZ (Hw 171 rfl)) (mvT hZ (Hw 172 rfl)) (mvT hZ (Hw 496 rfl)) (mvT hZ (Hw 497 rfl)) (mvT hZ (Hw 498 rfl)) (mvT hZ (Hw 499 rfl)) (mvT hZ (Hw 493 rfl)) (by decide) (backOf (W := 0) (rmAt l Z a0 hw [] a ed [x0, x1, x2] 10 mc gg h0 n0 Z0 EV X00 A (own_El.cons (Ins.of_exa Ex0 (Hw 416 rfl)) (own_El.cons (Ins.of_exa Ex1 (Hw 416 rfl)) (own_El.cons (Ins.of_exa Ex2 (Hw 416 rfl)) own_El.nil))) (Nat.le_of_ble_eq_true rfl)) hZ (Hw 500 rfl) (Hw 116 rfl) (by decide) (by decide)) q11a q11b q11c (g := (mkF m 45 #[vR a, uU] [(.ref a)])) rfl hml.symm (Steps.refl _) (argsL := []) (rest := []) (lenOf pd13 rfl) rfl (nE rfl) (D 19 rfl) (fun _ _ => ⟨rfl, ea, (by decide : 0 + 1 ≤ _), (by decide : 0 + 10 ≤ _)⟩)
  dsimp only [Pt.U, Pt.locs, Pt.cells, Pt.slots] at X11 l11 y11 z11 st11 hQ11
  subst l11 y11 z11
  obtain ⟨⟨b, rfl, zb, Ob⟩, N2, K2⟩ := hQ11
  have c11 : Sx p e b0 S0 T11 (mkF m 50 #[vR a, uU] [(.ref b)]) := c8.trans (XS.ifYes X8.here hx rfl (pc0 := 37) (pc' := 44) rfl (D 17 rfl) rfl ((if0 _ _).trans (teq rfl).1) (by decide) (by decide) (qA X8 hx rfl (D 18 rfl) rfl rfl (st11)))
  have Z2 := nT Z0 K2.1
  have X02 := X00.keep K2 all0
  obtain ⟨⟨kt, Vt, Ot⟩, -⟩ := id Ob
  have Ex0 := Ex0.keep K2
  have Ex1 := Ex1.keep K2
  have Ex2 := Ex2.keep K2
  obtain ⟨_, _, ⟨T12, L12, k12, n12⟩, -, X12, ⟨Lc12, hQ12, l12, y12, z12⟩, st12⟩ := Jvm.LawKit.callS X11 hx (y := yM27) hown (mvT hZ (Hw 502 rfl)) (mvT hZ (Hw 503 rfl)) (mvT hZ (Hw 67 rfl)) (mvT hZ (Hw 504 rfl)) (by decide) (backOf (W := 0) (rmOf3 l Z a0 hw [] b x0 x1 x2 gg T11.heap n0 Z2 EV X02 Ob (own_El.cons (Ins.of_exa Ex0 (Hw 416 rfl)) (own_El.cons (Ins.of_exa Ex1 (Hw 416 rfl)) (own_El.cons (Ins.of_exa Ex2 (Hw 416 rfl)) own_El.nil)))) hZ (Hw 504 rfl) (Hw 67 rfl) (by decide) (by decide)) (g := (mkF m 50 #[vR a, uU] [(.ref b)])) rfl hml.symm (argsL := [(.ref b)]) (rest := []) (lenOf pd7 rfl) rfl (nE rfl) (D 20 rfl) (fun _ _ => ⟨rfl, rfl, (by decide : 1 + 2 ≤ _), (by decide : 10 + 5 ≤ _)⟩)
  dsimp only [Pt.U, Pt.locs, Pt.cells, Pt.slots] at X12 l12 y12 z12 st12 hQ12
  subst l12 y12 z12
  obtain ⟨⟨r, t, rfl, zr, Dr⟩, N1, K1⟩ := hQ12
  have c12 : Sx p e b0 S0 T12 (mkF m 53 #[vR a, uU] [(.ref r)]) := c11.trans (st12 _ (Steps.refl _))
  obtain ⟨fs, hr, r1, r2, hW, r4⟩ := X12.leave (v := some (.ref r)) (nV hret)
  refine ⟨_, _, c12.trans ?_, r1, r2, _, _, rfl, ?_, ⟨_, rfl⟩, hW, r4.mono (by decide) (by decide)⟩
  · exact retA X12 hx hret rfl rfl (D 21 rfl) hr
  · show QLx3 Z a ed mc x0 x1 x2 gg h0 n0 _ T12.heap _
    exact ⟨⟨_, _, rfl, nT K2.1 zr, Dr⟩, Fr.app (Fr.app (Fr.app N0 Na) N2) N1, K2.trans K1 all0⟩
def QCx3 (Z : State) (a ed : Addr) (mc : Int32) (x0 x1 x2 : Addr) (gg : own_G) (h0 : Heap) (n0 : Nat) (v : Option Value) (h : Heap) (L : List Loc) : Prop := (∃ r t : Addr, v = some (.ref r) ∧ h0.size ≤ r ∧ Exa Z h r own_LN ∧ Fld Z h r own_LN "elements" "[Ljava/lang/Object;" (.ref t) ∧ own_OA Z h t [x0, x1, x2] 3) ∧ Fr n0 L ∧ Keep h0 h []
theorem rmCx3 (l : Launch) (Z : State) (a0 : Array Value) (hw : HW a0 Z) (ws : List Jvm.Cond) (a ed : Addr) (mc : Int32) (x0 x1 x2 : Addr) (gg : own_G) (h0 : Heap) (n0 : Nat) (Z0 : n0 ≤ h0.size) (EV : own_Env Z gg) (X00 : Old Z n0 h0) (A : own_ALs Z h0 a ed [x0, x1, x2] 10 mc) (Ex0 : Exa Z h0 x0 own_INn) (Ex1 : Exa Z h0 x1 own_INn) (Ex2 : Exa Z h0 x2 own_INn) :
    own_M l yM72 jdk_40_method_48_code 1 (some (.object "java/util/List")) ws (rK 8 3 15 114) #[(.ref a)] Z h0 (QCx3 Z a ed mc x0 x1 x2 gg h0 n0) := by
  refine own_open (by decide +kernel) dB70 fun p e s m b0 meth c s₁ S0 hx D hby hml hown hnm hret hlk hZ X0 e0 c0 => ?_
  replace c0 : Sx p e b0 S0 s₁ (mkF m 0 #[vR a] []) := c0
  have Hw := @own_Hw _ _ hw
  have N0 := Fr.nil n0
  obtain ⟨_, _, ⟨T2, L2, k2, n2⟩, -, X2, ⟨Lc2, hQ2, l2, y2, z2⟩, st2⟩ := Jvm.LawKit.callS X0 hx (y := yM71) hown (mvT hZ (Hw 97 rfl)) (mvT hZ (Hw 98 rfl)) (mvT hZ (Hw 70 rfl)) (mvT hZ (Hw 99 rfl)) (by decide) (backOf (W := 0) (rmLx3 l Z a0 hw [] a ed mc x0 x1 x2 gg h0 n0 Z0 EV X00 A Ex0 Ex1 Ex2) hZ (Hw 99 rfl) (Hw 70 rfl) (by decide) (by decide)) (g := (mkF m 1 #[vR a] [(.ref a)])) rfl hml.symm (argsL := [(.ref a)]) (rest := []) (lenOf pd33 rfl) rfl (nE rfl) (D 1 rfl) (fun _ _ => ⟨rfl, e0, (by decide : 0 + 3 ≤ _), (by decide : 0 + 15 ≤ _)⟩)
  dsimp only [Pt.U, Pt.locs, Pt.cells, Pt.slots] at X2 l2 y2 z2 st2 hQ2
  subst l2 y2 z2
  obtain ⟨⟨r, t, rfl, zr, Dr⟩, N1, K1⟩ := hQ2
  have c2 : Sx p e b0 S0 T2 (mkF m 4 #[vR a] [(.ref r)]) := c0.trans (qA X0 hx rfl (D 0 rfl) rfl rfl (st2 _ (Steps.refl _)))
  obtain ⟨fs, hr, r1, r2, hW, r4⟩ := X2.leave (v := some (.ref r)) (nV hret)
  refine ⟨_, _, c2.trans ?_, r1, r2, _, _, rfl, ?_, ⟨_, rfl⟩, hW, r4.mono (by decide) (by decide)⟩
  · exact retA X2 hx hret rfl rfl (D 2 rfl) hr
  · show QCx3 Z a ed mc x0 x1 x2 gg h0 n0 _ T2.heap _
    exact ⟨⟨_, _, rfl, zr, Dr⟩, Fr.app N0 N1, K1⟩
def QMa3 (Z : State) (a ed : Addr) (mc : Int32) (x0 x1 x2 : Addr) (gg : own_G) (kk : Nat) (h0 : Heap) (n0 : Nat) (v : Option Value) (h : Heap) (L : List Loc) : Prop := (∃ r t : Addr, v = some (.ref r) ∧ h0.size ≤ r ∧ Exa Z h r own_LN ∧ Fld Z h r own_LN "elements" "[Ljava/lang/Object;" (.ref t) ∧ own_OA Z h t [x0, x1, x2] 3) ∧ Fr n0 L ∧ Keep h0 h []
theorem rmMa3 (l : Launch) (Z : State) (a0 : Array Value) (hw : HW a0 Z) (ws : List Jvm.Cond) (a ed : Addr) (mc : Int32) (x0 x1 x2 : Addr) (gg : own_G) (kk : Nat) (h0 : Heap) (n0 : Nat) (Z0 : n0 ≤ h0.size) (EV : own_Env Z gg) (X00 : Old Z n0 h0) (A : own_ALs Z h0 a ed [x0, x1, x2] 10 mc) (hk2 : kk ≤ 2) (Dx0 : own_In Z gg h0 x0 kk) (Dx1 : own_In Z gg h0 x1 kk) (Dx2 : own_In Z gg h0 x2 kk) :
    own_M l yM80 prog_11_method_5_code 4 (some (.object "java/util/List")) ws (rK 9 21 150 130) #[(.ref a)] Z h0 (QMa3 Z a ed mc x0 x1 x2 gg kk h0 n0) := by
  refine own_open (plainFor_of_name pn2) dB75 fun p e s m b0 meth c s₁ S0 hx D hby hml hown hnm hret hlk hZ X0 e0 c0 => ?_
  replace c0 : Sx p e b0 S0 s₁ (mkF m 0 (a157 a) []) := c0
  have Hw := @own_Hw _ _ hw
  have N0 := Fr.nil n0
  have Nf := N0
  have hO := X00
  have hKp := Keep.refl h0 []
  have Zh := Z0
  obtain ⟨cq2, kq2, q2a, q2b, q2c⟩ := isOf hZ e0 A.1
  obtain ⟨_, _, ⟨T2, L2, k2, n2⟩, -, X2, ⟨Lc2, hQ2, l2, y2, z2⟩, st2⟩ := X0.interfaceBack hx (xi := yM81) (y := yM33) (C := "java/util/ArrayList") hown (mvT hZ (Hw 420 rfl)) (mvT hZ (Hw 421 rfl)) (mvT hZ (Hw 422 rfl)) (mvT hZ (Hw 423 rfl)) (mvT hZ (Hw 424 rfl)) (mvT hZ (Hw 425 rfl)) (mvT hZ (Hw 426 rfl)) (mvT hZ (Hw 427 rfl)) (by decide) (backOf (W := 0) (rmAg l Z a0 hw [] a ed [x0, x1, x2] 10 mc 0 x0 h0 n0 Zh A rfl) hZ (Hw 428 rfl) (Hw 116 rfl) (by decide) (by decide)) q2a q2b q2c (g := (mkF m 2 (a157 a) [(.int J0), (.ref a)])) rfl hml.symm (Steps.refl _) (argsL := [(.int J0)]) (rest := []) (lenOf pd10 rfl) rfl (nE rfl) (D 2 rfl) (fun _ _ => ⟨rfl, e0, (by decide : 0 + 0 ≤ _), (by decide : 0 + 0 ≤ _)⟩)
  dsimp only [Pt.U, Pt.locs, Pt.cells, Pt.slots] at X2 l2 y2 z2 st2 hQ2
  subst l2 y2 z2
  obtain ⟨rfl, N1, e1⟩ := hQ2
  have c2 : Sx p e b0 S0 T2 (mkF m 7 (a157 a) [(.ref x0)]) := c0.trans (qA X0 hx rfl (D 0 rfl) rfl rfl (qc X0 hx rfl (D 1 rfl) (st2)))
  have Nf := Fr.app Nf N1
  obtain ⟨T3, X3, e3, st3⟩ := castY X2 hx hZ hown (Hw 63 rfl) e1 (Ins.self Dx0.1) (g := (mkF m 7 (a157 a) [(.ref x0)])) rfl rfl (D 3 rfl)
  have c3 : Sx p e b0 S0 T3 (mkF m 10 (a157 a) [(.ref x0)]) := c2.trans (st3 _ (Steps.refl _))
  obtain ⟨cq4, kq4, q4a, q4b, q4c⟩ := isOf hZ e3 Dx0.1
  obtain ⟨_, _, ⟨T4, L4, k4, n4⟩, -, X4, ⟨Lc4, hQ4, l4, y4, z4⟩, st4⟩ := X3.virtualBack hx (y := yM78) (z := yM78) hown (mvT hZ (Hw 442 rfl)) (mvT hZ (Hw 443 rfl)) (notFace_of_selects (args := #[]) (mvT hZ (Hw 445 rfl))) (mvT hZ (Hw 445 rfl)) (mvT hZ (Hw 444 rfl)) (by decide) (backOf (W := 0) (rmGp l Z a0 hw [] x0 kk gg h0 n0 Zh EV hO Dx0 hk2) hZ (Hw 446 rfl) (Hw 54 rfl) (by decide) (by decide)) q4a q4c (g := (mkF m 10 (a157 a) [(.ref x0)])) rfl hml.symm (Steps.refl _) (argsL := []) (rest := []) (lenOf pd41 rfl) rfl (nE rfl) (D 4 rfl) (fun _ _ => ⟨rfl, e3, (by decide : 0 + 6 ≤ _), (by decide : 0 + 45 ≤ _)⟩)
  dsimp only [Pt.U, Pt.locs, Pt.cells, Pt.slots] at X4 l4 y4 z4 st4 hQ4
  subst l4 y4 z4
  obtain ⟨⟨ga, ged, gxs, gN, gmc, rfl, Ag, hgl⟩, N1, K1⟩ := hQ4
  have c4 : Sx p e b0 S0 T4 (mkF m 13 (a157 a) [(.ref ga)]) := c3.trans st4
  have Nf := Fr.app Nf N1
  have Zh := nT Zh K1.1
  have hO := hO.keep K1 all0
  have hKp := hKp.trans K1 all0
  have A := A.keep0 K1
  have Dx0 := Dx0.keep0 K1
  have Dx1 := Dx1.keep0 K1
  have Dx2 := Dx2.keep0 K1
  obtain ⟨cq5, kq5, q5a, q5b, q5c⟩ := isOf hZ rfl Ag.1
  obtain ⟨_, _, ⟨T5, L5, k5, n5⟩, -, X5, ⟨Lc5, hQ5, l5, y5, z5⟩, st5⟩ := X4.interfaceBack hx (xi := yM82) (y := yM28) (C := "java/util/ArrayList") hown (mvT hZ (Hw 476 rfl)) (mvT hZ (Hw 477 rfl)) (mvT hZ (Hw 478 rfl)) (mvT hZ (Hw 479 rfl)) (mvT hZ (Hw 480 rfl)) (mvT hZ (Hw 481 rfl)) (mvT hZ (Hw 482 rfl)) (mvT hZ (Hw 427 rfl)) (by decide) (backOf (W := 0) (rmAz l Z a0 hw [] ga ged gxs gN gmc T4.heap n0 Zh Ag) hZ (Hw 483 rfl) (Hw 116 rfl) (by decide) (by decide)) q5a q5b q5c (g := (mkF m 13 (a157 a) [(.ref ga)])) rfl hml.symm (Steps.refl _) (argsL := []) (rest := []) (lenOf pd25 rfl) rfl (nE rfl) (D 5 rfl) (fun _ _ => ⟨rfl, rfl, (by decide : 6 + 0 ≤ _), (by decide : 45 + 0 ≤ _)⟩)
  dsimp only [Pt.U, Pt.locs, Pt.cells, Pt.slots] at X5 l5 y5 z5 st5 hQ5
  subst l5 y5 z5
  obtain ⟨rfl, N1, e1⟩ := hQ5
  have c5 : Sx p e b0 S0 T5 (mkF m 18 (a157 a) [(.int (Int32.ofNat gxs.length))]) := c4.trans st5
  have Nf := Fr.app Nf N1
  rw [hgl] at c5
  obtain ⟨cq8, kq8, q8a, q8b, q8c⟩ := isOf hZ e1 A.1
  obtain ⟨_, _, ⟨T8, L8, k8, n8⟩, -, X8, ⟨Lc8, hQ8, l8, y8, z8⟩, st8⟩ := X5.interfaceBack hx (xi := yM82) (y := yM28) (C := "java/util/ArrayList") hown (mvT hZ (Hw 476 rfl)) (mvT hZ (Hw 477 rfl)) (mvT hZ (Hw 478 rfl)) (mvT hZ (Hw 479 rfl)) (mvT hZ (Hw 480 rfl)) (mvT hZ (Hw 481 rfl)) (mvT hZ (Hw 482 rfl)) (mvT hZ (Hw 427 rfl)) (by decide) (backOf (W := 1) (rmAz l Z a0 hw [] a ed [x0, x1, x2] 10 mc T4.heap n0 Zh A) hZ (Hw 483 rfl) (Hw 116 rfl) (by decide) (by decide)) q8a q8b q8c (g := (mkF m 23 (a115 a (Int32.ofNat (1 + kk)) J1) [(.ref a), (.int J1)])) rfl hml.symm (Steps.refl _) (argsL := []) (rest := [(.int J1)]) (lenOf pd25 rfl) rfl (nE rfl) (D 11 rfl) (fun _ _ => ⟨rfl, e1, (by decide : 6 + 0 ≤ _), (by decide : 45 + 0 ≤ _)⟩)
  dsimp only [Pt.U, Pt.locs, Pt.cells, Pt.slots] at X8 l8 y8 z8 st8 hQ8
  subst l8 y8 z8
  obtain ⟨rfl, N1, e1⟩ := hQ8
  have c8 : Sx p e b0 S0 T8 (mkF m 28 (a115 a (Int32.ofNat (1 + kk)) J1) [(.int J3), (.int J1)]) := c5.trans (XS.istoreN X5.here hx rfl (D 6 rfl) rfl (l' := (a114 a (Int32.ofNat (1 + kk)))) rfl (qc X5 hx rfl (D 7 rfl) (XS.istoreN X5.here hx rfl (D 8 rfl) rfl (l' := (a115 a (Int32.ofNat (1 + kk)) J1)) rfl (qI X5 hx rfl (D 9 rfl) rfl (qA X5 hx rfl (D 10 rfl) rfl rfl (st8))))))
  have Nf := Fr.app Nf N1
  obtain ⟨cq11, kq11, q11a, q11b, q11c⟩ := isOf hZ e1 A.1
  obtain ⟨_, _, ⟨T11, L11, k11, n11⟩, -, X11, ⟨Lc11, hQ11, l11, y11, z11⟩, st11⟩ := X8.interfaceBack hx (xi := yM81) (y := yM33) (C := "java/util/ArrayList") hown (mvT hZ (Hw 420 rfl)) (mvT hZ (Hw 421 rfl)) (mvT hZ (Hw 422 rfl)) (mvT hZ (Hw 423 rfl)) (mvT hZ (Hw 424 rfl)) (mvT hZ (Hw 425 rfl)) (mvT hZ (Hw 426 rfl)) (mvT hZ (Hw 427 rfl)) (by decide) (backOf (W := 0) (rmAg l Z a0 hw [] a ed [x0, x1, x2] 10 mc 1 x1 T4.heap n0 Zh A rfl) hZ (Hw 428 rfl) (Hw 116 rfl) (by decide) (by decide)) q11a q11b q11c (g := (mkF m 33 (a115 a (Int32.ofNat (1 + kk)) J1) [(.int J1), (.ref a)])) rfl hml.symm (Steps.refl _) (argsL := [(.int J1)]) (rest := []) (lenOf pd10 rfl) rfl (nE rfl) (D 15 rfl) (fun _ _ => ⟨rfl, e1, (by decide : 6 + 0 ≤ _), (by decide : 45 + 0 ≤ _)⟩)
  dsimp only [Pt.U, Pt.locs, Pt.cells, Pt.slots] at X11 l11 y11 z11 st11 hQ11
  subst l11 y11 z11
  obtain ⟨rfl, N1, e1⟩ := hQ11
  have c11 : Sx p e b0 S0 T11 (mkF m 38 (a115 a (Int32.ofNat (1 + kk)) J1) [(.ref x1)]) := c8.trans (XS.icmpNo X8.here hx rfl (D 12 rfl) rfl (tlt (by decide)).2.1 (qA X8 hx rfl (D 13 rfl) rfl rfl (qI X8 hx rfl (D 14 rfl) rfl (st11))))
  have Nf := Fr.app Nf N1
  obtain ⟨T12, X12, e12, st12⟩ := castY X11 hx hZ hown (Hw 63 rfl) e1 (Ins.self Dx1.1) (g := (mkF m 38 (a115 a (Int32.ofNat (1 + kk)) J1) [(.ref x1)])) rfl rfl (D 16 rfl)
  have c12 : Sx p e b0 S0 T12 (mkF m 41 (a115 a (Int32.ofNat (1 + kk)) J1) [(.ref x1)]) := c11.trans (st12 _ (Steps.refl _))
  obtain ⟨cq13, kq13, q13a, q13b, q13c⟩ := isOf hZ e12 Dx1.1
  obtain ⟨_, _, ⟨T13, L13, k13, n13⟩, -, X13, ⟨Lc13, hQ13, l13, y13, z13⟩, st13⟩ := X12.virtualBack hx (y := yM78) (z := yM78) hown (mvT hZ (Hw 442 rfl)) (mvT hZ (Hw 443 rfl)) (notFace_of_selects (args := #[]) (mvT hZ (Hw 445 rfl))) (mvT hZ (Hw 445 rfl)) (mvT hZ (Hw 444 rfl)) (by decide) (backOf (W := 0) (rmGp l Z a0 hw [] x1 kk gg T4.heap n0 Zh EV hO Dx1 hk2) hZ (Hw 446 rfl) (Hw 54 rfl) (by decide) (by decide)) q13a q13c (g := (mkF m 41 (a115 a (Int32.ofNat (1 + kk)) J1) [(.ref x1)])) rfl hml.symm (Steps.refl _) (argsL := []) (rest := []) (lenOf pd41 rfl) rfl (nE rfl) (D 17 rfl) (fun _ _ => ⟨rfl, e12, (by decide : 6 + 6 ≤ _), (by decide : 45 + 45 ≤ _)⟩)
  dsimp only [Pt.U, Pt.locs, Pt.cells, Pt.slots] at X13 l13 y13 z13 st13 hQ13
  subst l13 y13 z13
  obtain ⟨⟨ga, ged, gxs, gN, gmc, rfl, Ag, hgl⟩, N1, K1⟩ := hQ13
  have c13 : Sx p e b0 S0 T13 (mkF m 44 (a115 a (Int32.ofNat (1 + kk)) J1) [(.ref ga)]) := c12.trans st13
  have Nf := Fr.app Nf N1
  have Zh := nT Zh K1.1
  have hO := hO.keep K1 all0
  have hKp := hKp.trans K1 all0
  have A := A.keep0 K1
  have Dx0 := Dx0.keep0 K1
  have Dx1 := Dx1.keep0 K1
  have Dx2 := Dx2.keep0 K1
  obtain ⟨cq14, kq14, q14a, q14b, q14c⟩ := isOf hZ rfl Ag.1
  obtain ⟨_, _, ⟨T14, L14, k14, n14⟩, -, X14, ⟨Lc14, hQ14, l14, y14, z14⟩, st14⟩ := X13.interfaceBack hx (xi := yM82) (y := yM28) (C := "java/util/ArrayList") hown (mvT hZ (Hw 476 rfl)) (mvT hZ (Hw 477 rfl)) (mvT hZ (Hw 478 rfl)) (mvT hZ (Hw 479 rfl)) (mvT hZ (Hw 480 rfl)) (mvT hZ (Hw 481 rfl)) (mvT hZ (Hw 482 rfl)) (mvT hZ (Hw 427 rfl)) (by decide) (backOf (W := 0) (rmAz l Z a0 hw [] ga ged gxs gN gmc T13.heap n0 Zh Ag) hZ (Hw 483 rfl) (Hw 116 rfl) (by decide) (by decide)) q14a q14b q14c (g := (mkF m 44 (a115 a (Int32.ofNat (1 + kk)) J1) [(.ref ga)])) rfl hml.symm (Steps.refl _) (argsL := []) (rest := []) (lenOf pd25 rfl) rfl (nE rfl) (D 18 rfl) (fun _ _ => ⟨rfl, rfl, (by decide : 12 + 0 ≤ _), (by decide : 90 + 0 ≤ _)⟩)
  dsimp only [Pt.U, Pt.locs, Pt.cells, Pt.slots] at X14 l14 y14 z14 st14 hQ14
  subst l14 y14 z14
  obtain ⟨rfl, N1, e1⟩ := hQ14
  have c14 : Sx p e b0 S0 T14 (mkF m 49 (a115 a (Int32.ofNat (1 + kk)) J1) [(.int (Int32.ofNat gxs.length))]) := c13.trans st14
  have Nf := Fr.app Nf N1
  rw [hgl] at c14
  obtain ⟨cq18, kq18, q18a, q18b, q18c⟩ := isOf hZ e1 A.1
  obtain ⟨_, _, ⟨T18, L18, k18, n18⟩, -, X18, ⟨Lc18, hQ18, l18, y18, z18⟩, st18⟩ := X14.interfaceBack hx (xi := yM82) (y := yM28) (C := "java/util/ArrayList") hown (mvT hZ (Hw 476 rfl)) (mvT hZ (Hw 477 rfl)) (mvT hZ (Hw 478 rfl)) (mvT hZ (Hw 479 rfl)) (mvT hZ (Hw 480 rfl)) (mvT hZ (Hw 481 rfl)) (mvT hZ (Hw 482 rfl)) (mvT hZ (Hw 427 rfl)) (by decide) (backOf (W := 1) (rmAz l Z a0 hw [] a ed [x0, x1, x2] 10 mc T13.heap n0 Zh A) hZ (Hw 483 rfl) (Hw 116 rfl) (by decide) (by decide)) q18a q18b q18c (g := (mkF m 23 (a116 a (Int32.ofNat (1 + kk)) (J1 + J1) (Int32.ofNat (1 + kk))) [(.ref a), (.int (J1 + J1))])) rfl hml.symm (Steps.refl _) (argsL := []) (rest := [(.int (J1 + J1))]) (lenOf pd25 rfl) rfl (nE rfl) (D 11 rfl) (fun _ _ => ⟨rfl, e1, (by decide : 12 + 0 ≤ _), (by decide : 90 + 0 ≤ _)⟩)
  dsimp only [Pt.U, Pt.locs, Pt.cells, Pt.slots] at X18 l18 y18 z18 st18 hQ18
  subst l18 y18 z18
  obtain ⟨rfl, N1, e1⟩ := hQ18
  have c18 : Sx p e b0 S0 T18 (mkF m 28 (a116 a (Int32.ofNat (1 + kk)) (J1 + J1) (Int32.ofNat (1 + kk))) [(.int J3), (.int (J1 + J1))]) := c14.trans (XS.istoreN X14.here hx rfl (D 19 rfl) rfl (l' := (a116 a (Int32.ofNat (1 + kk)) J1 (Int32.ofNat (1 + kk)))) rfl (qI X14 hx rfl (D 20 rfl) rfl (qI X14 hx rfl (D 21 rfl) rfl (XS.icmpYes X14.here hx rfl (pc0 := 52) (pc' := 99) rfl (D 22 rfl) rfl (teq rfl).1 (by decide) (by decide) (XS.iinc X14.here hx rfl (D 23 rfl) rfl (l' := (a116 a (Int32.ofNat (1 + kk)) (J1 + J1) (Int32.ofNat (1 + kk)))) rfl (XS.goto X14.here hx rfl (pc0 := 102) (pc' := 21) rfl (D 24 rfl) (by decide) (by decide) (qI X14 hx rfl (D 9 rfl) rfl (qA X14 hx rfl (D 10 rfl) rfl rfl (st18)))))))))
  have Nf := Fr.app Nf N1
  obtain ⟨cq21, kq21, q21a, q21b, q21c⟩ := isOf hZ e1 A.1
  obtain ⟨_, _, ⟨T21, L21, k21, n21⟩, -, X21, ⟨Lc21, hQ21, l21, y21, z21⟩, st21⟩ := X18.interfaceBack hx (xi := yM81) (y := yM33) (C := "java/util/ArrayList") hown (mvT hZ (Hw 420 rfl)) (mvT hZ (Hw 421 rfl)) (mvT hZ (Hw 422 rfl)) (mvT hZ (Hw 423 rfl)) (mvT hZ (Hw 424 rfl)) (mvT hZ (Hw 425 rfl)) (mvT hZ (Hw 426 rfl)) (mvT hZ (Hw 427 rfl)) (by decide) (backOf (W := 0) (rmAg l Z a0 hw [] a ed [x0, x1, x2] 10 mc 2 x2 T13.heap n0 Zh A rfl) hZ (Hw 428 rfl) (Hw 116 rfl) (by decide) (by decide)) q21a q21b q21c (g := (mkF m 33 (a116 a (Int32.ofNat (1 + kk)) (J1 + J1) (Int32.ofNat (1 + kk))) [(.int (J1 + J1)), (.ref a)])) rfl hml.symm (Steps.refl _) (argsL := [(.int (J1 + J1))]) (rest := []) (lenOf pd10 rfl) rfl (nE rfl) (D 15 rfl) (fun _ _ => ⟨rfl, e1, (by decide : 12 + 0 ≤ _), (by decide : 90 + 0 ≤ _)⟩)
  dsimp only [Pt.U, Pt.locs, Pt.cells, Pt.slots] at X21 l21 y21 z21 st21 hQ21
  subst l21 y21 z21
  obtain ⟨rfl, N1, e1⟩ := hQ21
  have c21 : Sx p e b0 S0 T21 (mkF m 38 (a116 a (Int32.ofNat (1 + kk)) (J1 + J1) (Int32.ofNat (1 + kk))) [(.ref x2)]) := c18.trans (XS.icmpNo X18.here hx rfl (D 12 rfl) rfl (tlt (by decide)).2.1 (qA X18 hx rfl (D 13 rfl) rfl rfl (qI X18 hx rfl (D 14 rfl) rfl (st21))))
  have Nf := Fr.app Nf N1
  obtain ⟨T22, X22, e22, st22⟩ := castY X21 hx hZ hown (Hw 63 rfl) e1 (Ins.self Dx2.1) (g := (mkF m 38 (a116 a (Int32.ofNat (1 + kk)) (J1 + J1) (Int32.ofNat (1 + kk))) [(.ref x2)])) rfl rfl (D 16 rfl)
  have c22 : Sx p e b0 S0 T22 (mkF m 41 (a116 a (Int32.ofNat (1 + kk)) (J1 + J1) (Int32.ofNat (1 + kk))) [(.ref x2)]) := c21.trans (st22 _ (Steps.refl _))
  obtain ⟨cq23, kq23, q23a, q23b, q23c⟩ := isOf hZ e22 Dx2.1
  obtain ⟨_, _, ⟨T23, L23, k23, n23⟩, -, X23, ⟨Lc23, hQ23, l23, y23, z23⟩, st23⟩ := X22.virtualBack hx (y := yM78) (z := yM78) hown (mvT hZ (Hw 442 rfl)) (mvT hZ (Hw 443 rfl)) (notFace_of_selects (args := #[]) (mvT hZ (Hw 445 rfl))) (mvT hZ (Hw 445 rfl)) (mvT hZ (Hw 444 rfl)) (by decide) (backOf (W := 0) (rmGp l Z a0 hw [] x2 kk gg T13.heap n0 Zh EV hO Dx2 hk2) hZ (Hw 446 rfl) (Hw 54 rfl) (by decide) (by decide)) q23a q23c (g := (mkF m 41 (a116 a (Int32.ofNat (1 + kk)) (J1 + J1) (Int32.ofNat (1 + kk))) [(.ref x2)])) rfl hml.symm (Steps.refl _) (argsL := []) (rest := []) (lenOf pd41 rfl) rfl (nE rfl) (D 17 rfl) (fun _ _ => ⟨rfl, e22, (by decide : 12 + 6 ≤ _), (by decide : 90 + 45 ≤ _)⟩)
  dsimp only [Pt.U, Pt.locs, Pt.cells, Pt.slots] at X23 l23 y23 z23 st23 hQ23
  subst l23 y23 z23
  obtain ⟨⟨ga, ged, gxs, gN, gmc, rfl, Ag, hgl⟩, N1, K1⟩ := hQ23
  have c23 : Sx p e b0 S0 T23 (mkF m 44 (a116 a (Int32.ofNat (1 + kk)) (J1 + J1) (Int32.ofNat (1 + kk))) [(.ref ga)]) := c22.trans st23
  have Nf := Fr.app Nf N1
  have Zh := nT Zh K1.1
  have hO := hO.keep K1 all0
  have hKp := hKp.trans K1 all0
  have A := A.keep0 K1
  have Dx0 := Dx0.keep0 K1
  have Dx1 := Dx1.keep0 K1
  have Dx2 := Dx2.keep0 K1
  obtain ⟨cq24, kq24, q24a, q24b, q24c⟩ := isOf hZ rfl Ag.1
  obtain ⟨_, _, ⟨T24, L24, k24, n24⟩, -, X24, ⟨Lc24, hQ24, l24, y24, z24⟩, st24⟩ := X23.interfaceBack hx (xi := yM82) (y := yM28) (C := "java/util/ArrayList") hown (mvT hZ (Hw 476 rfl)) (mvT hZ (Hw 477 rfl)) (mvT hZ (Hw 478 rfl)) (mvT hZ (Hw 479 rfl)) (mvT hZ (Hw 480 rfl)) (mvT hZ (Hw 481 rfl)) (mvT hZ (Hw 482 rfl)) (mvT hZ (Hw 427 rfl)) (by decide) (backOf (W := 0) (rmAz l Z a0 hw [] ga ged gxs gN gmc T23.heap n0 Zh Ag) hZ (Hw 483 rfl) (Hw 116 rfl) (by decide) (by decide)) q24a q24b q24c (g := (mkF m 44 (a116 a (Int32.ofNat (1 + kk)) (J1 + J1) (Int32.ofNat (1 + kk))) [(.ref ga)])) rfl hml.symm (Steps.refl _) (argsL := []) (rest := []) (lenOf pd25 rfl) rfl (nE rfl) (D 18 rfl) (fun _ _ => ⟨rfl, rfl, (by decide : 18 + 0 ≤ _), (by decide : 135 + 0 ≤ _)⟩)
  dsimp only [Pt.U, Pt.locs, Pt.cells, Pt.slots] at X24 l24 y24 z24 st24 hQ24
  subst l24 y24 z24
  obtain ⟨rfl, N1, e1⟩ := hQ24
  have c24 : Sx p e b0 S0 T24 (mkF m 49 (a116 a (Int32.ofNat (1 + kk)) (J1 + J1) (Int32.ofNat (1 + kk))) [(.int (Int32.ofNat gxs.length))]) := c23.trans st24
  have Nf := Fr.app Nf N1
  rw [hgl] at c24
  obtain ⟨cq28, kq28, q28a, q28b, q28c⟩ := isOf hZ e1 A.1
  obtain ⟨_, _, ⟨T28, L28, k28, n28⟩, -, X28, ⟨Lc28, hQ28, l28, y28, z28⟩, st28⟩ := X24.interfaceBack hx (xi := yM82) (y := yM28) (C := "java/util/ArrayList") hown (mvT hZ (Hw 476 rfl)) (mvT hZ (Hw 477 rfl)) (mvT hZ (Hw 478 rfl)) (mvT hZ (Hw 479 rfl)) (mvT hZ (Hw 480 rfl)) (mvT hZ (Hw 481 rfl)) (mvT hZ (Hw 482 rfl)) (mvT hZ (Hw 427 rfl)) (by decide) (backOf (W := 1) (rmAz l Z a0 hw [] a ed [x0, x1, x2] 10 mc T23.heap n0 Zh A) hZ (Hw 483 rfl) (Hw 116 rfl) (by decide) (by decide)) q28a q28b q28c (g := (mkF m 23 (a116 a (Int32.ofNat (1 + kk)) ((J1 + J1) + J1) (Int32.ofNat (1 + kk))) [(.ref a), (.int ((J1 + J1) + J1))])) rfl hml.symm (Steps.refl _) (argsL := []) (rest := [(.int ((J1 + J1) + J1))]) (lenOf pd25 rfl) rfl (nE rfl) (D 11 rfl) (fun _ _ => ⟨rfl, e1, (by decide : 18 + 0 ≤ _), (by decide : 135 + 0 ≤ _)⟩)
  dsimp only [Pt.U, Pt.locs, Pt.cells, Pt.slots] at X28 l28 y28 z28 st28 hQ28
  subst l28 y28 z28
  obtain ⟨rfl, N1, e1⟩ := hQ28
  have c28 : Sx p e b0 S0 T28 (mkF m 28 (a116 a (Int32.ofNat (1 + kk)) ((J1 + J1) + J1) (Int32.ofNat (1 + kk))) [(.int J3), (.int ((J1 + J1) + J1))]) := c24.trans (XS.istoreN X24.here hx rfl (D 19 rfl) rfl (l' := (a116 a (Int32.ofNat (1 + kk)) (J1 + J1) (Int32.ofNat (1 + kk)))) rfl (qI X24 hx rfl (D 20 rfl) rfl (qI X24 hx rfl (D 21 rfl) rfl (XS.icmpYes X24.here hx rfl (pc0 := 52) (pc' := 99) rfl (D 22 rfl) rfl (teq rfl).1 (by decide) (by decide) (XS.iinc X24.here hx rfl (D 23 rfl) rfl (l' := (a116 a (Int32.ofNat (1 + kk)) ((J1 + J1) + J1) (Int32.ofNat (1 + kk)))) rfl (XS.goto X24.here hx rfl (pc0 := 102) (pc' := 21) rfl (D 24 rfl) (by decide) (by decide) (qI X24 hx rfl (D 9 rfl) rfl (qA X24 hx rfl (D 10 rfl) rfl rfl (st28)))))))))
  have Nf := Fr.app Nf N1
  obtain ⟨_, _, ⟨T31, L31, k31, n31⟩, -, X31, ⟨Lc31, hQ31, l31, y31, z31⟩, st31⟩ := Jvm.LawKit.callS X28 hx (y := yM72) hown (mvT hZ (Hw 94 rfl)) (mvT hZ (Hw 95 rfl)) (mvT hZ (Hw 67 rfl)) (mvT hZ (Hw 96 rfl)) (by decide) (backOf (W := 0) (rmCx3 l Z a0 hw [] a ed mc x0 x1 x2 gg T23.heap n0 Zh EV hO A Dx0.1 Dx1.1 Dx2.1) hZ (Hw 96 rfl) (Hw 67 rfl) (by decide) (by decide)) (g := (mkF m 106 (a116 a (Int32.ofNat (1 + kk)) ((J1 + J1) + J1) (Int32.ofNat (1 + kk))) [(.ref a)])) rfl hml.symm (argsL := [(.ref a)]) (rest := []) (lenOf pd33 rfl) rfl (nE rfl) (D 26 rfl) (fun _ _ => ⟨rfl, e1, (by decide : 18 + 3 ≤ _), (by decide : 135 + 15 ≤ _)⟩)
  dsimp only [Pt.U, Pt.locs, Pt.cells, Pt.slots] at X31 l31 y31 z31 st31 hQ31
  subst l31 y31 z31
  obtain ⟨⟨r, t, rfl, zr, Dr⟩, N1, K1⟩ := hQ31
  have c31 : Sx p e b0 S0 T31 (mkF m 109 (a116 a (Int32.ofNat (1 + kk)) ((J1 + J1) + J1) (Int32.ofNat (1 + kk))) [(.ref r)]) := c28.trans (XS.icmpYes X28.here hx rfl (pc0 := 28) (pc' := 105) rfl (D 12 rfl) rfl (flt (by decide)).2.1 (by decide) (by decide) (qA X28 hx rfl (D 25 rfl) rfl rfl (st31 _ (Steps.refl _))))
  obtain ⟨fs, hr, r1, r2, hW, r4⟩ := X31.leave (v := some (.ref r)) (nV hret)
  refine ⟨_, _, c31.trans ?_, r1, r2, _, _, rfl, ?_, ⟨_, rfl⟩, hW, r4.mono (by decide) (by decide)⟩
  · exact retA X31 hx hret rfl rfl (D 27 rfl) hr
  · show QMa3 Z a ed mc x0 x1 x2 gg kk h0 n0 _ T31.heap _
    exact ⟨⟨_, _, rfl, nT hKp.1 zr, Dr⟩, Fr.app Nf N1, hKp.trans K1 all0⟩
def QV3 (Z : State) (ch : Int32) (h0 : Heap) (n0 : Nat) (v : Option Value) (h : Heap) (L : List Loc) : Prop := v = some (.int 1) ∧ Fr n0 L ∧ h = h0
theorem rmV3 (l : Launch) (Z : State) (a0 : Array Value) (hw : HW a0 Z) (ws : List Jvm.Cond) (ch : Int32) (h0 : Heap) (n0 : Nat) (Z0 : n0 ≤ h0.size) (hc : ¬ (255 : Int32) < ch) :
    own_M l yM83 jdk_43_method_3_code 1 (some .boolean) ws (rK 0 0 0 0) #[(.int ch)] Z h0 (QV3 Z ch h0 n0) := by
  refine own_open (by decide +kernel) dB76 fun p e s m b0 meth c s₁ S0 hx D hby hml hown hnm hret hlk hZ X0 e0 c0 => ?_
  replace c0 : Sx p e b0 S0 s₁ (mkF m 0 #[vI ch] []) := c0
  have Hw := @own_Hw _ _ hw
  have N0 := Fr.nil n0
  obtain ⟨fs, hr, r1, r2, hW, r4⟩ := X0.leave (v := some (.int 1)) (nV hret)
  refine ⟨_, _, c0.trans ?_, r1, r2, _, _, rfl, ?_, ⟨_, rfl⟩, hW, r4.mono (by decide) (by decide)⟩
  · refine qI X0 hx rfl (D 0 rfl) rfl ?_
    refine XS.sipush X0.here hx rfl (D 1 rfl) ?_
    refine XS.icmpNo X0.here hx rfl (D 2 rfl) rfl (flt hc).2.2.1 ?_
    refine qc X0 hx rfl (D 3 rfl) ?_
    refine XS.goto X0.here hx rfl (pc0 := 8) (pc' := 12) rfl (D 4 rfl) (by decide) (by decide) ?_
    exact retN X0 hx (t := .boolean) hret (by simp) (D 5 rfl) hr
  · show QV3 Z ch h0 n0 _ s₁.heap _
    rw [e0]
    exact ⟨rfl, N0, rfl⟩
def QV46 (Z : State) (ch : Int32) (h0 : Heap) (n0 : Nat) (v : Option Value) (h : Heap) (L : List Loc) : Prop := (∃ (b : Addr) (k : ClassId), v = some (.ref b) ∧ h0.size ≤ b ∧ Arv Z h b k .byte 1 [(.int ch.toInt8.toInt32)] (.int 0)) ∧ Fr n0 L ∧ Keep h0 h []
theorem rmV46 (l : Launch) (Z : State) (a0 : Array Value) (hw : HW a0 Z) (ws : List Jvm.Cond) (ch : Int32) (h0 : Heap) (n0 : Nat) (Z0 : n0 ≤ h0.size)  :
    own_M l yM84 jdk_43_method_46_code 1 (some (.array .byte)) ws (rK 0 1 1 0) #[(.int ch)] Z h0 (QV46 Z ch h0 n0) := by
  refine own_open (by decide +kernel) dB77 fun p e s m b0 meth c s₁ S0 hx D hby hml hown hnm hret hlk hZ X0 e0 c0 => ?_
  replace c0 : Sx p e b0 S0 s₁ (mkF m 0 #[vI ch] []) := c0
  have Hw := @own_Hw _ _ hw
  have N0 := Fr.nil n0
  obtain ⟨T2, h2, kA2, X2, e2, E2, A2, st2⟩ := newP X0 hx hZ (Hw 19 rfl) e0 (g := (mkF m 1 #[vI ch] [(.int J1)])) rfl (D 1 rfl) rfl (by decide : ¬ (J1 < J0)) (cap := 1) (by decide) (by decide) (by decide) (by decide)
  obtain ⟨b2, g2⟩ : ∃ z, z = h0.size := ⟨_, rfl⟩
  rw [← g2] at A2 st2
  have c2 : Sx p e b0 S0 T2 (mkF m 3 #[vI ch] [(.ref b2)]) := c0.trans (qc X0 hx rfl (D 0 rfl) (st2 _ (Steps.refl _)))
  have V2 := Arv.new A2 (by decide)
  have gb : n0 ≤ b2 := nT Z0 (nE g2.symm)
  have zb : h0.size ≤ b2 := nE g2.symm
  have Vp4 : Arv Z _ b2 kA2 .byte J1 [(.int 0)] (.int 0) := V2.pad (pad_rep [] (.int 0) 1)
  obtain ⟨cl4, Ar4, qr4, S4, M4, Hs4, U4⟩ := Vp4
  obtain ⟨T4, h4, X4, e4, W4, st4⟩ := stB X2 hx hZ e2 Ar4 (j := J0) (inb_of S4 ⟨(by decide), (by decide)⟩) (g := (mkF m 7 #[vI ch] [(.int (ch.toInt8.toInt32)), (.int J0), (.ref b2), (.ref b2)])) rfl rfl (D 6 rfl)
  have V4 : Arv Z h4 b2 kA2 .byte J1 [(.int (nar .byte (ch.toInt8.toInt32)))] (.int 0) := Arv.set Ar4 qr4 S4 M4 Hs4 U4 (fits_nar_byte _) W4 0 (by decide) (Nat.le_of_ble_eq_true rfl)
  have c4 : Sx p e b0 S0 T4 (mkF m 8 #[vI ch] [(.ref b2)]) := c2.trans (XS.dup X2.here hx rfl (D 2 rfl) rfl rfl (qc X2 hx rfl (D 3 rfl) (qI X2 hx rfl (D 4 rfl) rfl (XS.i2b X2.here hx rfl (D 5 rfl) rfl (st4 _ (Steps.refl _))))))
  have Na := Fr.snoc X4 N0 gb
  have hv : nar .byte (ch.toInt8.toInt32) = ch.toInt8.toInt32 := own_nar8 ch
  rw [hv] at V4
  obtain ⟨fs, hr, r1, r2, hW, r4⟩ := X4.leave (v := some (.ref b2)) (nV hret)
  refine ⟨_, _, c4.trans ?_, r1, r2, _, _, rfl, ?_, ⟨_, rfl⟩, hW, r4.mono (by decide) (by decide)⟩
  · exact retA X4 hx hret rfl rfl (D 7 rfl) hr
  · show QV46 Z ch h0 n0 _ T4.heap _
    rw [e4]
    exact ⟨⟨_, _, rfl, zb, V4⟩, Na, ((Keep.refl h0 []).ext E2).wr W4 (Or.inr zb)⟩
def QV151 (Z : State) (a b : Addr) (h0 : Heap) (n0 : Nat) (v : Option Value) (h : Heap) (L : List Loc) : Prop := v = none ∧ Fr n0 L ∧ Keep h0 h [a] ∧ Exa Z h a "java/lang/String" ∧ Fld Z h a "java/lang/String" "value" "[B" (.ref b) ∧ Fld Z h a "java/lang/String" "coder" "B" (.int 0)
theorem rmV151 (l : Launch) (Z : State) (a0 : Array Value) (hw : HW a0 Z) (ws : List Jvm.Cond) (a b : Addr) (h0 : Heap) (n0 : Nat) (Z0 : n0 ≤ h0.size) (Ea : Exa Z h0 a "java/lang/String") (Fv : Fld Z h0 a "java/lang/String" "value" "[B" .null) (Fc : Fld Z h0 a "java/lang/String" "coder" "B" (.int 0)) (ga : n0 ≤ a) :
    own_M l yM85 jdk_42_method_151_code 3 none ws (rK 1 0 0 12) #[(.ref a), (.ref b), (.int J0)] Z h0 (QV151 Z a b h0 n0) := by
  refine own_open (by decide +kernel) dB78 fun p e s m b0 meth c s₁ S0 hx D hby hml hown hnm hret hlk hZ X0 e0 c0 => ?_
  replace c0 : Sx p e b0 S0 s₁ (mkF m 0 (a100 a b J0) []) := c0
  have Hw := @own_Hw _ _ hw
  have N0 := Fr.nil n0
  obtain ⟨T2, X2, e2, st2⟩ := initO X0 hx hZ hown (Hw 24 rfl) (Hw 25 rfl) (Hw 26 rfl) e0 (g := (mkF m 1 (a100 a b J0) [(.ref a)])) rfl hml.symm rfl (D 1 rfl) (by decide) (W := 0) (nE rfl) (by decide)
  have c2 : Sx p e b0 S0 T2 (mkF m 4 (a100 a b J0) []) := c0.trans (qA X0 hx rfl (D 0 rfl) rfl rfl (st2 _ (Steps.refl _)))
  obtain ⟨T4, h4, X4, e4, W4, st4⟩ := putF X2 hx hZ hown (host := "") (Or.inl (Hw 27 rfl)) Via.refl e2 Fv Ea (Or.inr ⟨(Hw 28 rfl), rfl, hnm⟩) (Hw 15 rfl) (ty := (.array .byte)) (by decide) rfl rfl (g := (mkF m 6 (a100 a b J0) [(.ref b), (.ref a)])) rfl rfl (D 4 rfl)
  have c4 : Sx p e b0 S0 T4 (mkF m 9 (a100 a b J0) []) := c2.trans (qA X2 hx rfl (D 2 rfl) rfl rfl (qA X2 hx rfl (D 3 rfl) rfl rfl (st4 _ (Steps.refl _))))
  have Na := Fr.snoc X4 N0 ga
  have Fv1 := Fv.same W4
  have Fc1 := Fc.other W4 (own_sn (Or.inr (Hw 30 rfl)) (Or.inr (Hw 28 rfl)) .byte (.array .byte))
  obtain ⟨T6, h6, X6, e6, W6, st6⟩ := putFN X4 hx hZ hown (Hw 29 rfl) Via.refl e4 Fc1 (Ea.wr W4) (Or.inr ⟨(Hw 30 rfl), rfl, hnm⟩) (Hw 15 rfl) (ty := .byte) (v' := (.int J0)) (by decide) rfl rfl (g := (mkF m 11 (a100 a b J0) [(.int J0), (.ref a)])) rfl rfl (D 7 rfl)
  have c6 : Sx p e b0 S0 T6 (mkF m 14 (a100 a b J0) []) := c4.trans (qA X4 hx rfl (D 5 rfl) rfl rfl (qI X4 hx rfl (D 6 rfl) rfl (st6 _ (Steps.refl _))))
  have Nb := Fr.snoc X6 Na ga
  obtain ⟨fs, hr, r1, r2, hW, r4⟩ := X6.leave (v := none) (fun _ => rfl)
  refine ⟨_, _, c6.trans ?_, r1, r2, _, _, rfl, ?_, ⟨_, rfl⟩, hW, r4.mono (by decide) (by decide)⟩
  · exact X6.returnOut hx hret (D 8 rfl) hr
  · show QV151 Z a b h0 n0 _ T6.heap _
    rw [e6]
    exact ⟨rfl, Nb, ((Keep.refl _ _).wr W4 (mI 0 rfl)).wr W6 (mI 0 rfl), (Ea.wr W4).wr W6, Fv1.other W6 (own_sn (Or.inr (Hw 28 rfl)) (Or.inr (Hw 30 rfl)) (.array .byte) .byte), Fc1.same W6⟩
def QV139 (Z : State) (ch G1 : Int32) (h0 : Heap) (n0 : Nat) (v : Option Value) (h : Heap) (L : List Loc) : Prop := (∃ r t : Addr, v = some (.ref r) ∧ h0.size ≤ r ∧ own_Str Z h r t [ch]) ∧ Fr n0 L ∧ Keep h0 h []
theorem rmV139 (l : Launch) (Z : State) (a0 : Array Value) (hw : HW a0 Z) (ws : List Jvm.Cond) (ch G1 : Int32) (h0 : Heap) (n0 : Nat) (Z0 : n0 ≤ h0.size) (O2 : Sta Z Z.heap "java/lang/String" "COMPACT_STRINGS" "Z" (.int G1)) (P5 : ¬ G1 = 0) (X00 : Old Z n0 h0) (hc0 : ¬ ch < 0) (hc : ¬ (255 : Int32) < ch) :
    own_M l yM86 jdk_42_method_139_code 1 (some (.object "java/lang/String")) ws (rK 3 2 5 40) #[(.int ch)] Z h0 (QV139 Z ch G1 h0 n0) := by
  refine own_open (by decide +kernel) dB79 fun p e s m b0 meth c s₁ S0 hx D hby hml hown hnm hret hlk hZ X0 e0 c0 => ?_
  replace c0 : Sx p e b0 S0 s₁ (mkF m 0 #[vI ch] []) := c0
  have Hw := @own_Hw _ _ hw
  have N0 := Fr.nil n0
  obtain ⟨T1, X1, e1, st1⟩ := getS X0 hx hZ hown (host := "") (Hw 9 rfl) Via.refl e0 (O2.ext X00.2) (g := (mkF m 0 #[vI ch] [])) rfl (D 0 rfl)
  have c1 : Sx p e b0 S0 T1 (mkF m 3 #[vI ch] [(.int G1)]) := c0.trans (st1 _ (Steps.refl _))
  obtain ⟨_, _, ⟨T4, L4, k4, n4⟩, -, X4, ⟨Lc4, hQ4, l4, y4, z4⟩, st4⟩ := Jvm.LawKit.callS X1 hx (y := yM83) hown (mvT hZ (Hw 10 rfl)) (mvT hZ (Hw 11 rfl)) (mvT hZ (Hw 12 rfl)) (mvT hZ (Hw 13 rfl)) (by decide) (backOf (W := 0) (rmV3 l Z a0 hw [] ch h0 n0 Z0 hc) hZ (Hw 13 rfl) (Hw 12 rfl) (by decide) (by decide)) (g := (mkF m 7 #[vI ch] [(.int ch)])) rfl hml.symm (argsL := [(.int ch)]) (rest := []) (lenOf pd44 rfl) rfl (nE rfl) (D 3 rfl) (fun _ _ => ⟨rfl, e1, (by decide : 0 + 0 ≤ _), (by decide : 0 + 0 ≤ _)⟩)
  dsimp only [Pt.U, Pt.locs, Pt.cells, Pt.slots] at X4 l4 y4 z4 st4 hQ4
  subst l4 y4 z4
  obtain ⟨rfl, N1, e1⟩ := hQ4
  have c4 : Sx p e b0 S0 T4 (mkF m 10 #[vI ch] [(.int J1)]) := c1.trans (XS.ifNo X1.here hx rfl (D 1 rfl) rfl ((if0 _ _).trans (feq P5).1) (qI X1 hx rfl (D 2 rfl) rfl (st4 _ (Steps.refl _))))
  obtain ⟨T6, h6, X6, e6, E6, A6, D6, -, st6⟩ := newO X4 hx hZ hown (Hw 14 rfl) (Hw 15 rfl) (Hw 7 rfl) e1 (g := (mkF m 13 #[vI ch] [])) rfl (D 5 rfl) (by decide) (by decide)
  obtain ⟨b6, g6⟩ : ∃ z, z = h0.size := ⟨_, rfl⟩
  rw [← g6] at A6 D6 st6
  have c6 : Sx p e b0 S0 T6 (mkF m 16 #[vI ch] [(.ref b6)]) := c4.trans (XS.ifNo X4.here hx rfl (D 4 rfl) rfl ((if0 _ _).trans (feq (by decide)).1) (st6 _ (Steps.refl _)))
  have Fv : Fld Z h6 b6 "java/lang/String" "value" "[B" .null := D6 (Or.inr (Hw 28 rfl)) (ty := (.array .byte)) (by decide)
  have Fc : Fld Z h6 b6 "java/lang/String" "coder" "B" (.int 0) := D6 (Or.inr (Hw 30 rfl)) (ty := .byte) (by decide)
  have gs : n0 ≤ b6 := nT Z0 (nE g6.symm)
  have zs : h0.size ≤ b6 := nE g6.symm
  have Zs := nT Z0 E6.1
  obtain ⟨_, _, ⟨T8, L8, k8, n8⟩, -, X8, ⟨Lc8, hQ8, l8, y8, z8⟩, st8⟩ := Jvm.LawKit.callS X6 hx (y := yM84) hown (mvT hZ (Hw 16 rfl)) (mvT hZ (Hw 17 rfl)) (mvT hZ (Hw 12 rfl)) (mvT hZ (Hw 18 rfl)) (by decide) (backOf (W := 2) (rmV46 l Z a0 hw [] ch h6 n0 Zs) hZ (Hw 18 rfl) (Hw 12 rfl) (by decide) (by decide)) (g := (mkF m 18 #[vI ch] [(.int ch), (.ref b6), (.ref b6)])) rfl hml.symm (argsL := [(.int ch)]) (rest := [(.ref b6), (.ref b6)]) (lenOf pd45 rfl) rfl (nE rfl) (D 8 rfl) (fun _ _ => ⟨rfl, e6, (by decide : 1 + 1 ≤ _), (by decide : 4 + 1 ≤ _)⟩)
  dsimp only [Pt.U, Pt.locs, Pt.cells, Pt.slots] at X8 l8 y8 z8 st8 hQ8
  subst l8 y8 z8
  obtain ⟨⟨bb, kb, rfl, zb, Vb⟩, N2, K2⟩ := hQ8
  have c8 : Sx p e b0 S0 T8 (mkF m 21 #[vI ch] [(.ref bb), (.ref b6), (.ref b6)]) := c6.trans (XS.dup X6.here hx rfl (D 6 rfl) rfl rfl (qI X6 hx rfl (D 7 rfl) rfl (st8 _ (Steps.refl _))))
  obtain ⟨_, _, ⟨T10, L10, k10, n10⟩, -, X10, ⟨Lc10, hQ10, l10, y10, z10⟩, st10⟩ := X8.specialBack hx (y := yM85) rfl hown (mvT hZ (Hw 20 rfl)) (mvT hZ (Hw 21 rfl)) (mvT hZ (Hw 23 rfl)) (by decide) (backOf (W := 1) (rmV151 l Z a0 hw [] b6 bb T8.heap n0 (nT Zs K2.1) (A6.keep K2) (Fv.keep K2 (fun q => by cases q)) (Fc.keep K2 (fun q => by cases q)) gs) hZ (Hw 23 rfl) (Hw 7 rfl) (by decide) (by decide)) (g := (mkF m 22 #[vI ch] [(.int J0), (.ref bb), (.ref b6), (.ref b6)])) rfl hml.symm (Steps.refl _) (a := b6) (argsL := [(.ref bb), (.int J0)]) (rest := [(.ref b6)]) (lenOf pd46 rfl) rfl (nE rfl) (D 10 rfl) (fun _ _ => ⟨rfl, rfl, (by decide : 2 + 0 ≤ _), (by decide : 5 + 0 ≤ _)⟩)
  dsimp only [Pt.U, Pt.locs, Pt.cells, Pt.slots] at X10 l10 y10 z10 st10 hQ10
  subst l10 y10 z10
  obtain ⟨rfl, N3, K3, A3, F3, C3⟩ := hQ10
  have c10 : Sx p e b0 S0 T10 (mkF m 25 #[vI ch] [(.ref b6)]) := c8.trans (qc X8 hx rfl (D 9 rfl) (st10))
  have nsb : bb ≠ b6 := Ne.symm ((A6.keep K2).neArv Vb (Hw 15 rfl))
  obtain ⟨fs, hr, r1, r2, hW, r4⟩ := X10.leave (v := some (.ref b6)) (nV hret)
  refine ⟨_, _, c10.trans ?_, r1, r2, _, _, rfl, ?_, ⟨_, rfl⟩, hW, r4.mono (by decide) (by decide)⟩
  · exact retA X10 hx hret rfl rfl (D 11 rfl) hr
  · show QV139 Z ch G1 h0 n0 _ T10.heap _
    exact ⟨⟨_, bb, rfl, zs, A3, C3, F3, ⟨_, Vb.keep K3 (fun q => nsb (List.mem_singleton.mp q))⟩, (fun c' hc' => by cases List.mem_singleton.mp hc'; exact ⟨hc0, hc⟩), (Nat.le_of_ble_eq_true rfl)⟩, Fr.app (Fr.app (Fr.app N0 N1) N2) N3, (((Keep.refl h0 []).ext E6).trans K2 (fun x hx => by cases hx)).trans K3 (fun x hx => by cases List.mem_singleton.mp hx; exact Or.inr zs)⟩
def QMk (Z : State) (kk : Nat) (cc : Int32) (gg : own_G) (h0 : Heap) (n0 : Nat) (v : Option Value) (h : Heap) (L : List Loc) : Prop := (∃ i : Addr, v = some (.ref i) ∧ h0.size ≤ i ∧ own_In Z gg h i kk) ∧ Fr n0 L ∧ Keep h0 h []
theorem rmMk (l : Launch) (Z : State) (a0 : Array Value) (hw : HW a0 Z) (ws : List Jvm.Cond) (kk : Nat) (cc : Int32) (gg : own_G) (h0 : Heap) (n0 : Nat) (Z0 : n0 ≤ h0.size) (EV : own_Env Z gg) (X00 : Old Z n0 h0) (hk2 : kk ≤ 2) :
    own_MW l yM87 method_3_code 3 (some (.object "com/example/spanfold/spanfold/Input")) ws (rK 10 78 640 190) #[(.int (Int32.ofNat kk)), (.int cc)] Z h0 (QMk Z kk cc gg h0 n0) := by
  refine own_openW (plainFor_of_name pn1) dB80 fun p e s m b0 meth c s₁ S0 hx D hby hml hown hnm hret hlk hZ X0 e0 c0 => ?_
  replace c0 : Sx p e b0 S0 s₁ (mkF m 0 (a158 (Int32.ofNat kk) cc) []) := c0
  have Hw := @own_Hw _ _ hw
  have N0 := Fr.nil n0
  obtain ⟨V0, hV0⟩ : ∃ V, V = s.vm := ⟨_, rfl⟩
  have Xs : Stand p l e (rK 10 78 640 190) (s.setVm V0) m #[(.int (Int32.ofNat kk)), (.int cc)] b0 meth c s₁ [] 0 0 := by subst hV0; exact X0
  have hS : s.Since V0 h0.size := by subst hV0; exact (State.WarmedH.refl s).since _
  replace hZ : Z.Warmed39 (s.setVm V0).vm := by subst hV0; exact hZ
  replace hown : (s.setVm V0).vm.findClass "com/example/spanfold/spanfold/InputMatchedPinLaw" = some m.cls := by subst hV0; exact hown
  have hk : h0.size ≤ h0.size := Nat.le_refl _
  have Zh := Z0
  have Nf := N0
  have hO := X00
  have hKp := Keep.refl h0 []
  obtain ⟨ch, hcc, hc⟩ := own_ch cc
  have c1 : Sx p e b0 S0 s₁ (mkF m 6 (a158 (Int32.ofNat kk) cc) [(.int ((cc &&& (255 : Int32)).toUInt32.toUInt16.toUInt32.toInt32))]) := c0.trans (qI Xs hx rfl (D 0 rfl) rfl (XS.sipush Xs.here hx rfl (D 1 rfl) (XS.iand Xs.here hx rfl (D 2 rfl) rfl (XS.i2c Xs.here hx rfl (D 3 rfl) rfl (Steps.refl _)))))
  rw [i2c_mask cc, hcc] at c1
  obtain ⟨_, _, ⟨T2, L2, k2, n2⟩, -, X2, ⟨Lc2, hQ2, l2, y2, z2⟩, st2⟩ := Jvm.LawKit.callS Xs hx (y := yM86) hown (mvT hZ (Hw 5 rfl)) (mvT hZ (Hw 6 rfl)) (mvT hZ (Hw 7 rfl)) (mvT hZ (Hw 8 rfl)) (by decide) (backOf (W := 0) (rmV139 l Z a0 hw [] (Int32.ofNat ch) gg.G1 h0 n0 Zh EV.cs EV.nz hO (own_nn (by omega)) (own_le255 hc)) hZ (Hw 8 rfl) (Hw 7 rfl) (by decide) (by decide)) (g := (mkF m 6 (a158 (Int32.ofNat kk) cc) [(.int (Int32.ofNat ch))])) rfl hml.symm (argsL := [(.int (Int32.ofNat ch))]) (rest := []) (lenOf pd47 rfl) rfl (nE rfl) (D 4 rfl) (fun _ _ => ⟨rfl, e0, (by decide : 0 + 2 ≤ _), (by decide : 0 + 5 ≤ _)⟩)
  dsimp only [Pt.U, Pt.locs, Pt.cells, Pt.slots] at X2 l2 y2 z2 st2 hQ2
  subst l2 y2 z2
  obtain ⟨⟨tn, tt, rfl, ztn, Sn⟩, N1, K1⟩ := hQ2
  have c2 : Sx p e b0 S0 T2 (mkF m 9 (a158 (Int32.ofNat kk) cc) [(.ref tn)]) := c1.trans (st2 _ (Steps.refl _))
  have Nf := Fr.app Nf N1
  have hk := nT hk K1.1
  have Zh := nT Zh K1.1
  have hO := hO.keep K1 all0
  have hKp := hKp.trans K1 all0
  obtain ⟨_, _, ⟨T4, L4, k4, n4⟩, -, X4, ⟨Lc4, hQ4, l4, y4, z4⟩, st4⟩ := Jvm.LawKit.callS X2 hx (y := yM54) hown (mvT hZ (Hw 31 rfl)) (mvT hZ (Hw 32 rfl)) (mvT hZ (Hw 3 rfl)) (mvT hZ (Hw 33 rfl)) (by decide) (backOf (W := 1) (rmNm l Z a0 hw [] cc 107 ch gg T2.heap n0 Zh EV hO (by decide) hc hcc) hZ (Hw 33 rfl) (Hw 3 rfl) (by decide) (by decide)) (g := (mkF m 12 (a158 (Int32.ofNat kk) cc) [(.int cc), (.int (107 : Int32)), (.ref tn)])) rfl hml.symm (argsL := [(.int (107 : Int32)), (.int cc)]) (rest := [(.ref tn)]) (lenOf pd48 rfl) rfl (nE rfl) (D 7 rfl) (fun _ _ => ⟨rfl, rfl, (by decide : 2 + 3 ≤ _), (by decide : 5 + 8 ≤ _)⟩)
  dsimp only [Pt.U, Pt.locs, Pt.cells, Pt.slots] at X4 l4 y4 z4 st4 hQ4
  subst l4 y4 z4
  obtain ⟨⟨ky, rfl, zky, Sky⟩, N1, K1⟩ := hQ4
  have c4 : Sx p e b0 S0 T4 (mkF m 15 (a158 (Int32.ofNat kk) cc) [(.ref ky), (.ref tn)]) := c2.trans (XS.bipush X2.here hx rfl (D 5 rfl) (qI X2 hx rfl (D 6 rfl) rfl (st4 _ (Steps.refl _))))
  have zky : h0.size ≤ ky := nT hKp.1 zky
  have gky : n0 ≤ ky := nT Z0 zky
  have Nf := Fr.app Nf N1
  have hk := nT hk K1.1
  have Zh := nT Zh K1.1
  have hO := hO.keep K1 all0
  have hKp := hKp.trans K1 all0
  obtain ⟨_, _, ⟨T6, L6, k6, n6⟩, -, X6, ⟨Lc6, hQ6, l6, y6, z6⟩, st6⟩ := Jvm.LawKit.callS X4 hx (y := yM54) hown (mvT hZ (Hw 31 rfl)) (mvT hZ (Hw 32 rfl)) (mvT hZ (Hw 3 rfl)) (mvT hZ (Hw 33 rfl)) (by decide) (backOf (W := 2) (rmNm l Z a0 hw [] cc 115 ch gg T4.heap n0 Zh EV hO (by decide) hc hcc) hZ (Hw 33 rfl) (Hw 3 rfl) (by decide) (by decide)) (g := (mkF m 18 (a158 (Int32.ofNat kk) cc) [(.int cc), (.int (115 : Int32)), (.ref ky), (.ref tn)])) rfl hml.symm (argsL := [(.int (115 : Int32)), (.int cc)]) (rest := [(.ref ky), (.ref tn)]) (lenOf pd48 rfl) rfl (nE rfl) (D 10 rfl) (fun _ _ => ⟨rfl, rfl, (by decide : 5 + 3 ≤ _), (by decide : 13 + 8 ≤ _)⟩)
  dsimp only [Pt.U, Pt.locs, Pt.cells, Pt.slots] at X6 l6 y6 z6 st6 hQ6
  subst l6 y6 z6
  obtain ⟨⟨sy, rfl, zsy, Ssy⟩, N1, K1⟩ := hQ6
  have c6 : Sx p e b0 S0 T6 (mkF m 21 (a158 (Int32.ofNat kk) cc) [(.ref sy), (.ref ky), (.ref tn)]) := c4.trans (XS.bipush X4.here hx rfl (D 8 rfl) (qI X4 hx rfl (D 9 rfl) rfl (st6 _ (Steps.refl _))))
  have zsy : h0.size ≤ sy := nT hKp.1 zsy
  have gsy : n0 ≤ sy := nT Z0 zsy
  have Sky_ := Sky.keep K1 nin0 all0
  have Sky := Sky_
  have Nf := Fr.app Nf N1
  have hk := nT hk K1.1
  have Zh := nT Zh K1.1
  have hO := hO.keep K1 all0
  have hKp := hKp.trans K1 all0
  obtain ⟨_, _, ⟨T8, L8, k8, n8⟩, -, X8, ⟨Lc8, hQ8, l8, y8, z8⟩, st8⟩ := Jvm.LawKit.callS X6 hx (y := yM54) hown (mvT hZ (Hw 31 rfl)) (mvT hZ (Hw 32 rfl)) (mvT hZ (Hw 3 rfl)) (mvT hZ (Hw 33 rfl)) (by decide) (backOf (W := 3) (rmNm l Z a0 hw [] cc 101 ch gg T6.heap n0 Zh EV hO (by decide) hc hcc) hZ (Hw 33 rfl) (Hw 3 rfl) (by decide) (by decide)) (g := (mkF m 24 (a158 (Int32.ofNat kk) cc) [(.int cc), (.int (101 : Int32)), (.ref sy), (.ref ky), (.ref tn)])) rfl hml.symm (argsL := [(.int (101 : Int32)), (.int cc)]) (rest := [(.ref sy), (.ref ky), (.ref tn)]) (lenOf pd48 rfl) rfl (nE rfl) (D 13 rfl) (fun _ _ => ⟨rfl, rfl, (by decide : 8 + 3 ≤ _), (by decide : 21 + 8 ≤ _)⟩)
  dsimp only [Pt.U, Pt.locs, Pt.cells, Pt.slots] at X8 l8 y8 z8 st8 hQ8
  subst l8 y8 z8
  obtain ⟨⟨ey, rfl, zey, Sey⟩, N1, K1⟩ := hQ8
  have c8 : Sx p e b0 S0 T8 (mkF m 27 (a158 (Int32.ofNat kk) cc) [(.ref ey), (.ref sy), (.ref ky), (.ref tn)]) := c6.trans (XS.bipush X6.here hx rfl (D 11 rfl) (qI X6 hx rfl (D 12 rfl) rfl (st8 _ (Steps.refl _))))
  have zey : h0.size ≤ ey := nT hKp.1 zey
  have gey : n0 ≤ ey := nT Z0 zey
  have Sky_ := Sky.keep K1 nin0 all0
  have Ssy_ := Ssy.keep K1 nin0 all0
  have Sky := Sky_
  have Ssy := Ssy_
  have Nf := Fr.app Nf N1
  have hk := nT hk K1.1
  have Zh := nT Zh K1.1
  have hO := hO.keep K1 all0
  have hKp := hKp.trans K1 all0
  obtain ⟨_, _, ⟨T9, L9, k9, n9⟩, -, X9, hS9, hge9, ⟨Lc9, hQ9, l9, y9, z9⟩, st9⟩ := callSS X8 hx (y := yM76) hown (mvT hZ (Hw 52 rfl)) (mvT hZ (Hw 53 rfl)) (mvT hZ (Hw 54 rfl)) (mvT hZ (Hw 55 rfl)) (by decide) (backOfS (W := 0) (rmTb l Z a0 hw [] tn ky sy ey ch gg T8.heap n0 Zh EV hO Sky Ssy Sey gky gsy gey hc) hZ (Hw 55 rfl) (Hw 54 rfl) (by decide) (by decide)) (g := (mkF m 27 (a158 (Int32.ofNat kk) cc) [(.ref ey), (.ref sy), (.ref ky), (.ref tn)])) rfl hml.symm (argsL := [(.ref tn), (.ref ky), (.ref sy), (.ref ey)]) (rest := []) (lenOf pd49 rfl) rfl (nE rfl) (D 14 rfl) (fun _ _ => ⟨rfl, rfl, (by decide : 11 + 29 ≤ _), (by decide : 29 + 272 ≤ _)⟩)
  dsimp only [Pt.U, Pt.locs, Pt.cells, Pt.slots] at X9 l9 y9 z9 st9 hQ9 hS9 hge9
  subst l9 y9 z9
  obtain ⟨X9, hS, hZ, hown⟩ := rebS hS hk X9 hS9 hge9 hZ hown
  have hk : T9.heap.size ≤ T9.heap.size := Nat.le_refl _
  obtain ⟨⟨ii, rfl, zi, Bi, Bt, Bq, Bk, Bs, Be, Ba, Lr, Sky, Ssy, Sey⟩, N1, K1⟩ := hQ9
  have c9 : Sx p e b0 S0 T9 (mkF m 30 (a158 (Int32.ofNat kk) cc) [(.ref ii)]) := c8.trans st9
  have zi0 : h0.size ≤ ii := nT hKp.1 zi
  have Nf := Fr.app Nf N1
  have Zh := nT Zh K1.1
  have hO := hO.keep K1 (allS gky (allS gsy (allS gey all0)))
  have hKp := hKp.trans K1 (allS (Or.inr zky) (allS (Or.inr zsy) (allS (Or.inr zey) all0)))
  have c10 : Sx p e b0 S0 T9 (mkF m 32 (a159 (Int32.ofNat kk) cc ii) [(.int (Int32.ofNat kk))]) := c9.trans (XS.astoreN X9.here hx rfl (D 15 rfl) rfl rfl (l' := (a159 (Int32.ofNat kk) cc ii)) rfl (qI X9 hx rfl (D 16 rfl) rfl (Steps.refl _)))
  by_cases hk0 : kk = 0
  · have c11 : Sx p e b0 S0 T9 (mkF m 35 (a159 (Int32.ofNat kk) cc ii) []) := by
      refine c10.trans ?_
      refine XS.ifNo X9.here hx rfl (D 17 rfl) rfl ((if0 _ _).trans (teq (by rw [hk0]; rfl)).2) ?_
      exact Steps.refl _
    obtain ⟨fs, hr, r1, r2, hW⟩ := X9.leaveW hS hk (v := some (.ref ii)) (nV hret)
    refine ⟨_, _, c11.trans ?_, r1, r2, _, _, rfl, ?_, hW.1, hW.2.1, hW.2.2.1, hW.2.2.2.mono (by decide) (by decide)⟩
    · refine qA X9 hx rfl (D 18 rfl) rfl rfl ?_
      exact retA X9 hx hret rfl rfl (D 19 rfl) hr
    · show QMk Z kk cc gg h0 n0 _ T9.heap _
      exact ⟨⟨_, rfl, zi0, Bi, _, _, _, Bk, Ins.of_exa Sky.exa (Hw 122 rfl), Ba, Lr, hk0.symm, own_El.nil⟩, Nf, hKp⟩
  · have c13 : Sx p e b0 S0 T9 (mkF m 37 (a159 (Int32.ofNat kk) cc ii) []) := by
      refine c10.trans ?_
      refine XS.ifYes X9.here hx rfl (pc0 := 32) (pc' := 37) rfl (D 17 rfl) rfl ((if0 _ _).trans (feq (fun q => hk0 ((own_eqn (b := 0) (by omega) (by omega)).mp q))).2) (by decide) (by decide) ?_
      exact Steps.refl _
    have c14 : Sx p e b0 S0 T9 (mkF m 39 (a159 (Int32.ofNat kk) cc ii) [(.int J1), (.int (Int32.ofNat kk))]) := c13.trans (qI X9 hx rfl (D 20 rfl) rfl (qc X9 hx rfl (D 21 rfl) (Steps.refl _)))
    by_cases hk1 : 1 = kk
    · have c15 : Sx p e b0 S0 T9 (mkF m 42 (a159 (Int32.ofNat kk) cc ii) []) := by
        refine c14.trans ?_
        refine XS.icmpNo X9.here hx rfl (D 22 rfl) rfl (teq ((own_eqn (b := 1) (by omega) (by omega)).mpr hk1.symm)).2 ?_
        exact Steps.refl _
      obtain ⟨T17, h17, kA17, X17, e17, E17, A17, A17x, O17, st17⟩ := newRE X9 hx hZ hown (Hw 34 rfl) (Hw 518 rfl) rfl (g := (mkF m 44 (a159 (Int32.ofNat kk) cc ii) [(.int J1), (.ref ii)])) rfl (D 25 rfl) rfl (by decide) (cap := 1) (by decide) (by decide) (by decide) (by decide) (ad := "[Ljava/lang/String;") (by decide +kernel)
      obtain ⟨b17, g17⟩ : ∃ z, z = T9.heap.size := ⟨_, rfl⟩
      rw [← g17] at A17 A17x st17
      have V17 := Arv.new A17 (by decide)
      have c17 : Sx p e b0 S0 T17 (mkF m 47 (a159 (Int32.ofNat kk) cc ii) [(.ref b17), (.ref ii)]) := c15.trans (qA X9 hx rfl (D 23 rfl) rfl rfl (qc X9 hx rfl (D 24 rfl) (st17 _ (Steps.refl _))))
      have zt : h0.size ≤ b17 := nT hKp.1 (nE g17.symm)
      have gt : n0 ≤ b17 := nT Z0 zt
      have V := V17
      have Et := A17x
      have Sky := Sky.ext E17
      have Ssy := Ssy.ext E17
      have Sey := Sey.ext E17
      have Bi := Bi.ext E17
      have Bt := Bt.ext E17
      have Bq := Bq.ext E17
      have Bk := Bk.ext E17
      have Bs := Bs.ext E17
      have Be := Be.ext E17
      have hk := nT hk E17.1
      have Zh := nT Zh E17.1
      have hO := hO.ext E17
      have hKp := hKp.ext E17
      obtain ⟨_, _, ⟨T19, L19, k19, n19⟩, -, X19, ⟨Lc19, hQ19, l19, y19, z19⟩, st19⟩ := Jvm.LawKit.callS X17 hx (y := yM54) hown (mvT hZ (Hw 31 rfl)) (mvT hZ (Hw 32 rfl)) (mvT hZ (Hw 3 rfl)) (mvT hZ (Hw 33 rfl)) (by decide) (backOf (W := 4) (rmNm l Z a0 hw [] cc 97 ch gg h17 n0 Zh EV hO (by decide) hc hcc) hZ (Hw 33 rfl) (Hw 3 rfl) (by decide) (by decide)) (g := (mkF m 52 (a159 (Int32.ofNat kk) cc ii) [(.int cc), (.int (97 : Int32)), (.int J0), (.ref b17), (.ref b17), (.ref ii)])) rfl hml.symm (argsL := [(.int (97 : Int32)), (.int cc)]) (rest := [(.int J0), (.ref b17), (.ref b17), (.ref ii)]) (lenOf pd48 rfl) rfl (nE rfl) (D 30 rfl) (fun _ _ => ⟨rfl, e17, (by decide : 41 + 3 ≤ _), (by decide : 302 + 8 ≤ _)⟩)
      dsimp only [Pt.U, Pt.locs, Pt.cells, Pt.slots] at X19 l19 y19 z19 st19 hQ19
      subst l19 y19 z19
      obtain ⟨⟨a1, rfl, za1, Sa1⟩, N1, K1⟩ := hQ19
      have c19 : Sx p e b0 S0 T19 (mkF m 55 (a159 (Int32.ofNat kk) cc ii) [(.ref a1), (.int J0), (.ref b17), (.ref b17), (.ref ii)]) := c17.trans (XS.dup X17.here hx rfl (D 26 rfl) rfl rfl (qc X17 hx rfl (D 27 rfl) (XS.bipush X17.here hx rfl (D 28 rfl) (qI X17 hx rfl (D 29 rfl) rfl (st19 _ (Steps.refl _))))))
      have za1 : h0.size ≤ a1 := nT hKp.1 za1
      have ga1 : n0 ≤ a1 := nT Z0 za1
      have Sky_ := Sky.keep K1 nin0 all0
      have Ssy_ := Ssy.keep K1 nin0 all0
      have Sey_ := Sey.keep K1 nin0 all0
      have Bi_ := Bi.keep K1
      have Bt_ := Bt.keep K1 nin0
      have Bq_ := Bq.keep K1 nin0
      have Bk_ := Bk.keep K1 nin0
      have Bs_ := Bs.keep K1 nin0
      have Be_ := Be.keep K1 nin0
      have V_ := V.keep K1 nin0
      have Et_ := Et.keep K1
      have Sky := Sky_
      have Ssy := Ssy_
      have Sey := Sey_
      have Bi := Bi_
      have Bt := Bt_
      have Bq := Bq_
      have Bk := Bk_
      have Bs := Bs_
      have Be := Be_
      have V := V_
      have Et := Et_
      have Nf := Fr.app Nf N1
      have hk := nT hk K1.1
      have Zh := nT Zh K1.1
      have hO := hO.keep K1 all0
      have hKp := hKp.trans K1 all0
      have Vp20 : Arv Z _ b17 kA17 (.object "java/lang/String") J1 [.null] .null := V.pad (pad_rep [] .null 1)
      obtain ⟨cl20, Ar20, qr20, S20, M20, Hs20, U20⟩ := id Vp20
      obtain ⟨T20, h20, X20, e20, W20, st20⟩ := stR X19 hx hZ rfl Ar20 (j := J0) (v := (.ref a1)) (inb_of S20 ⟨(by decide), (by decide)⟩) rfl (Sto.ofV Ar20 qr20 O17 (Ins.self Sa1.exa)) (g := (mkF m 55 (a159 (Int32.ofNat kk) cc ii) [(.ref a1), (.int J0), (.ref b17), (.ref b17), (.ref ii)])) rfl rfl (D 31 rfl)
      have V20 : Arv Z h20 b17 kA17 (.object "java/lang/String") J1 [(.ref a1)] .null := Arv.set Ar20 qr20 S20 M20 Hs20 U20 rfl W20 0 (by decide) (Nat.le_of_ble_eq_true rfl)
      have c20 : Sx p e b0 S0 T20 (mkF m 56 (a159 (Int32.ofNat kk) cc ii) [(.ref b17), (.ref ii)]) := c19.trans (st20 _ (Steps.refl _))
      have Sky_ := Sky.keep (Keep.of_wr W20) (ninS (Sky.exa.ne Et (by decide)) nin0) (allS (nX Et (by decide)) all0)
      have Ssy_ := Ssy.keep (Keep.of_wr W20) (ninS (Ssy.exa.ne Et (by decide)) nin0) (allS (nX Et (by decide)) all0)
      have Sey_ := Sey.keep (Keep.of_wr W20) (ninS (Sey.exa.ne Et (by decide)) nin0) (allS (nX Et (by decide)) all0)
      have Bi_ := Bi.keep (Keep.of_wr W20)
      have Bt_ := Bt.keep (Keep.of_wr W20) (ninS (Bi.ne Et (by decide)) nin0)
      have Bq_ := Bq.keep (Keep.of_wr W20) (ninS (Bi.ne Et (by decide)) nin0)
      have Bk_ := Bk.keep (Keep.of_wr W20) (ninS (Bi.ne Et (by decide)) nin0)
      have Bs_ := Bs.keep (Keep.of_wr W20) (ninS (Bi.ne Et (by decide)) nin0)
      have Be_ := Be.keep (Keep.of_wr W20) (ninS (Bi.ne Et (by decide)) nin0)
      have Et_ := Et.keep (Keep.of_wr W20)
      have Sa1_ := Sa1.keep (Keep.of_wr W20) (ninS (Sa1.exa.ne Et (by decide)) nin0) (allS (nX Et (by decide)) all0)
      have Sky := Sky_
      have Ssy := Ssy_
      have Sey := Sey_
      have Bi := Bi_
      have Bt := Bt_
      have Bq := Bq_
      have Bk := Bk_
      have Bs := Bs_
      have Be := Be_
      have Et := Et_
      have Sa1 := Sa1_
      have Nf := Fr.snoc X20 Nf gt
      have hk := nT hk (nE (own_wsz W20).symm)
      have Zh := nT Zh (nE (own_wsz W20).symm)
      have hO := hO.wr W20 gt
      have hKp := hKp.wr W20 (Or.inr zt)
      have V := V20
      obtain ⟨cq21, kq21, q21a, q21b, q21c⟩ := isOf hZ e20 Bi
      obtain ⟨_, _, ⟨T21, L21, k21, n21⟩, -, X21, hS21, hge21, ⟨Lc21, hQ21, l21, y21, z21⟩, st21⟩ := X20.virtualBackS hx (y := yM77) (z := yM77) hown (mvT hZ (Hw 519 rfl)) (mvT hZ (Hw 520 rfl)) (notFace_of_selects (args := #[]) (mvT hZ (Hw 522 rfl))) (mvT hZ (Hw 522 rfl)) (mvT hZ (Hw 521 rfl)) (by decide) (backOfS (W := 0) (rmWa1 l Z a0 hw [] ii b17 kA17 tn ky sy ey a1 ch gg h20 n0 Zh EV hO Bi Bt Bq Bk Bs Be Sky Ssy Sey Sa1 gky gsy gey ga1 V hc) hZ (Hw 523 rfl) (Hw 54 rfl) (by decide) (by decide)) q21a q21c (g := (mkF m 56 (a159 (Int32.ofNat kk) cc ii) [(.ref b17), (.ref ii)])) rfl hml.symm (Steps.refl _) (argsL := [(.ref b17)]) (rest := []) (lenOf pd50 rfl) rfl (nE rfl) (D 32 rfl) (fun _ _ => ⟨rfl, e20, (by decide : 44 + 31 ≤ _), (by decide : 310 + 300 ≤ _)⟩)
      dsimp only [Pt.U, Pt.locs, Pt.cells, Pt.slots] at X21 l21 y21 z21 st21 hQ21 hS21 hge21
      subst l21 y21 z21
      obtain ⟨X21, hS, hZ, hown⟩ := rebS hS (by rw [e20]; exact hk) X21 hS21 hge21 hZ hown
      have hk : T21.heap.size ≤ T21.heap.size := Nat.le_refl _
      obtain ⟨⟨ir, rfl, zr, Dr⟩, N1, K1⟩ := hQ21
      have c21 : Sx p e b0 S0 T21 (mkF m 59 (a159 (Int32.ofNat kk) cc ii) [(.ref ir)]) := c20.trans st21
      have zr0 := nT hKp.1 zr
      have Nf := Fr.app Nf N1
      have Zh := nT Zh K1.1
      have hO := hO.keep K1 (allS gky (allS gsy (allS gey (allS ga1 all0))))
      have hKp := hKp.trans K1 (allS (Or.inr zky) (allS (Or.inr zsy) (allS (Or.inr zey) (allS (Or.inr za1) all0))))
      obtain ⟨fs, hr, r1, r2, hW⟩ := X21.leaveW hS hk (v := some (.ref ir)) (nV hret)
      refine ⟨_, _, c21.trans ?_, r1, r2, _, _, rfl, ?_, hW.1, hW.2.1, hW.2.2.1, hW.2.2.2.mono (by decide) (by decide)⟩
      · exact retA X21 hx hret rfl rfl (D 33 rfl) hr
      · show QMk Z kk cc gg h0 n0 _ T21.heap _
        exact ⟨⟨_, rfl, zr0, hk1 ▸ Dr⟩, Nf, hKp⟩
    · have hk2' : 2 = kk := by omega
      obtain ⟨T24, h24, kA24, X24, e24, E24, A24, A24x, O24, st24⟩ := newRE X9 hx hZ hown (Hw 34 rfl) (Hw 518 rfl) rfl (g := (mkF m 62 (a159 (Int32.ofNat kk) cc ii) [(.int J2), (.ref ii)])) rfl (D 36 rfl) rfl (by decide) (cap := 2) (by decide) (by decide) (by decide) (by decide) (ad := "[Ljava/lang/String;") (by decide +kernel)
      obtain ⟨b24, g24⟩ : ∃ z, z = T9.heap.size := ⟨_, rfl⟩
      rw [← g24] at A24 A24x st24
      have V24 := Arv.new A24 (by decide)
      have c24 : Sx p e b0 S0 T24 (mkF m 65 (a159 (Int32.ofNat kk) cc ii) [(.ref b24), (.ref ii)]) := c14.trans (XS.icmpYes X9.here hx rfl (pc0 := 39) (pc' := 60) rfl (D 22 rfl) rfl (feq (fun q => hk1 ((own_eqn (b := 1) (by omega) (by omega)).mp q).symm)).2 (by decide) (by decide) (qA X9 hx rfl (D 34 rfl) rfl rfl (qc X9 hx rfl (D 35 rfl) (st24 _ (Steps.refl _)))))
      have zt : h0.size ≤ b24 := nT hKp.1 (nE g24.symm)
      have gt : n0 ≤ b24 := nT Z0 zt
      have V := V24
      have Et := A24x
      have Sky := Sky.ext E24
      have Ssy := Ssy.ext E24
      have Sey := Sey.ext E24
      have Bi := Bi.ext E24
      have Bt := Bt.ext E24
      have Bq := Bq.ext E24
      have Bk := Bk.ext E24
      have Bs := Bs.ext E24
      have Be := Be.ext E24
      have hk := nT hk E24.1
      have Zh := nT Zh E24.1
      have hO := hO.ext E24
      have hKp := hKp.ext E24
      obtain ⟨_, _, ⟨T26, L26, k26, n26⟩, -, X26, ⟨Lc26, hQ26, l26, y26, z26⟩, st26⟩ := Jvm.LawKit.callS X24 hx (y := yM54) hown (mvT hZ (Hw 31 rfl)) (mvT hZ (Hw 32 rfl)) (mvT hZ (Hw 3 rfl)) (mvT hZ (Hw 33 rfl)) (by decide) (backOf (W := 4) (rmNm l Z a0 hw [] cc 97 ch gg h24 n0 Zh EV hO (by decide) hc hcc) hZ (Hw 33 rfl) (Hw 3 rfl) (by decide) (by decide)) (g := (mkF m 70 (a159 (Int32.ofNat kk) cc ii) [(.int cc), (.int (97 : Int32)), (.int J0), (.ref b24), (.ref b24), (.ref ii)])) rfl hml.symm (argsL := [(.int (97 : Int32)), (.int cc)]) (rest := [(.int J0), (.ref b24), (.ref b24), (.ref ii)]) (lenOf pd48 rfl) rfl (nE rfl) (D 41 rfl) (fun _ _ => ⟨rfl, e24, (by decide : 41 + 3 ≤ _), (by decide : 303 + 8 ≤ _)⟩)
      dsimp only [Pt.U, Pt.locs, Pt.cells, Pt.slots] at X26 l26 y26 z26 st26 hQ26
      subst l26 y26 z26
      obtain ⟨⟨a1, rfl, za1, Sa1⟩, N1, K1⟩ := hQ26
      have c26 : Sx p e b0 S0 T26 (mkF m 73 (a159 (Int32.ofNat kk) cc ii) [(.ref a1), (.int J0), (.ref b24), (.ref b24), (.ref ii)]) := c24.trans (XS.dup X24.here hx rfl (D 37 rfl) rfl rfl (qc X24 hx rfl (D 38 rfl) (XS.bipush X24.here hx rfl (D 39 rfl) (qI X24 hx rfl (D 40 rfl) rfl (st26 _ (Steps.refl _))))))
      have za1 : h0.size ≤ a1 := nT hKp.1 za1
      have ga1 : n0 ≤ a1 := nT Z0 za1
      have Sky_ := Sky.keep K1 nin0 all0
      have Ssy_ := Ssy.keep K1 nin0 all0
      have Sey_ := Sey.keep K1 nin0 all0
      have Bi_ := Bi.keep K1
      have Bt_ := Bt.keep K1 nin0
      have Bq_ := Bq.keep K1 nin0
      have Bk_ := Bk.keep K1 nin0
      have Bs_ := Bs.keep K1 nin0
      have Be_ := Be.keep K1 nin0
      have V_ := V.keep K1 nin0
      have Et_ := Et.keep K1
      have Sky := Sky_
      have Ssy := Ssy_
      have Sey := Sey_
      have Bi := Bi_
      have Bt := Bt_
      have Bq := Bq_
      have Bk := Bk_
      have Bs := Bs_
      have Be := Be_
      have V := V_
      have Et := Et_
      have Nf := Fr.app Nf N1
      have hk := nT hk K1.1
      have Zh := nT Zh K1.1
      have hO := hO.keep K1 all0
      have hKp := hKp.trans K1 all0
      have Vp27 : Arv Z _ b24 kA24 (.object "java/lang/String") J2 [.null] .null := V.pad (pad_rep [] .null 1)
      obtain ⟨cl27, Ar27, qr27, S27, M27, Hs27, U27⟩ := id Vp27
      obtain ⟨T27, h27, X27, e27, W27, st27⟩ := stR X26 hx hZ rfl Ar27 (j := J0) (v := (.ref a1)) (inb_of S27 ⟨(by decide), (by decide)⟩) rfl (Sto.ofV Ar27 qr27 O24 (Ins.self Sa1.exa)) (g := (mkF m 73 (a159 (Int32.ofNat kk) cc ii) [(.ref a1), (.int J0), (.ref b24), (.ref b24), (.ref ii)])) rfl rfl (D 42 rfl)
      have V27 : Arv Z h27 b24 kA24 (.object "java/lang/String") J2 [(.ref a1)] .null := Arv.set Ar27 qr27 S27 M27 Hs27 U27 rfl W27 0 (by decide) (Nat.le_of_ble_eq_true rfl)
      have c27 : Sx p e b0 S0 T27 (mkF m 74 (a159 (Int32.ofNat kk) cc ii) [(.ref b24), (.ref ii)]) := c26.trans (st27 _ (Steps.refl _))
      have Sky_ := Sky.keep (Keep.of_wr W27) (ninS (Sky.exa.ne Et (by decide)) nin0) (allS (nX Et (by decide)) all0)
      have Ssy_ := Ssy.keep (Keep.of_wr W27) (ninS (Ssy.exa.ne Et (by decide)) nin0) (allS (nX Et (by decide)) all0)
      have Sey_ := Sey.keep (Keep.of_wr W27) (ninS (Sey.exa.ne Et (by decide)) nin0) (allS (nX Et (by decide)) all0)
      have Bi_ := Bi.keep (Keep.of_wr W27)
      have Bt_ := Bt.keep (Keep.of_wr W27) (ninS (Bi.ne Et (by decide)) nin0)
      have Bq_ := Bq.keep (Keep.of_wr W27) (ninS (Bi.ne Et (by decide)) nin0)
      have Bk_ := Bk.keep (Keep.of_wr W27) (ninS (Bi.ne Et (by decide)) nin0)
      have Bs_ := Bs.keep (Keep.of_wr W27) (ninS (Bi.ne Et (by decide)) nin0)
      have Be_ := Be.keep (Keep.of_wr W27) (ninS (Bi.ne Et (by decide)) nin0)
      have Et_ := Et.keep (Keep.of_wr W27)
      have Sa1_ := Sa1.keep (Keep.of_wr W27) (ninS (Sa1.exa.ne Et (by decide)) nin0) (allS (nX Et (by decide)) all0)
      have Sky := Sky_
      have Ssy := Ssy_
      have Sey := Sey_
      have Bi := Bi_
      have Bt := Bt_
      have Bq := Bq_
      have Bk := Bk_
      have Bs := Bs_
      have Be := Be_
      have Et := Et_
      have Sa1 := Sa1_
      have Nf := Fr.snoc X27 Nf gt
      have hk := nT hk (nE (own_wsz W27).symm)
      have Zh := nT Zh (nE (own_wsz W27).symm)
      have hO := hO.wr W27 gt
      have hKp := hKp.wr W27 (Or.inr zt)
      have V := V27
      obtain ⟨_, _, ⟨T29, L29, k29, n29⟩, -, X29, ⟨Lc29, hQ29, l29, y29, z29⟩, st29⟩ := Jvm.LawKit.callS X27 hx (y := yM54) hown (mvT hZ (Hw 31 rfl)) (mvT hZ (Hw 32 rfl)) (mvT hZ (Hw 3 rfl)) (mvT hZ (Hw 33 rfl)) (by decide) (backOf (W := 4) (rmNm l Z a0 hw [] cc 98 ch gg h27 n0 Zh EV hO (by decide) hc hcc) hZ (Hw 33 rfl) (Hw 3 rfl) (by decide) (by decide)) (g := (mkF m 79 (a159 (Int32.ofNat kk) cc ii) [(.int cc), (.int (98 : Int32)), (.int J1), (.ref b24), (.ref b24), (.ref ii)])) rfl hml.symm (argsL := [(.int (98 : Int32)), (.int cc)]) (rest := [(.int J1), (.ref b24), (.ref b24), (.ref ii)]) (lenOf pd48 rfl) rfl (nE rfl) (D 47 rfl) (fun _ _ => ⟨rfl, e27, (by decide : 44 + 3 ≤ _), (by decide : 311 + 8 ≤ _)⟩)
      dsimp only [Pt.U, Pt.locs, Pt.cells, Pt.slots] at X29 l29 y29 z29 st29 hQ29
      subst l29 y29 z29
      obtain ⟨⟨a2, rfl, za2, Sa2⟩, N1, K1⟩ := hQ29
      have c29 : Sx p e b0 S0 T29 (mkF m 82 (a159 (Int32.ofNat kk) cc ii) [(.ref a2), (.int J1), (.ref b24), (.ref b24), (.ref ii)]) := c27.trans (XS.dup X27.here hx rfl (D 43 rfl) rfl rfl (qc X27 hx rfl (D 44 rfl) (XS.bipush X27.here hx rfl (D 45 rfl) (qI X27 hx rfl (D 46 rfl) rfl (st29 _ (Steps.refl _))))))
      have za2 : h0.size ≤ a2 := nT hKp.1 za2
      have ga2 : n0 ≤ a2 := nT Z0 za2
      have Sky_ := Sky.keep K1 nin0 all0
      have Ssy_ := Ssy.keep K1 nin0 all0
      have Sey_ := Sey.keep K1 nin0 all0
      have Bi_ := Bi.keep K1
      have Bt_ := Bt.keep K1 nin0
      have Bq_ := Bq.keep K1 nin0
      have Bk_ := Bk.keep K1 nin0
      have Bs_ := Bs.keep K1 nin0
      have Be_ := Be.keep K1 nin0
      have V_ := V.keep K1 nin0
      have Et_ := Et.keep K1
      have Sa1_ := Sa1.keep K1 nin0 all0
      have Sky := Sky_
      have Ssy := Ssy_
      have Sey := Sey_
      have Bi := Bi_
      have Bt := Bt_
      have Bq := Bq_
      have Bk := Bk_
      have Bs := Bs_
      have Be := Be_
      have V := V_
      have Et := Et_
      have Sa1 := Sa1_
      have Nf := Fr.app Nf N1
      have hk := nT hk K1.1
      have Zh := nT Zh K1.1
      have hO := hO.keep K1 all0
      have hKp := hKp.trans K1 all0
      have Vp30 : Arv Z _ b24 kA24 (.object "java/lang/String") J2 [(.ref a1), .null] .null := V.pad (pad_rep [(.ref a1)] .null 1)
      obtain ⟨cl30, Ar30, qr30, S30, M30, Hs30, U30⟩ := id Vp30
      obtain ⟨T30, h30, X30, e30, W30, st30⟩ := stR X29 hx hZ rfl Ar30 (j := J1) (v := (.ref a2)) (inb_of S30 ⟨(by decide), (by decide)⟩) rfl (Sto.ofV Ar30 qr30 O24 (Ins.self Sa2.exa)) (g := (mkF m 82 (a159 (Int32.ofNat kk) cc ii) [(.ref a2), (.int J1), (.ref b24), (.ref b24), (.ref ii)])) rfl rfl (D 48 rfl)
      have V30 : Arv Z h30 b24 kA24 (.object "java/lang/String") J2 [(.ref a1), (.ref a2)] .null := Arv.set Ar30 qr30 S30 M30 Hs30 U30 rfl W30 1 (by decide) (Nat.le_of_ble_eq_true rfl)
      have c30 : Sx p e b0 S0 T30 (mkF m 83 (a159 (Int32.ofNat kk) cc ii) [(.ref b24), (.ref ii)]) := c29.trans (st30 _ (Steps.refl _))
      have Sky_ := Sky.keep (Keep.of_wr W30) (ninS (Sky.exa.ne Et (by decide)) nin0) (allS (nX Et (by decide)) all0)
      have Ssy_ := Ssy.keep (Keep.of_wr W30) (ninS (Ssy.exa.ne Et (by decide)) nin0) (allS (nX Et (by decide)) all0)
      have Sey_ := Sey.keep (Keep.of_wr W30) (ninS (Sey.exa.ne Et (by decide)) nin0) (allS (nX Et (by decide)) all0)
      have Bi_ := Bi.keep (Keep.of_wr W30)
      have Bt_ := Bt.keep (Keep.of_wr W30) (ninS (Bi.ne Et (by decide)) nin0)
      have Bq_ := Bq.keep (Keep.of_wr W30) (ninS (Bi.ne Et (by decide)) nin0)
      have Bk_ := Bk.keep (Keep.of_wr W30) (ninS (Bi.ne Et (by decide)) nin0)
      have Bs_ := Bs.keep (Keep.of_wr W30) (ninS (Bi.ne Et (by decide)) nin0)
      have Be_ := Be.keep (Keep.of_wr W30) (ninS (Bi.ne Et (by decide)) nin0)
      have Et_ := Et.keep (Keep.of_wr W30)
      have Sa1_ := Sa1.keep (Keep.of_wr W30) (ninS (Sa1.exa.ne Et (by decide)) nin0) (allS (nX Et (by decide)) all0)
      have Sa2_ := Sa2.keep (Keep.of_wr W30) (ninS (Sa2.exa.ne Et (by decide)) nin0) (allS (nX Et (by decide)) all0)
      have Sky := Sky_
      have Ssy := Ssy_
      have Sey := Sey_
      have Bi := Bi_
      have Bt := Bt_
      have Bq := Bq_
      have Bk := Bk_
      have Bs := Bs_
      have Be := Be_
      have Et := Et_
      have Sa1 := Sa1_
      have Sa2 := Sa2_
      have Nf := Fr.snoc X30 Nf gt
      have hk := nT hk (nE (own_wsz W30).symm)
      have Zh := nT Zh (nE (own_wsz W30).symm)
      have hO := hO.wr W30 gt
      have hKp := hKp.wr W30 (Or.inr zt)
      have V := V30
      obtain ⟨cq31, kq31, q31a, q31b, q31c⟩ := isOf hZ e30 Bi
      obtain ⟨_, _, ⟨T31, L31, k31, n31⟩, -, X31, hS31, hge31, ⟨Lc31, hQ31, l31, y31, z31⟩, st31⟩ := X30.virtualBackS hx (y := yM77) (z := yM77) hown (mvT hZ (Hw 519 rfl)) (mvT hZ (Hw 520 rfl)) (notFace_of_selects (args := #[]) (mvT hZ (Hw 522 rfl))) (mvT hZ (Hw 522 rfl)) (mvT hZ (Hw 521 rfl)) (by decide) (backOfS (W := 0) (rmWa2 l Z a0 hw [] ii b24 kA24 tn ky sy ey a1 a2 ch gg h30 n0 Zh EV hO Bi Bt Bq Bk Bs Be Sky Ssy Sey Sa1 Sa2 gky gsy gey ga1 ga2 V hc) hZ (Hw 523 rfl) (Hw 54 rfl) (by decide) (by decide)) q31a q31c (g := (mkF m 83 (a159 (Int32.ofNat kk) cc ii) [(.ref b24), (.ref ii)])) rfl hml.symm (Steps.refl _) (argsL := [(.ref b24)]) (rest := []) (lenOf pd50 rfl) rfl (nE rfl) (D 49 rfl) (fun _ _ => ⟨rfl, e30, (by decide : 47 + 31 ≤ _), (by decide : 319 + 300 ≤ _)⟩)
      dsimp only [Pt.U, Pt.locs, Pt.cells, Pt.slots] at X31 l31 y31 z31 st31 hQ31 hS31 hge31
      subst l31 y31 z31
      obtain ⟨X31, hS, hZ, hown⟩ := rebS hS (by rw [e30]; exact hk) X31 hS31 hge31 hZ hown
      have hk : T31.heap.size ≤ T31.heap.size := Nat.le_refl _
      obtain ⟨⟨ir, rfl, zr, Dr⟩, N1, K1⟩ := hQ31
      have c31 : Sx p e b0 S0 T31 (mkF m 86 (a159 (Int32.ofNat kk) cc ii) [(.ref ir)]) := c30.trans st31
      have zr0 := nT hKp.1 zr
      have Nf := Fr.app Nf N1
      have Zh := nT Zh K1.1
      have hO := hO.keep K1 (allS gky (allS gsy (allS gey (allS ga1 (allS ga2 all0)))))
      have hKp := hKp.trans K1 (allS (Or.inr zky) (allS (Or.inr zsy) (allS (Or.inr zey) (allS (Or.inr za1) (allS (Or.inr za2) all0)))))
      obtain ⟨fs, hr, r1, r2, hW⟩ := X31.leaveW hS hk (v := some (.ref ir)) (nV hret)
      refine ⟨_, _, c31.trans ?_, r1, r2, _, _, rfl, ?_, hW.1, hW.2.1, hW.2.2.1, hW.2.2.2.mono (by decide) (by decide)⟩
      · exact retA X31 hx hret rfl rfl (D 50 rfl) hr
      · show QMk Z kk cc gg h0 n0 _ T31.heap _
        exact ⟨⟨_, rfl, zr0, hk2' ▸ Dr⟩, Nf, hKp⟩
def Q0 (Z : State) (i0 i1 i2 i3 i4 : Int32) (gg : own_G) (h0 : Heap) (n0 : Nat) (v : Option Value) (h : Heap) (L : List Loc) : Prop := v = some (.int 1) ∧ Fr n0 L
theorem rm0 (l : Launch) (Z : State) (a0 : Array Value) (hw : HW a0 Z) (ws : List Jvm.Cond) (i0 i1 i2 i3 i4 : Int32) (gg : own_G) (h0 : Heap) (n0 : Nat) (Z0 : n0 ≤ h0.size) (EV : own_Env Z gg) (X00 : Old Z n0 h0) :
    MetFree l x (head1 (Jvm.Cond.code x code maxLocals ret :: ws) room_1) (fun aa UU => aa = #[(.int i0), (.int i1), (.int i2), (.int i3), (.int i4)] ∧ Z.Warmed39 UU.vm ∧ UU.heap = h0) (fun _ _ _ _ _ => True) (fun _ UU oo UT => ∃ vv LL, oo = .returned vv ∧ Q0 Z i0 i1 i2 i3 i4 gg h0 n0 vv UT.heap LL ∧ ReturnedEndW UU oo UT LL 368 6464) := by
  refine MetFree.of_bodySF (plainFor_of_name pn1) hisR ?_
  intro p e s m args b0 meth c s₁ Bd hml0 hP hK
  have Hw := @own_Hw _ _ hw
  obtain ⟨rfl, hZ, hh⟩ := hP
  have hx := Bd.exec
  have hby := Bd.bytes
  have hml : c.maxLocals = 13 := hml0
  have hown : s.vm.findClass "com/example/spanfold/spanfold/InputMatchedPinLaw" = some m.cls := findClass_of_methodNamed Bd.named
  have hnm := (name_of_methodNamed Bd.named Bd.method).1
  have X0 : Stand p l e room_1 s m #[(.int i0), (.int i1), (.int i2), (.int i3), (.int i4)] b0 meth c s₁ [] 0 0 := Stand.of_body Bd
  have e0 : s₁.heap = h0 := by rw [← hh, Bd.state]; rfl
  have N0 := Fr.nil n0
  refine own_gen (g := mkF m 0 (a160 i0 i1 i2 i3 i4) []) rfl fun S0 c0 => ?_
  obtain ⟨V0, hV0⟩ : ∃ V, V = s.vm := ⟨_, rfl⟩
  have Xs : Stand p l e room_1 (s.setVm V0) m #[(.int i0), (.int i1), (.int i2), (.int i3), (.int i4)] b0 meth c s₁ [] 0 0 := by subst hV0; exact X0
  have hS : s.Since V0 h0.size := by subst hV0; exact (State.WarmedH.refl s).since _
  replace hZ : Z.Warmed39 (s.setVm V0).vm := by subst hV0; exact hZ
  replace hown : (s.setVm V0).vm.findClass "com/example/spanfold/spanfold/InputMatchedPinLaw" = some m.cls := by subst hV0; exact hown
  have hk : h0.size ≤ h0.size := Nat.le_refl _
  have Zh := Z0
  have Nf := N0
  have hO := X00
  have hKp := Keep.refl h0 []
  have c1 : Sx p e b0 S0 s₁ (mkF m 18 (a161 i0 i1 i2 i3 i4 (J1 + ((i0 &&& (2147483647 : Int32)) - (i0 &&& (2147483647 : Int32)) / J3 * J3)) ((i1 &&& (2147483647 : Int32)) - (i1 &&& (2147483647 : Int32)) / J3 * J3)) []) := c0.trans (qc Xs hx rfl (hb hby at_0) (qI Xs hx rfl (hb hby at_1) rfl (Xs.ldcInt hx hown (mvT hZ (Hw 0 rfl)) (g := (mkF m 2 (a160 i0 i1 i2 i3 i4) [(.int i0), (.int J1)])) rfl (hb hby at_2) _ (XS.iand Xs.here hx rfl (hb hby at_4) rfl (qc Xs hx rfl (hb hby at_5) (XS.irem Xs.here hx rfl (hb hby at_6) rfl (by decide) (XS.iadd Xs.here hx rfl (hb hby at_7) rfl (XS.istore Xs.here hx rfl (hb hby at_8) rfl (l' := (a162 i0 i1 i2 i3 i4 (J1 + ((i0 &&& (2147483647 : Int32)) - (i0 &&& (2147483647 : Int32)) / J3 * J3)))) rfl (qI Xs hx rfl (hb hby at_10) rfl (Xs.ldcInt hx hown (mvT hZ (Hw 0 rfl)) (g := (mkF m 11 (a162 i0 i1 i2 i3 i4 (J1 + ((i0 &&& (2147483647 : Int32)) - (i0 &&& (2147483647 : Int32)) / J3 * J3))) [(.int i1)])) rfl (hb hby at_11) _ (XS.iand Xs.here hx rfl (hb hby at_13) rfl (qc Xs hx rfl (hb hby at_14) (XS.irem Xs.here hx rfl (hb hby at_15) rfl (by decide) (XS.istore Xs.here hx rfl (hb hby at_16) rfl (l' := (a161 i0 i1 i2 i3 i4 (J1 + ((i0 &&& (2147483647 : Int32)) - (i0 &&& (2147483647 : Int32)) / J3 * J3)) ((i1 &&& (2147483647 : Int32)) - (i1 &&& (2147483647 : Int32)) / J3 * J3))) rfl (Steps.refl _)))))))))))))))
  obtain ⟨nn, hnn, hn2⟩ := own_m3 i0
  obtain ⟨kk, hkk, hk2⟩ := own_m3 i1
  rw [show (J1 + ((i0 &&& (2147483647 : Int32)) - (i0 &&& (2147483647 : Int32)) / J3 * J3)) = Int32.ofNat (1 + nn) from by rw [hnn]; exact own_addn (a := 1) (by omega), hkk] at c1
  obtain ⟨_, _, ⟨T3, L3, k3, n3⟩, -, X3, hS3, hge3, ⟨Lc3, hQ3, l3, y3, z3⟩, st3⟩ := callSS Xs hx (y := yM87) hown (mvT hZ (Hw 1 rfl)) (mvT hZ (Hw 2 rfl)) (mvT hZ (Hw 3 rfl)) (mvT hZ (Hw 4 rfl)) (by decide) (backOfS (W := 0) (rmMk l Z a0 hw [] kk i2 gg h0 n0 Zh EV hO hk2) hZ (Hw 4 rfl) (Hw 3 rfl) (by decide) (by decide)) (g := (mkF m 21 (a161 i0 i1 i2 i3 i4 (Int32.ofNat (1 + nn)) (Int32.ofNat kk)) [(.int i2), (.int (Int32.ofNat kk))])) rfl hml.symm (argsL := [(.int (Int32.ofNat kk)), (.int i2)]) (rest := []) (lenOf pd51 rfl) rfl (nE rfl) (hb hby at_21) (fun _ _ => ⟨rfl, e0, (by decide : 0 + 78 ≤ _), (by decide : 0 + 640 ≤ _)⟩)
  dsimp only [Pt.U, Pt.locs, Pt.cells, Pt.slots] at X3 l3 y3 z3 st3 hQ3 hS3 hge3
  subst l3 y3 z3
  obtain ⟨X3, hS, hZ, hown⟩ := rebS hS (by rw [e0]; exact hk) X3 hS3 hge3 hZ hown
  have hk : T3.heap.size ≤ T3.heap.size := Nat.le_refl _
  obtain ⟨⟨x0, rfl, zx0, Dx0⟩, N1, K1⟩ := hQ3
  have c3 : Sx p e b0 S0 T3 (mkF m 24 (a161 i0 i1 i2 i3 i4 (Int32.ofNat (1 + nn)) (Int32.ofNat kk)) [(.ref x0)]) := c1.trans (qi Xs hx rfl (hb hby at_18) rfl (qI Xs hx rfl (hb hby at_20) rfl (st3)))
  have Nf := Fr.app Nf N1
  have Zh := nT Zh K1.1
  have hO := hO.keep K1 all0
  have hKp := hKp.trans K1 all0
  obtain ⟨_, _, ⟨T5, L5, k5, n5⟩, -, X5, hS5, hge5, ⟨Lc5, hQ5, l5, y5, z5⟩, st5⟩ := callSS X3 hx (y := yM87) hown (mvT hZ (Hw 1 rfl)) (mvT hZ (Hw 2 rfl)) (mvT hZ (Hw 3 rfl)) (mvT hZ (Hw 4 rfl)) (by decide) (backOfS (W := 0) (rmMk l Z a0 hw [] kk i3 gg T3.heap n0 Zh EV hO hk2) hZ (Hw 4 rfl) (Hw 3 rfl) (by decide) (by decide)) (g := (mkF m 29 (a163 i0 i1 i2 i3 i4 (Int32.ofNat (1 + nn)) (Int32.ofNat kk) x0) [(.int i3), (.int (Int32.ofNat kk))])) rfl hml.symm (argsL := [(.int (Int32.ofNat kk)), (.int i3)]) (rest := []) (lenOf pd51 rfl) rfl (nE rfl) (hb hby at_29) (fun _ _ => ⟨rfl, rfl, (by decide : 78 + 78 ≤ _), (by decide : 640 + 640 ≤ _)⟩)
  dsimp only [Pt.U, Pt.locs, Pt.cells, Pt.slots] at X5 l5 y5 z5 st5 hQ5 hS5 hge5
  subst l5 y5 z5
  obtain ⟨X5, hS, hZ, hown⟩ := rebS hS hk X5 hS5 hge5 hZ hown
  have hk : T5.heap.size ≤ T5.heap.size := Nat.le_refl _
  obtain ⟨⟨x1, rfl, zx1, Dx1⟩, N1, K1⟩ := hQ5
  have c5 : Sx p e b0 S0 T5 (mkF m 32 (a163 i0 i1 i2 i3 i4 (Int32.ofNat (1 + nn)) (Int32.ofNat kk) x0) [(.ref x1)]) := c3.trans (XS.astore X3.here hx rfl (hb hby at_24) rfl rfl (l' := (a163 i0 i1 i2 i3 i4 (Int32.ofNat (1 + nn)) (Int32.ofNat kk) x0)) rfl (qi X3 hx rfl (hb hby at_26) rfl (qI X3 hx rfl (hb hby at_28) rfl (st5))))
  have Nf := Fr.app Nf N1
  have Zh := nT Zh K1.1
  have hO := hO.keep K1 all0
  have hKp := hKp.trans K1 all0
  have Dx0 := Dx0.keep0 K1
  obtain ⟨_, _, ⟨T7, L7, k7, n7⟩, -, X7, hS7, hge7, ⟨Lc7, hQ7, l7, y7, z7⟩, st7⟩ := callSS X5 hx (y := yM87) hown (mvT hZ (Hw 1 rfl)) (mvT hZ (Hw 2 rfl)) (mvT hZ (Hw 3 rfl)) (mvT hZ (Hw 4 rfl)) (by decide) (backOfS (W := 0) (rmMk l Z a0 hw [] kk i4 gg T5.heap n0 Zh EV hO hk2) hZ (Hw 4 rfl) (Hw 3 rfl) (by decide) (by decide)) (g := (mkF m 38 (a164 i0 i1 i2 i3 i4 (Int32.ofNat (1 + nn)) (Int32.ofNat kk) x0 x1) [(.int i4), (.int (Int32.ofNat kk))])) rfl hml.symm (argsL := [(.int (Int32.ofNat kk)), (.int i4)]) (rest := []) (lenOf pd51 rfl) rfl (nE rfl) (hb hby at_38) (fun _ _ => ⟨rfl, rfl, (by decide : 156 + 78 ≤ _), (by decide : 1280 + 640 ≤ _)⟩)
  dsimp only [Pt.U, Pt.locs, Pt.cells, Pt.slots] at X7 l7 y7 z7 st7 hQ7 hS7 hge7
  subst l7 y7 z7
  obtain ⟨X7, hS, hZ, hown⟩ := rebS hS hk X7 hS7 hge7 hZ hown
  have hk : T7.heap.size ≤ T7.heap.size := Nat.le_refl _
  obtain ⟨⟨x2, rfl, zx2, Dx2⟩, N1, K1⟩ := hQ7
  have c7 : Sx p e b0 S0 T7 (mkF m 41 (a164 i0 i1 i2 i3 i4 (Int32.ofNat (1 + nn)) (Int32.ofNat kk) x0 x1) [(.ref x2)]) := c5.trans (XS.astore X5.here hx rfl (hb hby at_32) rfl rfl (l' := (a164 i0 i1 i2 i3 i4 (Int32.ofNat (1 + nn)) (Int32.ofNat kk) x0 x1)) rfl (qi X5 hx rfl (hb hby at_34) rfl (qi X5 hx rfl (hb hby at_36) rfl (st7))))
  have Nf := Fr.app Nf N1
  have Zh := nT Zh K1.1
  have hO := hO.keep K1 all0
  have hKp := hKp.trans K1 all0
  have Dx0 := Dx0.keep0 K1
  have Dx1 := Dx1.keep0 K1
  have Z00 := hKp.1
  obtain ⟨T9, h9, X9, e9, E9, A9, D9, -, st9⟩ := newO X7 hx hZ hown (Hw 387 rfl) (Hw 115 rfl) (Hw 116 rfl) rfl (g := (mkF m 43 (a165 i0 i1 i2 i3 i4 (Int32.ofNat (1 + nn)) (Int32.ofNat kk) x0 x1 x2) [])) rfl (hb hby at_43) (by decide) (by decide)
  obtain ⟨b9, g9⟩ : ∃ z, z = T7.heap.size := ⟨_, rfl⟩
  rw [← g9] at A9 D9 st9
  have c9 : Sx p e b0 S0 T9 (mkF m 46 (a165 i0 i1 i2 i3 i4 (Int32.ofNat (1 + nn)) (Int32.ofNat kk) x0 x1 x2) [(.ref b9)]) := c7.trans (XS.astore X7.here hx rfl (hb hby at_41) rfl rfl (l' := (a165 i0 i1 i2 i3 i4 (Int32.ofNat (1 + nn)) (Int32.ofNat kk) x0 x1 x2)) rfl (st9 _ (Steps.refl _)))
  have zb : T7.heap.size ≤ b9 := nE g9.symm
  have gb : n0 ≤ b9 := nT Zh zb
  have hK3 := (Keep.refl T7.heap []).ext E9
  have hk := nT hk E9.1
  have Zh := nT Zh E9.1
  have hO := hO.ext E9
  have hKp := hKp.ext E9
  have Ea := A9
  have Fm : Fld Z h9 b9 "java/util/AbstractList" "modCount" "I" (.int 0) := D9 (Or.inl (Hw 169 rfl)) (ty := .int) (by decide)
  have Fs : Fld Z h9 b9 "java/util/ArrayList" "size" "I" (.int 0) := D9 (Or.inl (Hw 203 rfl)) (ty := .int) (by decide)
  have Fe : Fld Z h9 b9 "java/util/ArrayList" "elementData" "[Ljava/lang/Object;" .null := D9 (Or.inl (Hw 214 rfl)) (ty := (.array (.object "java/lang/Object"))) (by decide)
  obtain ⟨_, _, ⟨T11, L11, k11, n11⟩, -, X11, ⟨Lc11, hQ11, l11, y11, z11⟩, st11⟩ := X9.specialBack hx (y := yM35) rfl hown (mvT hZ (Hw 388 rfl)) (mvT hZ (Hw 389 rfl)) (mvT hZ (Hw 390 rfl)) (by decide) (backOf (W := 1) (rmA0 l Z a0 hw [] b9 gg h9 n0 Zh EV hO Ea Fm Fs Fe gb) hZ (Hw 390 rfl) (Hw 116 rfl) (by decide) (by decide)) (g := (mkF m 47 (a165 i0 i1 i2 i3 i4 (Int32.ofNat (1 + nn)) (Int32.ofNat kk) x0 x1 x2) [(.ref b9), (.ref b9)])) rfl hml.symm (Steps.refl _) (a := b9) (argsL := []) (rest := [(.ref b9)]) (lenOf pd0 rfl) rfl (nE rfl) (hb hby at_47) (fun _ _ => ⟨rfl, e9, (by decide : 235 + 0 ≤ _), (by decide : 1923 + 0 ≤ _)⟩)
  dsimp only [Pt.U, Pt.locs, Pt.cells, Pt.slots] at X11 l11 y11 z11 st11 hQ11
  subst l11 y11 z11
  obtain ⟨rfl, N1, K1, A⟩ := hQ11
  have c11 : Sx p e b0 S0 T11 (mkF m 50 (a165 i0 i1 i2 i3 i4 (Int32.ofNat (1 + nn)) (Int32.ofNat kk) x0 x1 x2) [(.ref b9)]) := c9.trans (XS.dup X9.here hx rfl (hb hby at_46) rfl rfl (st11))
  have hK3 := hK3.trans K1 (allS (Or.inr zb) all0)
  have Nf := Fr.app Nf N1
  have hk := nT hk K1.1
  have Zh := nT Zh K1.1
  have hO := hO.keep K1 (allS gb all0)
  have hKp := hKp.trans K1 (allS (Or.inr (nT Z00 zb)) all0)
  obtain ⟨cq13, kq13, q13a, q13b, q13c⟩ := isOf hZ rfl A.1
  obtain ⟨_, _, ⟨T13, L13, k13, n13⟩, -, X13, ⟨Lc13, hQ13, l13, y13, z13⟩, st13⟩ := X11.virtualBack hx (y := yM40) (z := yM40) hown (mvT hZ (Hw 392 rfl)) (mvT hZ (Hw 393 rfl)) (notFace_of_selects (args := #[]) (mvT hZ (Hw 395 rfl))) (mvT hZ (Hw 395 rfl)) (mvT hZ (Hw 394 rfl)) (by decide) (backOf (W := 0) (rmB1 l Z a0 hw [] b9 x0 0 gg T11.heap n0 Zh EV hO A gb (Ins.of_exa (Dx0.1.keep hK3) (Hw 416 rfl))) hZ (Hw 396 rfl) (Hw 116 rfl) (by decide) (by decide)) q13a q13c (g := (mkF m 56 (a166 i0 i1 i2 i3 i4 (Int32.ofNat (1 + nn)) (Int32.ofNat kk) x0 x1 x2 b9) [(.ref x0), (.ref b9)])) rfl hml.symm (Steps.refl _) (argsL := [(.ref x0)]) (rest := []) (lenOf pd35 rfl) rfl (nE rfl) (hb hby at_56) (fun _ _ => ⟨rfl, rfl, (by decide : 235 + 1 ≤ _), (by decide : 1923 + 10 ≤ _)⟩)
  dsimp only [Pt.U, Pt.locs, Pt.cells, Pt.slots] at X13 l13 y13 z13 st13 hQ13
  subst l13 y13 z13
  obtain ⟨rfl, ⟨ed, zed, A⟩, N1, K1⟩ := hQ13
  have c13 : Sx p e b0 S0 T13 (mkF m 59 (a166 i0 i1 i2 i3 i4 (Int32.ofNat (1 + nn)) (Int32.ofNat kk) x0 x1 x2 b9) [(.int J1)]) := c11.trans (XS.astore X11.here hx rfl (hb hby at_50) rfl rfl (l' := (a166 i0 i1 i2 i3 i4 (Int32.ofNat (1 + nn)) (Int32.ofNat kk) x0 x1 x2 b9)) rfl (qa X11 hx rfl (hb hby at_52) rfl rfl (qa X11 hx rfl (hb hby at_54) rfl rfl (st13))))
  have ze3 : T7.heap.size ≤ ed := nT hK3.1 zed
  have ged : n0 ≤ ed := nT Zh zed
  have hK3 := hK3.trans K1 (allS (Or.inr zb) all0)
  have Nf := Fr.app Nf N1
  have hk := nT hk K1.1
  have Zh := nT Zh K1.1
  have hO := hO.keep K1 (allS gb all0)
  have hKp := hKp.trans K1 (allS (Or.inr (nT Z00 zb)) all0)
  have c14 : Sx p e b0 S0 T13 (mkF m 63 (a166 i0 i1 i2 i3 i4 (Int32.ofNat (1 + nn)) (Int32.ofNat kk) x0 x1 x2 b9) [(.int J2), (.int (Int32.ofNat (1 + nn)))]) := c13.trans (XS.pop X13.here hx rfl (hb hby at_59) rfl rfl (qi X13 hx rfl (hb hby at_60) rfl (qc X13 hx rfl (hb hby at_62) (Steps.refl _))))
  by_cases hq1 : nn = 0
  · subst hq1
    obtain ⟨_, _, ⟨T18, L18, k18, n18⟩, -, X18, ⟨Lc18, hQ18, l18, y18, z18⟩, st18⟩ := Jvm.LawKit.callS X13 hx (y := yM80) hown (mvT hZ (Hw 417 rfl)) (mvT hZ (Hw 418 rfl)) (mvT hZ (Hw 54 rfl)) (mvT hZ (Hw 419 rfl)) (by decide) (backOf (W := 0) (rmMa1 l Z a0 hw [] b9 ed (0 + 1) x0 gg kk T13.heap n0 Zh EV hO A hk2 (Dx0.keep0 hK3)) hZ (Hw 419 rfl) (Hw 54 rfl) (by decide) (by decide)) (g := (mkF m 90 (a166 i0 i1 i2 i3 i4 (Int32.ofNat (1 + 0)) (Int32.ofNat kk) x0 x1 x2 b9) [(.ref b9)])) rfl hml.symm (argsL := [(.ref b9)]) (rest := []) (lenOf pd52 rfl) rfl (nE rfl) (hb hby at_90) (fun _ _ => ⟨rfl, rfl, (by decide : 236 + 21 ≤ _), (by decide : 1933 + 150 ≤ _)⟩)
    dsimp only [Pt.U, Pt.locs, Pt.cells, Pt.slots] at X18 l18 y18 z18 st18 hQ18
    subst l18 y18 z18
    obtain ⟨⟨r, rfl, zr, L1, L2, L3⟩, N1, K1⟩ := hQ18
    have c18 : Sx p e b0 S0 T18 (mkF m 93 (a166 i0 i1 i2 i3 i4 (Int32.ofNat (1 + 0)) (Int32.ofNat kk) x0 x1 x2 b9) [(.ref r)]) := c14.trans (XS.icmpYes X13.here hx rfl (pc0 := 63) (pc' := 74) rfl (hb hby at_63) rfl (tlt (by decide)).1 (by decide) (by decide) (qi X13 hx rfl (hb hby at_74) rfl (qc X13 hx rfl (hb hby at_76) (XS.icmpYes X13.here hx rfl (pc0 := 77) (pc' := 88) rfl (hb hby at_77) rfl (tlt (by decide)).1 (by decide) (by decide) (qa X13 hx rfl (hb hby at_88) rfl rfl (st18 _ (Steps.refl _)))))))
    have zr3 := nT hK3.1 zr
    have A := A.keep0 K1
    have hrlt : r < T18.heap.size := L1.lt
    have nra : r ≠ b9 := L1.ne A.1 (by decide)
    have nre : r ≠ ed := L1.ne A.2.2.2.2.2.1 (by decide)
    have hK3 := hK3.trans K1 all0
    have Nf := Fr.app Nf N1
    have hk := nT hk K1.1
    have Zh := nT Zh K1.1
    have hO := hO.keep K1 all0
    have hKp := hKp.trans K1 all0
    obtain ⟨cq20, kq20, q20a, q20b, q20c⟩ := isOf hZ rfl L1
    obtain ⟨_, _, ⟨T20, L20, k20, n20⟩, -, X20, ⟨Lc20, hQ20, l20, y20, z20⟩, st20⟩ := X18.interfaceBack hx (xi := yM82) (y := yM20) (C := "java/util/ImmutableCollections$List12") hown (mvT hZ (Hw 505 rfl)) (mvT hZ (Hw 477 rfl)) (mvT hZ (Hw 478 rfl)) (mvT hZ (Hw 506 rfl)) (mvT hZ (Hw 507 rfl)) (mvT hZ (Hw 508 rfl)) (mvT hZ (Hw 509 rfl)) (mvT hZ (Hw 510 rfl)) (by decide) (backOf (W := 0) (rmTs1 l Z a0 hw [] r x0 gg T18.heap n0 Zh EV hO L1 L2 L3) hZ (Hw 511 rfl) (Hw 452 rfl) (by decide) (by decide)) q20a q20b q20c (g := (mkF m 97 (a167 i0 i1 i2 i3 i4 (Int32.ofNat (1 + 0)) (Int32.ofNat kk) x0 x1 x2 b9 r) [(.ref r)])) rfl hml.symm (Steps.refl _) (argsL := []) (rest := []) (lenOf pd25 rfl) rfl (nE rfl) (hb hby at_97) (fun _ _ => ⟨rfl, rfl, (by decide : 257 + 0 ≤ _), (by decide : 2083 + 0 ≤ _)⟩)
    dsimp only [Pt.U, Pt.locs, Pt.cells, Pt.slots] at X20 l20 y20 z20 st20 hQ20
    subst l20 y20 z20
    obtain ⟨rfl, N1, e1⟩ := hQ20
    have c20 : Sx p e b0 S0 T20 (mkF m 102 (a167 i0 i1 i2 i3 i4 (Int32.ofNat (1 + 0)) (Int32.ofNat kk) x0 x1 x2 b9 r) [(.int J1)]) := c18.trans (XS.astore X18.here hx rfl (hb hby at_93) rfl rfl (l' := (a167 i0 i1 i2 i3 i4 (Int32.ofNat (1 + 0)) (Int32.ofNat kk) x0 x1 x2 b9 r)) rfl (qa X18 hx rfl (hb hby at_95) rfl rfl (st20)))
    have Nf := Fr.app Nf N1
    obtain ⟨cq23, kq23, q23a, q23b, q23c⟩ := isOf hZ e1 L1
    obtain ⟨_, _, ⟨T23, L23, k23, n23⟩, -, X23, ⟨Lc23, hQ23, l23, y23, z23⟩, st23⟩ := X20.interfaceBack hx (xi := yM81) (y := yM21) (C := "java/util/ImmutableCollections$List12") hown (mvT hZ (Hw 512 rfl)) (mvT hZ (Hw 421 rfl)) (mvT hZ (Hw 422 rfl)) (mvT hZ (Hw 513 rfl)) (mvT hZ (Hw 514 rfl)) (mvT hZ (Hw 515 rfl)) (mvT hZ (Hw 516 rfl)) (mvT hZ (Hw 510 rfl)) (by decide) (backOf (W := 0) (rmTg1 l Z a0 hw [] r x0 gg T18.heap n0 Zh EV hO L1 L2 L3) hZ (Hw 517 rfl) (Hw 452 rfl) (by decide) (by decide)) q23a q23b q23c (g := (mkF m 110 (a167 i0 i1 i2 i3 i4 (Int32.ofNat (1 + 0)) (Int32.ofNat kk) x0 x1 x2 b9 r) [(.int J0), (.ref r)])) rfl hml.symm (Steps.refl _) (argsL := [(.int J0)]) (rest := []) (lenOf pd10 rfl) rfl (nE rfl) (hb hby at_110) (fun _ _ => ⟨rfl, e1, (by decide : 257 + 0 ≤ _), (by decide : 2083 + 0 ≤ _)⟩)
    dsimp only [Pt.U, Pt.locs, Pt.cells, Pt.slots] at X23 l23 y23 z23 st23 hQ23
    subst l23 y23 z23
    obtain ⟨rfl, N1, e1⟩ := hQ23
    have c23 : Sx p e b0 S0 T23 (mkF m 115 (a167 i0 i1 i2 i3 i4 (Int32.ofNat (1 + 0)) (Int32.ofNat kk) x0 x1 x2 b9 r) [(.ref x0)]) := c20.trans (qi X20 hx rfl (hb hby at_102) rfl (XS.icmpNo X20.here hx rfl (hb hby at_104) rfl (teq (by decide)).2 (qa X20 hx rfl (hb hby at_107) rfl rfl (qc X20 hx rfl (hb hby at_109) (st23)))))
    have Nf := Fr.app Nf N1
    obtain ⟨cq31, kq31, q31a, q31b, q31c⟩ := isOf hZ e1 A.1
    obtain ⟨_, _, ⟨T31, L31, k31, n31⟩, -, X31, ⟨Lc31, hQ31, l31, y31, z31⟩, st31⟩ := X23.virtualBack hx (y := yM40) (z := yM40) hown (mvT hZ (Hw 392 rfl)) (mvT hZ (Hw 393 rfl)) (notFace_of_selects (args := #[]) (mvT hZ (Hw 395 rfl))) (mvT hZ (Hw 395 rfl)) (mvT hZ (Hw 394 rfl)) (by decide) (backOf (W := 0) (rmB2 l Z a0 hw [] b9 ed [x0] (0 + 1) x0 T18.heap n0 Zh A (Nat.le_of_ble_eq_true rfl) gb ged (Ins.of_exa (Dx0.1.keep hK3) (Hw 416 rfl))) hZ (Hw 396 rfl) (Hw 116 rfl) (by decide) (by decide)) q31a q31c (g := (mkF m 193 (a168 i0 i1 i2 i3 i4 (Int32.ofNat (1 + 0)) (Int32.ofNat kk) x0 x1 x2 b9 r J1) [(.ref x0), (.ref b9)])) rfl hml.symm (Steps.refl _) (argsL := [(.ref x0)]) (rest := []) (lenOf pd35 rfl) rfl (nE rfl) (hb hby at_193) (fun _ _ => ⟨rfl, e1, (by decide : 257 + 0 ≤ _), (by decide : 2083 + 0 ≤ _)⟩)
    dsimp only [Pt.U, Pt.locs, Pt.cells, Pt.slots] at X31 l31 y31 z31 st31 hQ31
    subst l31 y31 z31
    obtain ⟨rfl, A, N1, K1⟩ := hQ31
    have c31 : Sx p e b0 S0 T31 (mkF m 196 (a168 i0 i1 i2 i3 i4 (Int32.ofNat (1 + 0)) (Int32.ofNat kk) x0 x1 x2 b9 r J1) [(.int J1)]) := c23.trans (qa X23 hx rfl (hb hby at_115) rfl rfl (Jvm.RoadKit.acmp (g := (mkF m 117 (a167 i0 i1 i2 i3 i4 (Int32.ofNat (1 + 0)) (Int32.ofNat kk) x0 x1 x2 b9 r) [(.ref x0), (.ref x0)])) X23 hx rfl rfl rfl (pc0 := 117) (pc' := 120) (same := true) rfl (hb hby at_117) rfl (by simp) (by decide) (by decide) (qc X23 hx rfl (hb hby at_120) (XS.goto X23.here hx rfl (pc0 := 121) (pc' := 125) rfl (hb hby at_121) (by decide) (by decide) (XS.istore X23.here hx rfl (hb hby at_125) rfl (l' := (a168 i0 i1 i2 i3 i4 (Int32.ofNat (1 + 0)) (Int32.ofNat kk) x0 x1 x2 b9 r J1)) rfl (qi X23 hx rfl (hb hby at_127) rfl (XS.ifNo X23.here hx rfl (hb hby at_129) rfl ((if0 _ _).trans (feq (by decide)).1) (qi X23 hx rfl (hb hby at_132) rfl (qc X23 hx rfl (hb hby at_134) (XS.icmpYes X23.here hx rfl (pc0 := 135) (pc' := 158) rfl (hb hby at_135) rfl (tlt (by decide)).1 (by decide) (by decide) (qi X23 hx rfl (hb hby at_158) rfl (XS.ifNo X23.here hx rfl (hb hby at_160) rfl ((if0 _ _).trans (feq (by decide)).1) (qi X23 hx rfl (hb hby at_163) rfl (qc X23 hx rfl (hb hby at_165) (XS.icmpYes X23.here hx rfl (pc0 := 166) (pc' := 189) rfl (hb hby at_166) rfl (tlt (by decide)).1 (by decide) (by decide) (qa X23 hx rfl (hb hby at_189) rfl rfl (qa X23 hx rfl (hb hby at_191) rfl rfl (st31))))))))))))))))))
    have hK3 := hK3.trans K1 (allS (Or.inr zb) (allS (Or.inr ze3) all0))
    have Nf := Fr.app Nf N1
    have hk := nT hk K1.1
    have Zh := nT Zh K1.1
    have hO := hO.keep K1 (allS gb (allS ged all0))
    have hKp := hKp.trans K1 (allS (Or.inr (nT Z00 zb)) (allS (Or.inr (nT Z00 ze3)) all0))
    have L1 := L1.keep K1
    have L2 := L2.keep K1 (ninS nra (ninS nre nin0))
    have L3 := L3.keep K1 (ninS nra (ninS nre nin0))
    obtain ⟨cq34, kq34, q34a, q34b, q34c⟩ := isOf hZ rfl L1
    obtain ⟨_, _, ⟨T34, L34, k34, n34⟩, -, X34, ⟨Lc34, hQ34, l34, y34, z34⟩, st34⟩ := X31.interfaceBack hx (xi := yM82) (y := yM20) (C := "java/util/ImmutableCollections$List12") hown (mvT hZ (Hw 505 rfl)) (mvT hZ (Hw 477 rfl)) (mvT hZ (Hw 478 rfl)) (mvT hZ (Hw 506 rfl)) (mvT hZ (Hw 507 rfl)) (mvT hZ (Hw 508 rfl)) (mvT hZ (Hw 509 rfl)) (mvT hZ (Hw 510 rfl)) (by decide) (backOf (W := 0) (rmTs1 l Z a0 hw [] r x0 gg T31.heap n0 Zh EV hO L1 L2 L3) hZ (Hw 511 rfl) (Hw 452 rfl) (by decide) (by decide)) q34a q34b q34c (g := (mkF m 204 (a168 i0 i1 i2 i3 i4 (Int32.ofNat (1 + 0)) (Int32.ofNat kk) x0 x1 x2 b9 r J1) [(.ref r)])) rfl hml.symm (Steps.refl _) (argsL := []) (rest := []) (lenOf pd25 rfl) rfl (nE rfl) (hb hby at_204) (fun _ _ => ⟨rfl, rfl, (by decide : 257 + 0 ≤ _), (by decide : 2083 + 0 ≤ _)⟩)
    dsimp only [Pt.U, Pt.locs, Pt.cells, Pt.slots] at X34 l34 y34 z34 st34 hQ34
    subst l34 y34 z34
    obtain ⟨rfl, N1, e1⟩ := hQ34
    have c34 : Sx p e b0 S0 T34 (mkF m 209 (a168 i0 i1 i2 i3 i4 (Int32.ofNat (1 + 0)) (Int32.ofNat kk) x0 x1 x2 b9 r J1) [(.int J1)]) := c31.trans (XS.pop X31.here hx rfl (hb hby at_196) rfl rfl (qi X31 hx rfl (hb hby at_197) rfl (XS.ifNo X31.here hx rfl (hb hby at_199) rfl ((if0 _ _).trans (feq (by decide)).1) (qa X31 hx rfl (hb hby at_202) rfl rfl (st34)))))
    have Nf := Fr.app Nf N1
    obtain ⟨fs, hr, r1, r2, hW⟩ := X34.leaveW hS (by rw [e1]; exact hk) (v := some (.int 1)) (fun h => by rw [Bd.returns] at h; cases h)
    refine ⟨_, _, c34.trans ?_, r1, r2, _, _, rfl, ?_, hW.1, hW.2.1, hW.2.2.1, hW.2.2.2.mono (by decide) (by decide)⟩
    · refine qi X34 hx rfl (hb hby at_209) rfl ?_
      refine XS.icmpNo X34.here hx rfl (hb hby at_211) rfl (teq (by decide)).2 ?_
      refine qc X34 hx rfl (hb hby at_214) ?_
      refine XS.goto X34.here hx rfl (pc0 := 215) (pc' := 219) rfl (hb hby at_215) (by decide) (by decide) ?_
      exact retN X34 hx (t := .boolean) Bd.returns (by simp) (hb hby at_219) hr
    · show Q0 Z i0 i1 i2 i3 i4 gg h0 n0 _ T34.heap _
      rw [e1]
      exact ⟨rfl, Nf⟩
  · by_cases hq2 : nn = 1
    · subst hq2
      obtain ⟨cq39, kq39, q39a, q39b, q39c⟩ := isOf hZ rfl A.1
      obtain ⟨_, _, ⟨T39, L39, k39, n39⟩, -, X39, ⟨Lc39, hQ39, l39, y39, z39⟩, st39⟩ := X13.virtualBack hx (y := yM40) (z := yM40) hown (mvT hZ (Hw 392 rfl)) (mvT hZ (Hw 393 rfl)) (notFace_of_selects (args := #[]) (mvT hZ (Hw 395 rfl))) (mvT hZ (Hw 395 rfl)) (mvT hZ (Hw 394 rfl)) (by decide) (backOf (W := 0) (rmB2 l Z a0 hw [] b9 ed [x0] (0 + 1) x1 T13.heap n0 Zh A (Nat.le_of_ble_eq_true rfl) gb ged (Ins.of_exa (Dx1.1.keep hK3) (Hw 416 rfl))) hZ (Hw 396 rfl) (Hw 116 rfl) (by decide) (by decide)) q39a q39c (g := (mkF m 70 (a166 i0 i1 i2 i3 i4 (Int32.ofNat (1 + 1)) (Int32.ofNat kk) x0 x1 x2 b9) [(.ref x1), (.ref b9)])) rfl hml.symm (Steps.refl _) (argsL := [(.ref x1)]) (rest := []) (lenOf pd35 rfl) rfl (nE rfl) (hb hby at_70) (fun _ _ => ⟨rfl, rfl, (by decide : 236 + 0 ≤ _), (by decide : 1933 + 0 ≤ _)⟩)
      dsimp only [Pt.U, Pt.locs, Pt.cells, Pt.slots] at X39 l39 y39 z39 st39 hQ39
      subst l39 y39 z39
      obtain ⟨rfl, A, N1, K1⟩ := hQ39
      have c39 : Sx p e b0 S0 T39 (mkF m 73 (a166 i0 i1 i2 i3 i4 (Int32.ofNat (1 + 1)) (Int32.ofNat kk) x0 x1 x2 b9) [(.int J1)]) := c14.trans (XS.icmpNo X13.here hx rfl (hb hby at_63) rfl (flt (by decide)).1 (qa X13 hx rfl (hb hby at_66) rfl rfl (qa X13 hx rfl (hb hby at_68) rfl rfl (st39))))
      have hK3 := hK3.trans K1 (allS (Or.inr zb) (allS (Or.inr ze3) all0))
      have Nf := Fr.app Nf N1
      have hk := nT hk K1.1
      have Zh := nT Zh K1.1
      have hO := hO.keep K1 (allS gb (allS ged all0))
      have hKp := hKp.trans K1 (allS (Or.inr (nT Z00 zb)) (allS (Or.inr (nT Z00 ze3)) all0))
      obtain ⟨_, _, ⟨T43, L43, k43, n43⟩, -, X43, ⟨Lc43, hQ43, l43, y43, z43⟩, st43⟩ := Jvm.LawKit.callS X39 hx (y := yM80) hown (mvT hZ (Hw 417 rfl)) (mvT hZ (Hw 418 rfl)) (mvT hZ (Hw 54 rfl)) (mvT hZ (Hw 419 rfl)) (by decide) (backOf (W := 0) (rmMa2 l Z a0 hw [] b9 ed ((0 + 1) + 1) x0 x1 gg kk T39.heap n0 Zh EV hO A hk2 (Dx0.keep0 hK3) (Dx1.keep0 hK3)) hZ (Hw 419 rfl) (Hw 54 rfl) (by decide) (by decide)) (g := (mkF m 90 (a166 i0 i1 i2 i3 i4 (Int32.ofNat (1 + 1)) (Int32.ofNat kk) x0 x1 x2 b9) [(.ref b9)])) rfl hml.symm (argsL := [(.ref b9)]) (rest := []) (lenOf pd52 rfl) rfl (nE rfl) (hb hby at_90) (fun _ _ => ⟨rfl, rfl, (by decide : 236 + 21 ≤ _), (by decide : 1933 + 150 ≤ _)⟩)
      dsimp only [Pt.U, Pt.locs, Pt.cells, Pt.slots] at X43 l43 y43 z43 st43 hQ43
      subst l43 y43 z43
      obtain ⟨⟨r, rfl, zr, L1, L2, L3⟩, N1, K1⟩ := hQ43
      have c43 : Sx p e b0 S0 T43 (mkF m 93 (a166 i0 i1 i2 i3 i4 (Int32.ofNat (1 + 1)) (Int32.ofNat kk) x0 x1 x2 b9) [(.ref r)]) := c39.trans (XS.pop X39.here hx rfl (hb hby at_73) rfl rfl (qi X39 hx rfl (hb hby at_74) rfl (qc X39 hx rfl (hb hby at_76) (XS.icmpYes X39.here hx rfl (pc0 := 77) (pc' := 88) rfl (hb hby at_77) rfl (tlt (by decide)).1 (by decide) (by decide) (qa X39 hx rfl (hb hby at_88) rfl rfl (st43 _ (Steps.refl _)))))))
      have zr3 := nT hK3.1 zr
      have A := A.keep0 K1
      have hrlt : r < T43.heap.size := L1.lt
      have nra : r ≠ b9 := L1.ne A.1 (by decide)
      have nre : r ≠ ed := L1.ne A.2.2.2.2.2.1 (by decide)
      have hK3 := hK3.trans K1 all0
      have Nf := Fr.app Nf N1
      have hk := nT hk K1.1
      have Zh := nT Zh K1.1
      have hO := hO.keep K1 all0
      have hKp := hKp.trans K1 all0
      have hy : x1 ≠ gg.em := ((Dx1.1.keep hK3).ne (EV.eme.ext hO.2) (by decide))
      obtain ⟨cq45, kq45, q45a, q45b, q45c⟩ := isOf hZ rfl L1
      obtain ⟨_, _, ⟨T45, L45, k45, n45⟩, -, X45, ⟨Lc45, hQ45, l45, y45, z45⟩, st45⟩ := X43.interfaceBack hx (xi := yM82) (y := yM20) (C := "java/util/ImmutableCollections$List12") hown (mvT hZ (Hw 505 rfl)) (mvT hZ (Hw 477 rfl)) (mvT hZ (Hw 478 rfl)) (mvT hZ (Hw 506 rfl)) (mvT hZ (Hw 507 rfl)) (mvT hZ (Hw 508 rfl)) (mvT hZ (Hw 509 rfl)) (mvT hZ (Hw 510 rfl)) (by decide) (backOf (W := 0) (rmTs2 l Z a0 hw [] r x0 x1 gg T43.heap n0 Zh EV hO L1 L2 L3 hy) hZ (Hw 511 rfl) (Hw 452 rfl) (by decide) (by decide)) q45a q45b q45c (g := (mkF m 97 (a167 i0 i1 i2 i3 i4 (Int32.ofNat (1 + 1)) (Int32.ofNat kk) x0 x1 x2 b9 r) [(.ref r)])) rfl hml.symm (Steps.refl _) (argsL := []) (rest := []) (lenOf pd25 rfl) rfl (nE rfl) (hb hby at_97) (fun _ _ => ⟨rfl, rfl, (by decide : 257 + 0 ≤ _), (by decide : 2083 + 0 ≤ _)⟩)
      dsimp only [Pt.U, Pt.locs, Pt.cells, Pt.slots] at X45 l45 y45 z45 st45 hQ45
      subst l45 y45 z45
      obtain ⟨rfl, N1, e1⟩ := hQ45
      have c45 : Sx p e b0 S0 T45 (mkF m 102 (a167 i0 i1 i2 i3 i4 (Int32.ofNat (1 + 1)) (Int32.ofNat kk) x0 x1 x2 b9 r) [(.int J2)]) := c43.trans (XS.astore X43.here hx rfl (hb hby at_93) rfl rfl (l' := (a167 i0 i1 i2 i3 i4 (Int32.ofNat (1 + 1)) (Int32.ofNat kk) x0 x1 x2 b9 r)) rfl (qa X43 hx rfl (hb hby at_95) rfl rfl (st45)))
      have Nf := Fr.app Nf N1
      obtain ⟨cq48, kq48, q48a, q48b, q48c⟩ := isOf hZ e1 L1
      obtain ⟨_, _, ⟨T48, L48, k48, n48⟩, -, X48, ⟨Lc48, hQ48, l48, y48, z48⟩, st48⟩ := X45.interfaceBack hx (xi := yM81) (y := yM21) (C := "java/util/ImmutableCollections$List12") hown (mvT hZ (Hw 512 rfl)) (mvT hZ (Hw 421 rfl)) (mvT hZ (Hw 422 rfl)) (mvT hZ (Hw 513 rfl)) (mvT hZ (Hw 514 rfl)) (mvT hZ (Hw 515 rfl)) (mvT hZ (Hw 516 rfl)) (mvT hZ (Hw 510 rfl)) (by decide) (backOf (W := 0) (rmTg2 l Z a0 hw [] r x0 x1 gg T43.heap n0 Zh EV hO L1 L2 L3 hy) hZ (Hw 517 rfl) (Hw 452 rfl) (by decide) (by decide)) q48a q48b q48c (g := (mkF m 110 (a167 i0 i1 i2 i3 i4 (Int32.ofNat (1 + 1)) (Int32.ofNat kk) x0 x1 x2 b9 r) [(.int J0), (.ref r)])) rfl hml.symm (Steps.refl _) (argsL := [(.int J0)]) (rest := []) (lenOf pd10 rfl) rfl (nE rfl) (hb hby at_110) (fun _ _ => ⟨rfl, e1, (by decide : 257 + 0 ≤ _), (by decide : 2083 + 0 ≤ _)⟩)
      dsimp only [Pt.U, Pt.locs, Pt.cells, Pt.slots] at X48 l48 y48 z48 st48 hQ48
      subst l48 y48 z48
      obtain ⟨rfl, N1, e1⟩ := hQ48
      have c48 : Sx p e b0 S0 T48 (mkF m 115 (a167 i0 i1 i2 i3 i4 (Int32.ofNat (1 + 1)) (Int32.ofNat kk) x0 x1 x2 b9 r) [(.ref x0)]) := c45.trans (qi X45 hx rfl (hb hby at_102) rfl (XS.icmpNo X45.here hx rfl (hb hby at_104) rfl (teq (by decide)).2 (qa X45 hx rfl (hb hby at_107) rfl rfl (qc X45 hx rfl (hb hby at_109) (st48)))))
      have Nf := Fr.app Nf N1
      obtain ⟨cq54, kq54, q54a, q54b, q54c⟩ := isOf hZ e1 L1
      obtain ⟨_, _, ⟨T54, L54, k54, n54⟩, -, X54, ⟨Lc54, hQ54, l54, y54, z54⟩, st54⟩ := X48.interfaceBack hx (xi := yM81) (y := yM21) (C := "java/util/ImmutableCollections$List12") hown (mvT hZ (Hw 512 rfl)) (mvT hZ (Hw 421 rfl)) (mvT hZ (Hw 422 rfl)) (mvT hZ (Hw 513 rfl)) (mvT hZ (Hw 514 rfl)) (mvT hZ (Hw 515 rfl)) (mvT hZ (Hw 516 rfl)) (mvT hZ (Hw 510 rfl)) (by decide) (backOf (W := 0) (rmTg3 l Z a0 hw [] r x0 x1 gg T43.heap n0 Zh EV hO L1 L2 L3 hy) hZ (Hw 517 rfl) (Hw 452 rfl) (by decide) (by decide)) q54a q54b q54c (g := (mkF m 141 (a168 i0 i1 i2 i3 i4 (Int32.ofNat (1 + 1)) (Int32.ofNat kk) x0 x1 x2 b9 r J1) [(.int J1), (.ref r)])) rfl hml.symm (Steps.refl _) (argsL := [(.int J1)]) (rest := []) (lenOf pd10 rfl) rfl (nE rfl) (hb hby at_141) (fun _ _ => ⟨rfl, e1, (by decide : 257 + 0 ≤ _), (by decide : 2083 + 0 ≤ _)⟩)
      dsimp only [Pt.U, Pt.locs, Pt.cells, Pt.slots] at X54 l54 y54 z54 st54 hQ54
      subst l54 y54 z54
      obtain ⟨rfl, N1, e1⟩ := hQ54
      have c54 : Sx p e b0 S0 T54 (mkF m 146 (a168 i0 i1 i2 i3 i4 (Int32.ofNat (1 + 1)) (Int32.ofNat kk) x0 x1 x2 b9 r J1) [(.ref x1)]) := c48.trans (qa X48 hx rfl (hb hby at_115) rfl rfl (Jvm.RoadKit.acmp (g := (mkF m 117 (a167 i0 i1 i2 i3 i4 (Int32.ofNat (1 + 1)) (Int32.ofNat kk) x0 x1 x2 b9 r) [(.ref x0), (.ref x0)])) X48 hx rfl rfl rfl (pc0 := 117) (pc' := 120) (same := true) rfl (hb hby at_117) rfl (by simp) (by decide) (by decide) (qc X48 hx rfl (hb hby at_120) (XS.goto X48.here hx rfl (pc0 := 121) (pc' := 125) rfl (hb hby at_121) (by decide) (by decide) (XS.istore X48.here hx rfl (hb hby at_125) rfl (l' := (a168 i0 i1 i2 i3 i4 (Int32.ofNat (1 + 1)) (Int32.ofNat kk) x0 x1 x2 b9 r J1)) rfl (qi X48 hx rfl (hb hby at_127) rfl (XS.ifNo X48.here hx rfl (hb hby at_129) rfl ((if0 _ _).trans (feq (by decide)).1) (qi X48 hx rfl (hb hby at_132) rfl (qc X48 hx rfl (hb hby at_134) (XS.icmpNo X48.here hx rfl (hb hby at_135) rfl (flt (by decide)).1 (qa X48 hx rfl (hb hby at_138) rfl rfl (qc X48 hx rfl (hb hby at_140) (st54)))))))))))))
      have Nf := Fr.app Nf N1
      obtain ⟨cq61, kq61, q61a, q61b, q61c⟩ := isOf hZ e1 A.1
      obtain ⟨_, _, ⟨T61, L61, k61, n61⟩, -, X61, ⟨Lc61, hQ61, l61, y61, z61⟩, st61⟩ := X54.virtualBack hx (y := yM40) (z := yM40) hown (mvT hZ (Hw 392 rfl)) (mvT hZ (Hw 393 rfl)) (notFace_of_selects (args := #[]) (mvT hZ (Hw 395 rfl))) (mvT hZ (Hw 395 rfl)) (mvT hZ (Hw 394 rfl)) (by decide) (backOf (W := 0) (rmB2 l Z a0 hw [] b9 ed [x0, x1] ((0 + 1) + 1) x0 T43.heap n0 Zh A (Nat.le_of_ble_eq_true rfl) gb ged (Ins.of_exa (Dx0.1.keep hK3) (Hw 416 rfl))) hZ (Hw 396 rfl) (Hw 116 rfl) (by decide) (by decide)) q61a q61c (g := (mkF m 193 (a168 i0 i1 i2 i3 i4 (Int32.ofNat (1 + 1)) (Int32.ofNat kk) x0 x1 x2 b9 r J1) [(.ref x0), (.ref b9)])) rfl hml.symm (Steps.refl _) (argsL := [(.ref x0)]) (rest := []) (lenOf pd35 rfl) rfl (nE rfl) (hb hby at_193) (fun _ _ => ⟨rfl, e1, (by decide : 257 + 0 ≤ _), (by decide : 2083 + 0 ≤ _)⟩)
      dsimp only [Pt.U, Pt.locs, Pt.cells, Pt.slots] at X61 l61 y61 z61 st61 hQ61
      subst l61 y61 z61
      obtain ⟨rfl, A, N1, K1⟩ := hQ61
      have c61 : Sx p e b0 S0 T61 (mkF m 196 (a168 i0 i1 i2 i3 i4 (Int32.ofNat (1 + 1)) (Int32.ofNat kk) x0 x1 x2 b9 r J1) [(.int J1)]) := c54.trans (qa X54 hx rfl (hb hby at_146) rfl rfl (Jvm.RoadKit.acmp (g := (mkF m 148 (a168 i0 i1 i2 i3 i4 (Int32.ofNat (1 + 1)) (Int32.ofNat kk) x0 x1 x2 b9 r J1) [(.ref x1), (.ref x1)])) X54 hx rfl rfl rfl (pc0 := 148) (pc' := 151) (same := true) rfl (hb hby at_148) rfl (by simp) (by decide) (by decide) (qc X54 hx rfl (hb hby at_151) (XS.goto X54.here hx rfl (pc0 := 152) (pc' := 156) rfl (hb hby at_152) (by decide) (by decide) (XS.istore X54.here hx rfl (hb hby at_156) rfl (l' := (a168 i0 i1 i2 i3 i4 (Int32.ofNat (1 + 1)) (Int32.ofNat kk) x0 x1 x2 b9 r J1)) rfl (qi X54 hx rfl (hb hby at_158) rfl (XS.ifNo X54.here hx rfl (hb hby at_160) rfl ((if0 _ _).trans (feq (by decide)).1) (qi X54 hx rfl (hb hby at_163) rfl (qc X54 hx rfl (hb hby at_165) (XS.icmpYes X54.here hx rfl (pc0 := 166) (pc' := 189) rfl (hb hby at_166) rfl (tlt (by decide)).1 (by decide) (by decide) (qa X54 hx rfl (hb hby at_189) rfl rfl (qa X54 hx rfl (hb hby at_191) rfl rfl (st61)))))))))))))
      have hK3 := hK3.trans K1 (allS (Or.inr zb) (allS (Or.inr ze3) all0))
      have Nf := Fr.app Nf N1
      have hk := nT hk K1.1
      have Zh := nT Zh K1.1
      have hO := hO.keep K1 (allS gb (allS ged all0))
      have hKp := hKp.trans K1 (allS (Or.inr (nT Z00 zb)) (allS (Or.inr (nT Z00 ze3)) all0))
      have L1 := L1.keep K1
      have L2 := L2.keep K1 (ninS nra (ninS nre nin0))
      have L3 := L3.keep K1 (ninS nra (ninS nre nin0))
      obtain ⟨cq64, kq64, q64a, q64b, q64c⟩ := isOf hZ rfl L1
      obtain ⟨_, _, ⟨T64, L64, k64, n64⟩, -, X64, ⟨Lc64, hQ64, l64, y64, z64⟩, st64⟩ := X61.interfaceBack hx (xi := yM82) (y := yM20) (C := "java/util/ImmutableCollections$List12") hown (mvT hZ (Hw 505 rfl)) (mvT hZ (Hw 477 rfl)) (mvT hZ (Hw 478 rfl)) (mvT hZ (Hw 506 rfl)) (mvT hZ (Hw 507 rfl)) (mvT hZ (Hw 508 rfl)) (mvT hZ (Hw 509 rfl)) (mvT hZ (Hw 510 rfl)) (by decide) (backOf (W := 0) (rmTs2 l Z a0 hw [] r x0 x1 gg T61.heap n0 Zh EV hO L1 L2 L3 hy) hZ (Hw 511 rfl) (Hw 452 rfl) (by decide) (by decide)) q64a q64b q64c (g := (mkF m 204 (a168 i0 i1 i2 i3 i4 (Int32.ofNat (1 + 1)) (Int32.ofNat kk) x0 x1 x2 b9 r J1) [(.ref r)])) rfl hml.symm (Steps.refl _) (argsL := []) (rest := []) (lenOf pd25 rfl) rfl (nE rfl) (hb hby at_204) (fun _ _ => ⟨rfl, rfl, (by decide : 257 + 0 ≤ _), (by decide : 2083 + 0 ≤ _)⟩)
      dsimp only [Pt.U, Pt.locs, Pt.cells, Pt.slots] at X64 l64 y64 z64 st64 hQ64
      subst l64 y64 z64
      obtain ⟨rfl, N1, e1⟩ := hQ64
      have c64 : Sx p e b0 S0 T64 (mkF m 209 (a168 i0 i1 i2 i3 i4 (Int32.ofNat (1 + 1)) (Int32.ofNat kk) x0 x1 x2 b9 r J1) [(.int J2)]) := c61.trans (XS.pop X61.here hx rfl (hb hby at_196) rfl rfl (qi X61 hx rfl (hb hby at_197) rfl (XS.ifNo X61.here hx rfl (hb hby at_199) rfl ((if0 _ _).trans (feq (by decide)).1) (qa X61 hx rfl (hb hby at_202) rfl rfl (st64)))))
      have Nf := Fr.app Nf N1
      obtain ⟨fs, hr, r1, r2, hW⟩ := X64.leaveW hS (by rw [e1]; exact hk) (v := some (.int 1)) (fun h => by rw [Bd.returns] at h; cases h)
      refine ⟨_, _, c64.trans ?_, r1, r2, _, _, rfl, ?_, hW.1, hW.2.1, hW.2.2.1, hW.2.2.2.mono (by decide) (by decide)⟩
      · refine qi X64 hx rfl (hb hby at_209) rfl ?_
        refine XS.icmpNo X64.here hx rfl (hb hby at_211) rfl (teq (by decide)).2 ?_
        refine qc X64 hx rfl (hb hby at_214) ?_
        refine XS.goto X64.here hx rfl (pc0 := 215) (pc' := 219) rfl (hb hby at_215) (by decide) (by decide) ?_
        exact retN X64 hx (t := .boolean) Bd.returns (by simp) (hb hby at_219) hr
      · show Q0 Z i0 i1 i2 i3 i4 gg h0 n0 _ T64.heap _
        rw [e1]
        exact ⟨rfl, Nf⟩
    · obtain rfl : nn = 2 := by omega
      obtain ⟨cq69, kq69, q69a, q69b, q69c⟩ := isOf hZ rfl A.1
      obtain ⟨_, _, ⟨T69, L69, k69, n69⟩, -, X69, ⟨Lc69, hQ69, l69, y69, z69⟩, st69⟩ := X13.virtualBack hx (y := yM40) (z := yM40) hown (mvT hZ (Hw 392 rfl)) (mvT hZ (Hw 393 rfl)) (notFace_of_selects (args := #[]) (mvT hZ (Hw 395 rfl))) (mvT hZ (Hw 395 rfl)) (mvT hZ (Hw 394 rfl)) (by decide) (backOf (W := 0) (rmB2 l Z a0 hw [] b9 ed [x0] (0 + 1) x1 T13.heap n0 Zh A (Nat.le_of_ble_eq_true rfl) gb ged (Ins.of_exa (Dx1.1.keep hK3) (Hw 416 rfl))) hZ (Hw 396 rfl) (Hw 116 rfl) (by decide) (by decide)) q69a q69c (g := (mkF m 70 (a166 i0 i1 i2 i3 i4 (Int32.ofNat (1 + 2)) (Int32.ofNat kk) x0 x1 x2 b9) [(.ref x1), (.ref b9)])) rfl hml.symm (Steps.refl _) (argsL := [(.ref x1)]) (rest := []) (lenOf pd35 rfl) rfl (nE rfl) (hb hby at_70) (fun _ _ => ⟨rfl, rfl, (by decide : 236 + 0 ≤ _), (by decide : 1933 + 0 ≤ _)⟩)
      dsimp only [Pt.U, Pt.locs, Pt.cells, Pt.slots] at X69 l69 y69 z69 st69 hQ69
      subst l69 y69 z69
      obtain ⟨rfl, A, N1, K1⟩ := hQ69
      have c69 : Sx p e b0 S0 T69 (mkF m 73 (a166 i0 i1 i2 i3 i4 (Int32.ofNat (1 + 2)) (Int32.ofNat kk) x0 x1 x2 b9) [(.int J1)]) := c14.trans (XS.icmpNo X13.here hx rfl (hb hby at_63) rfl (flt (by decide)).1 (qa X13 hx rfl (hb hby at_66) rfl rfl (qa X13 hx rfl (hb hby at_68) rfl rfl (st69))))
      have hK3 := hK3.trans K1 (allS (Or.inr zb) (allS (Or.inr ze3) all0))
      have Nf := Fr.app Nf N1
      have hk := nT hk K1.1
      have Zh := nT Zh K1.1
      have hO := hO.keep K1 (allS gb (allS ged all0))
      have hKp := hKp.trans K1 (allS (Or.inr (nT Z00 zb)) (allS (Or.inr (nT Z00 ze3)) all0))
      obtain ⟨cq72, kq72, q72a, q72b, q72c⟩ := isOf hZ rfl A.1
      obtain ⟨_, _, ⟨T72, L72, k72, n72⟩, -, X72, ⟨Lc72, hQ72, l72, y72, z72⟩, st72⟩ := X69.virtualBack hx (y := yM40) (z := yM40) hown (mvT hZ (Hw 392 rfl)) (mvT hZ (Hw 393 rfl)) (notFace_of_selects (args := #[]) (mvT hZ (Hw 395 rfl))) (mvT hZ (Hw 395 rfl)) (mvT hZ (Hw 394 rfl)) (by decide) (backOf (W := 0) (rmB2 l Z a0 hw [] b9 ed ([x0] ++ [x1]) ((0 + 1) + 1) x2 T69.heap n0 Zh A (Nat.le_of_ble_eq_true rfl) gb ged (Ins.of_exa (Dx2.1.keep hK3) (Hw 416 rfl))) hZ (Hw 396 rfl) (Hw 116 rfl) (by decide) (by decide)) q72a q72c (g := (mkF m 84 (a166 i0 i1 i2 i3 i4 (Int32.ofNat (1 + 2)) (Int32.ofNat kk) x0 x1 x2 b9) [(.ref x2), (.ref b9)])) rfl hml.symm (Steps.refl _) (argsL := [(.ref x2)]) (rest := []) (lenOf pd35 rfl) rfl (nE rfl) (hb hby at_84) (fun _ _ => ⟨rfl, rfl, (by decide : 236 + 0 ≤ _), (by decide : 1933 + 0 ≤ _)⟩)
      dsimp only [Pt.U, Pt.locs, Pt.cells, Pt.slots] at X72 l72 y72 z72 st72 hQ72
      subst l72 y72 z72
      obtain ⟨rfl, A, N1, K1⟩ := hQ72
      have c72 : Sx p e b0 S0 T72 (mkF m 87 (a166 i0 i1 i2 i3 i4 (Int32.ofNat (1 + 2)) (Int32.ofNat kk) x0 x1 x2 b9) [(.int J1)]) := c69.trans (XS.pop X69.here hx rfl (hb hby at_73) rfl rfl (qi X69 hx rfl (hb hby at_74) rfl (qc X69 hx rfl (hb hby at_76) (XS.icmpNo X69.here hx rfl (hb hby at_77) rfl (flt (by decide)).1 (qa X69 hx rfl (hb hby at_80) rfl rfl (qa X69 hx rfl (hb hby at_82) rfl rfl (st72)))))))
      have hK3 := hK3.trans K1 (allS (Or.inr zb) (allS (Or.inr ze3) all0))
      have Nf := Fr.app Nf N1
      have hk := nT hk K1.1
      have Zh := nT Zh K1.1
      have hO := hO.keep K1 (allS gb (allS ged all0))
      have hKp := hKp.trans K1 (allS (Or.inr (nT Z00 zb)) (allS (Or.inr (nT Z00 ze3)) all0))
      obtain ⟨_, _, ⟨T75, L75, k75, n75⟩, -, X75, ⟨Lc75, hQ75, l75, y75, z75⟩, st75⟩ := Jvm.LawKit.callS X72 hx (y := yM80) hown (mvT hZ (Hw 417 rfl)) (mvT hZ (Hw 418 rfl)) (mvT hZ (Hw 54 rfl)) (mvT hZ (Hw 419 rfl)) (by decide) (backOf (W := 0) (rmMa3 l Z a0 hw [] b9 ed (((0 + 1) + 1) + 1) x0 x1 x2 gg kk T72.heap n0 Zh EV hO A hk2 (Dx0.keep0 hK3) (Dx1.keep0 hK3) (Dx2.keep0 hK3)) hZ (Hw 419 rfl) (Hw 54 rfl) (by decide) (by decide)) (g := (mkF m 90 (a166 i0 i1 i2 i3 i4 (Int32.ofNat (1 + 2)) (Int32.ofNat kk) x0 x1 x2 b9) [(.ref b9)])) rfl hml.symm (argsL := [(.ref b9)]) (rest := []) (lenOf pd52 rfl) rfl (nE rfl) (hb hby at_90) (fun _ _ => ⟨rfl, rfl, (by decide : 236 + 21 ≤ _), (by decide : 1933 + 150 ≤ _)⟩)
      dsimp only [Pt.U, Pt.locs, Pt.cells, Pt.slots] at X75 l75 y75 z75 st75 hQ75
      subst l75 y75 z75
      obtain ⟨⟨r, t, rfl, zr, L1, L2, L3⟩, N1, K1⟩ := hQ75
      have c75 : Sx p e b0 S0 T75 (mkF m 93 (a166 i0 i1 i2 i3 i4 (Int32.ofNat (1 + 2)) (Int32.ofNat kk) x0 x1 x2 b9) [(.ref r)]) := c72.trans (XS.pop X72.here hx rfl (hb hby at_87) rfl rfl (qa X72 hx rfl (hb hby at_88) rfl rfl (st75 _ (Steps.refl _))))
      have zr3 := nT hK3.1 zr
      have A := A.keep0 K1
      have hrlt : r < T75.heap.size := L1.lt
      have nra : r ≠ b9 := L1.ne A.1 (by decide)
      have nre : r ≠ ed := L1.ne A.2.2.2.2.2.1 (by decide)
      have hK3 := hK3.trans K1 all0
      have Nf := Fr.app Nf N1
      have hk := nT hk K1.1
      have Zh := nT Zh K1.1
      have hO := hO.keep K1 all0
      have hKp := hKp.trans K1 all0
      obtain ⟨cq77, kq77, q77a, q77b, q77c⟩ := isOf hZ rfl L1
      obtain ⟨_, _, ⟨T77, L77, k77, n77⟩, -, X77, ⟨Lc77, hQ77, l77, y77, z77⟩, st77⟩ := X75.interfaceBack hx (xi := yM82) (y := yM17) (C := "java/util/ImmutableCollections$ListN") hown (mvT hZ (Hw 505 rfl)) (mvT hZ (Hw 477 rfl)) (mvT hZ (Hw 478 rfl)) (mvT hZ (Hw 536 rfl)) (mvT hZ (Hw 537 rfl)) (mvT hZ (Hw 538 rfl)) (mvT hZ (Hw 539 rfl)) (mvT hZ (Hw 111 rfl)) (by decide) (backOf (W := 0) (rmNs l Z a0 hw [] r t [x0, x1, x2] T75.heap n0 Zh L2 L3) hZ (Hw 540 rfl) (Hw 131 rfl) (by decide) (by decide)) q77a q77b q77c (g := (mkF m 97 (a167 i0 i1 i2 i3 i4 (Int32.ofNat (1 + 2)) (Int32.ofNat kk) x0 x1 x2 b9 r) [(.ref r)])) rfl hml.symm (Steps.refl _) (argsL := []) (rest := []) (lenOf pd25 rfl) rfl (nE rfl) (hb hby at_97) (fun _ _ => ⟨rfl, rfl, (by decide : 257 + 0 ≤ _), (by decide : 2083 + 0 ≤ _)⟩)
      dsimp only [Pt.U, Pt.locs, Pt.cells, Pt.slots] at X77 l77 y77 z77 st77 hQ77
      subst l77 y77 z77
      obtain ⟨rfl, N1, e1⟩ := hQ77
      have c77 : Sx p e b0 S0 T77 (mkF m 102 (a167 i0 i1 i2 i3 i4 (Int32.ofNat (1 + 2)) (Int32.ofNat kk) x0 x1 x2 b9 r) [(.int J3)]) := c75.trans (XS.astore X75.here hx rfl (hb hby at_93) rfl rfl (l' := (a167 i0 i1 i2 i3 i4 (Int32.ofNat (1 + 2)) (Int32.ofNat kk) x0 x1 x2 b9 r)) rfl (qa X75 hx rfl (hb hby at_95) rfl rfl (st77)))
      have Nf := Fr.app Nf N1
      obtain ⟨cq80, kq80, q80a, q80b, q80c⟩ := isOf hZ e1 L1
      obtain ⟨_, _, ⟨T80, L80, k80, n80⟩, -, X80, ⟨Lc80, hQ80, l80, y80, z80⟩, st80⟩ := X77.interfaceBack hx (xi := yM81) (y := yM18) (C := "java/util/ImmutableCollections$ListN") hown (mvT hZ (Hw 512 rfl)) (mvT hZ (Hw 421 rfl)) (mvT hZ (Hw 422 rfl)) (mvT hZ (Hw 541 rfl)) (mvT hZ (Hw 542 rfl)) (mvT hZ (Hw 543 rfl)) (mvT hZ (Hw 544 rfl)) (mvT hZ (Hw 111 rfl)) (by decide) (backOf (W := 0) (rmNg l Z a0 hw [] r t [x0, x1, x2] 0 x0 T75.heap n0 Zh L2 L3 rfl) hZ (Hw 545 rfl) (Hw 131 rfl) (by decide) (by decide)) q80a q80b q80c (g := (mkF m 110 (a167 i0 i1 i2 i3 i4 (Int32.ofNat (1 + 2)) (Int32.ofNat kk) x0 x1 x2 b9 r) [(.int J0), (.ref r)])) rfl hml.symm (Steps.refl _) (argsL := [(.int J0)]) (rest := []) (lenOf pd10 rfl) rfl (nE rfl) (hb hby at_110) (fun _ _ => ⟨rfl, e1, (by decide : 257 + 0 ≤ _), (by decide : 2083 + 0 ≤ _)⟩)
      dsimp only [Pt.U, Pt.locs, Pt.cells, Pt.slots] at X80 l80 y80 z80 st80 hQ80
      subst l80 y80 z80
      obtain ⟨rfl, N1, e1⟩ := hQ80
      have c80 : Sx p e b0 S0 T80 (mkF m 115 (a167 i0 i1 i2 i3 i4 (Int32.ofNat (1 + 2)) (Int32.ofNat kk) x0 x1 x2 b9 r) [(.ref x0)]) := c77.trans (qi X77 hx rfl (hb hby at_102) rfl (XS.icmpNo X77.here hx rfl (hb hby at_104) rfl (teq (by decide)).2 (qa X77 hx rfl (hb hby at_107) rfl rfl (qc X77 hx rfl (hb hby at_109) (st80)))))
      have Nf := Fr.app Nf N1
      obtain ⟨cq86, kq86, q86a, q86b, q86c⟩ := isOf hZ e1 L1
      obtain ⟨_, _, ⟨T86, L86, k86, n86⟩, -, X86, ⟨Lc86, hQ86, l86, y86, z86⟩, st86⟩ := X80.interfaceBack hx (xi := yM81) (y := yM18) (C := "java/util/ImmutableCollections$ListN") hown (mvT hZ (Hw 512 rfl)) (mvT hZ (Hw 421 rfl)) (mvT hZ (Hw 422 rfl)) (mvT hZ (Hw 541 rfl)) (mvT hZ (Hw 542 rfl)) (mvT hZ (Hw 543 rfl)) (mvT hZ (Hw 544 rfl)) (mvT hZ (Hw 111 rfl)) (by decide) (backOf (W := 0) (rmNg l Z a0 hw [] r t [x0, x1, x2] 1 x1 T75.heap n0 Zh L2 L3 rfl) hZ (Hw 545 rfl) (Hw 131 rfl) (by decide) (by decide)) q86a q86b q86c (g := (mkF m 141 (a168 i0 i1 i2 i3 i4 (Int32.ofNat (1 + 2)) (Int32.ofNat kk) x0 x1 x2 b9 r J1) [(.int J1), (.ref r)])) rfl hml.symm (Steps.refl _) (argsL := [(.int J1)]) (rest := []) (lenOf pd10 rfl) rfl (nE rfl) (hb hby at_141) (fun _ _ => ⟨rfl, e1, (by decide : 257 + 0 ≤ _), (by decide : 2083 + 0 ≤ _)⟩)
      dsimp only [Pt.U, Pt.locs, Pt.cells, Pt.slots] at X86 l86 y86 z86 st86 hQ86
      subst l86 y86 z86
      obtain ⟨rfl, N1, e1⟩ := hQ86
      have c86 : Sx p e b0 S0 T86 (mkF m 146 (a168 i0 i1 i2 i3 i4 (Int32.ofNat (1 + 2)) (Int32.ofNat kk) x0 x1 x2 b9 r J1) [(.ref x1)]) := c80.trans (qa X80 hx rfl (hb hby at_115) rfl rfl (Jvm.RoadKit.acmp (g := (mkF m 117 (a167 i0 i1 i2 i3 i4 (Int32.ofNat (1 + 2)) (Int32.ofNat kk) x0 x1 x2 b9 r) [(.ref x0), (.ref x0)])) X80 hx rfl rfl rfl (pc0 := 117) (pc' := 120) (same := true) rfl (hb hby at_117) rfl (by simp) (by decide) (by decide) (qc X80 hx rfl (hb hby at_120) (XS.goto X80.here hx rfl (pc0 := 121) (pc' := 125) rfl (hb hby at_121) (by decide) (by decide) (XS.istore X80.here hx rfl (hb hby at_125) rfl (l' := (a168 i0 i1 i2 i3 i4 (Int32.ofNat (1 + 2)) (Int32.ofNat kk) x0 x1 x2 b9 r J1)) rfl (qi X80 hx rfl (hb hby at_127) rfl (XS.ifNo X80.here hx rfl (hb hby at_129) rfl ((if0 _ _).trans (feq (by decide)).1) (qi X80 hx rfl (hb hby at_132) rfl (qc X80 hx rfl (hb hby at_134) (XS.icmpNo X80.here hx rfl (hb hby at_135) rfl (flt (by decide)).1 (qa X80 hx rfl (hb hby at_138) rfl rfl (qc X80 hx rfl (hb hby at_140) (st86)))))))))))))
      have Nf := Fr.app Nf N1
      obtain ⟨cq93, kq93, q93a, q93b, q93c⟩ := isOf hZ e1 L1
      obtain ⟨_, _, ⟨T93, L93, k93, n93⟩, -, X93, ⟨Lc93, hQ93, l93, y93, z93⟩, st93⟩ := X86.interfaceBack hx (xi := yM81) (y := yM18) (C := "java/util/ImmutableCollections$ListN") hown (mvT hZ (Hw 512 rfl)) (mvT hZ (Hw 421 rfl)) (mvT hZ (Hw 422 rfl)) (mvT hZ (Hw 541 rfl)) (mvT hZ (Hw 542 rfl)) (mvT hZ (Hw 543 rfl)) (mvT hZ (Hw 544 rfl)) (mvT hZ (Hw 111 rfl)) (by decide) (backOf (W := 0) (rmNg l Z a0 hw [] r t [x0, x1, x2] 2 x2 T75.heap n0 Zh L2 L3 rfl) hZ (Hw 545 rfl) (Hw 131 rfl) (by decide) (by decide)) q93a q93b q93c (g := (mkF m 172 (a168 i0 i1 i2 i3 i4 (Int32.ofNat (1 + 2)) (Int32.ofNat kk) x0 x1 x2 b9 r J1) [(.int J2), (.ref r)])) rfl hml.symm (Steps.refl _) (argsL := [(.int J2)]) (rest := []) (lenOf pd10 rfl) rfl (nE rfl) (hb hby at_172) (fun _ _ => ⟨rfl, e1, (by decide : 257 + 0 ≤ _), (by decide : 2083 + 0 ≤ _)⟩)
      dsimp only [Pt.U, Pt.locs, Pt.cells, Pt.slots] at X93 l93 y93 z93 st93 hQ93
      subst l93 y93 z93
      obtain ⟨rfl, N1, e1⟩ := hQ93
      have c93 : Sx p e b0 S0 T93 (mkF m 177 (a168 i0 i1 i2 i3 i4 (Int32.ofNat (1 + 2)) (Int32.ofNat kk) x0 x1 x2 b9 r J1) [(.ref x2)]) := c86.trans (qa X86 hx rfl (hb hby at_146) rfl rfl (Jvm.RoadKit.acmp (g := (mkF m 148 (a168 i0 i1 i2 i3 i4 (Int32.ofNat (1 + 2)) (Int32.ofNat kk) x0 x1 x2 b9 r J1) [(.ref x1), (.ref x1)])) X86 hx rfl rfl rfl (pc0 := 148) (pc' := 151) (same := true) rfl (hb hby at_148) rfl (by simp) (by decide) (by decide) (qc X86 hx rfl (hb hby at_151) (XS.goto X86.here hx rfl (pc0 := 152) (pc' := 156) rfl (hb hby at_152) (by decide) (by decide) (XS.istore X86.here hx rfl (hb hby at_156) rfl (l' := (a168 i0 i1 i2 i3 i4 (Int32.ofNat (1 + 2)) (Int32.ofNat kk) x0 x1 x2 b9 r J1)) rfl (qi X86 hx rfl (hb hby at_158) rfl (XS.ifNo X86.here hx rfl (hb hby at_160) rfl ((if0 _ _).trans (feq (by decide)).1) (qi X86 hx rfl (hb hby at_163) rfl (qc X86 hx rfl (hb hby at_165) (XS.icmpNo X86.here hx rfl (hb hby at_166) rfl (flt (by decide)).1 (qa X86 hx rfl (hb hby at_169) rfl rfl (qc X86 hx rfl (hb hby at_171) (st93)))))))))))))
      have Nf := Fr.app Nf N1
      have nta3 : t ≠ b9 := L3.2.1.ne A.1 (by decide)
      have nte3 : t ≠ ed := L3.neN A.2.2.2.2 (by decide)
      obtain ⟨cq98, kq98, q98a, q98b, q98c⟩ := isOf hZ e1 A.1
      obtain ⟨_, _, ⟨T98, L98, k98, n98⟩, -, X98, ⟨Lc98, hQ98, l98, y98, z98⟩, st98⟩ := X93.virtualBack hx (y := yM40) (z := yM40) hown (mvT hZ (Hw 392 rfl)) (mvT hZ (Hw 393 rfl)) (notFace_of_selects (args := #[]) (mvT hZ (Hw 395 rfl))) (mvT hZ (Hw 395 rfl)) (mvT hZ (Hw 394 rfl)) (by decide) (backOf (W := 0) (rmB2 l Z a0 hw [] b9 ed [x0, x1, x2] (((0 + 1) + 1) + 1) x0 T75.heap n0 Zh A (Nat.le_of_ble_eq_true rfl) gb ged (Ins.of_exa (Dx0.1.keep hK3) (Hw 416 rfl))) hZ (Hw 396 rfl) (Hw 116 rfl) (by decide) (by decide)) q98a q98c (g := (mkF m 193 (a168 i0 i1 i2 i3 i4 (Int32.ofNat (1 + 2)) (Int32.ofNat kk) x0 x1 x2 b9 r J1) [(.ref x0), (.ref b9)])) rfl hml.symm (Steps.refl _) (argsL := [(.ref x0)]) (rest := []) (lenOf pd35 rfl) rfl (nE rfl) (hb hby at_193) (fun _ _ => ⟨rfl, e1, (by decide : 257 + 0 ≤ _), (by decide : 2083 + 0 ≤ _)⟩)
      dsimp only [Pt.U, Pt.locs, Pt.cells, Pt.slots] at X98 l98 y98 z98 st98 hQ98
      subst l98 y98 z98
      obtain ⟨rfl, A, N1, K1⟩ := hQ98
      have c98 : Sx p e b0 S0 T98 (mkF m 196 (a168 i0 i1 i2 i3 i4 (Int32.ofNat (1 + 2)) (Int32.ofNat kk) x0 x1 x2 b9 r J1) [(.int J1)]) := c93.trans (qa X93 hx rfl (hb hby at_177) rfl rfl (Jvm.RoadKit.acmp (g := (mkF m 179 (a168 i0 i1 i2 i3 i4 (Int32.ofNat (1 + 2)) (Int32.ofNat kk) x0 x1 x2 b9 r J1) [(.ref x2), (.ref x2)])) X93 hx rfl rfl rfl (pc0 := 179) (pc' := 182) (same := true) rfl (hb hby at_179) rfl (by simp) (by decide) (by decide) (qc X93 hx rfl (hb hby at_182) (XS.goto X93.here hx rfl (pc0 := 183) (pc' := 187) rfl (hb hby at_183) (by decide) (by decide) (XS.istore X93.here hx rfl (hb hby at_187) rfl (l' := (a168 i0 i1 i2 i3 i4 (Int32.ofNat (1 + 2)) (Int32.ofNat kk) x0 x1 x2 b9 r J1)) rfl (qa X93 hx rfl (hb hby at_189) rfl rfl (qa X93 hx rfl (hb hby at_191) rfl rfl (st98))))))))
      have hK3 := hK3.trans K1 (allS (Or.inr zb) (allS (Or.inr ze3) all0))
      have Nf := Fr.app Nf N1
      have hk := nT hk K1.1
      have Zh := nT Zh K1.1
      have hO := hO.keep K1 (allS gb (allS ged all0))
      have hKp := hKp.trans K1 (allS (Or.inr (nT Z00 zb)) (allS (Or.inr (nT Z00 ze3)) all0))
      have L1 := L1.keep K1
      have L2 := L2.keep K1 (ninS nra (ninS nre nin0))
      have L3 := L3.keep K1 (ninS nta3 (ninS nte3 nin0))
      obtain ⟨cq101, kq101, q101a, q101b, q101c⟩ := isOf hZ rfl L1
      obtain ⟨_, _, ⟨T101, L101, k101, n101⟩, -, X101, ⟨Lc101, hQ101, l101, y101, z101⟩, st101⟩ := X98.interfaceBack hx (xi := yM82) (y := yM17) (C := "java/util/ImmutableCollections$ListN") hown (mvT hZ (Hw 505 rfl)) (mvT hZ (Hw 477 rfl)) (mvT hZ (Hw 478 rfl)) (mvT hZ (Hw 536 rfl)) (mvT hZ (Hw 537 rfl)) (mvT hZ (Hw 538 rfl)) (mvT hZ (Hw 539 rfl)) (mvT hZ (Hw 111 rfl)) (by decide) (backOf (W := 0) (rmNs l Z a0 hw [] r t [x0, x1, x2] T98.heap n0 Zh L2 L3) hZ (Hw 540 rfl) (Hw 131 rfl) (by decide) (by decide)) q101a q101b q101c (g := (mkF m 204 (a168 i0 i1 i2 i3 i4 (Int32.ofNat (1 + 2)) (Int32.ofNat kk) x0 x1 x2 b9 r J1) [(.ref r)])) rfl hml.symm (Steps.refl _) (argsL := []) (rest := []) (lenOf pd25 rfl) rfl (nE rfl) (hb hby at_204) (fun _ _ => ⟨rfl, rfl, (by decide : 257 + 0 ≤ _), (by decide : 2083 + 0 ≤ _)⟩)
      dsimp only [Pt.U, Pt.locs, Pt.cells, Pt.slots] at X101 l101 y101 z101 st101 hQ101
      subst l101 y101 z101
      obtain ⟨rfl, N1, e1⟩ := hQ101
      have c101 : Sx p e b0 S0 T101 (mkF m 209 (a168 i0 i1 i2 i3 i4 (Int32.ofNat (1 + 2)) (Int32.ofNat kk) x0 x1 x2 b9 r J1) [(.int J3)]) := c98.trans (XS.pop X98.here hx rfl (hb hby at_196) rfl rfl (qi X98 hx rfl (hb hby at_197) rfl (XS.ifNo X98.here hx rfl (hb hby at_199) rfl ((if0 _ _).trans (feq (by decide)).1) (qa X98 hx rfl (hb hby at_202) rfl rfl (st101)))))
      have Nf := Fr.app Nf N1
      obtain ⟨fs, hr, r1, r2, hW⟩ := X101.leaveW hS (by rw [e1]; exact hk) (v := some (.int 1)) (fun h => by rw [Bd.returns] at h; cases h)
      refine ⟨_, _, c101.trans ?_, r1, r2, _, _, rfl, ?_, hW.1, hW.2.1, hW.2.2.1, hW.2.2.2.mono (by decide) (by decide)⟩
      · refine qi X101 hx rfl (hb hby at_209) rfl ?_
        refine XS.icmpNo X101.here hx rfl (hb hby at_211) rfl (teq (by decide)).2 ?_
        refine qc X101 hx rfl (hb hby at_214) ?_
        refine XS.goto X101.here hx rfl (pc0 := 215) (pc' := 219) rfl (hb hby at_215) (by decide) (by decide) ?_
        exact retN X101 hx (t := .boolean) Bd.returns (by simp) (hb hby at_219) hr
      · show Q0 Z i0 i1 i2 i3 i4 gg h0 n0 _ T101.heap _
        rw [e1]
        exact ⟨rfl, Nf⟩
theorem own_empty {args a0 : Array Value} {Z : State} {t : Term} {a : Addr} (over : (Cond.arrayOver (.object "java/lang/Object")).before a0 Z = true) (ev : t.eval args Z none [] Z = some (.ref a)) (h1 : (Cond.arrayOf t (.object "java/lang/Object")).before args Z = true) (h2 : (Cond.exactly t "[Ljava/lang/Object;").before args Z = true) (h3 : (Cond.eq (.length t) (.int 0)).before args Z = true) : own_OA Z Z.heap a [] 0 := by
  obtain ⟨cl, A⟩ := Arr.start ev (Cond.before_iff.mp h1)
  have Ex := Exa.start ev (Cond.before_iff.mp h2)
  obtain ⟨hs, hz⟩ := Jvm.Free.IntBox.length_fwd h3 ev A.1 A.2.1 A.2.2
  have hz0 : cl.slots.size = 0 := by
    have e : (cl.slots.size.toInt32).toInt = cl.slots.size := by
      have : (cl.slots.size.toInt32).toInt = (cl.slots.size : Int).bmod (2 ^ 32) := by simp [Nat.toInt32, Int32.size]
      rw [this]; exact Int.bmod_eq_of_le (by omega) (by omega)
    rw [hz] at e
    have : (0 : Int32).toInt = 0 := rfl
    omega
  obtain ⟨comp, c, k, g1, -, g3, g4, g5⟩ := Cond.arrayOver_spec over
  obtain ⟨cell, kk, e1, e2, -⟩ := id Ex
  cases A.1.symm.trans e1
  have g6 : Z.vm.findClass "[Ljava/lang/Object;" = some c := by
    rw [← (by decide +kernel : "[" ++ (FieldType.object "java/lang/Object").toString = "[Ljava/lang/Object;")]; exact g5
  cases e2.symm.trans g6
  exact ⟨⟨_, ⟨_, A, rfl, by rw [hz0]; rfl, by decide, fun i hi => absurd hi (by rw [hz0]; exact Nat.not_lt_zero _), fun i hi => absurd hi (by rw [hz0]; exact Nat.not_lt_zero _)⟩, ⟨k, comp, g3, g4, g1⟩⟩, Ex, Nat.le_refl _, by decide⟩
theorem own_env {tb : Tables} {e : Env} {args : Array Value} {s : State} (hw : ∀ d ∈ tables_1, d.before args s = true) (hsets : ∀ d ∈ jdkStatics_1, d.before args s = true) (hcalls : Calls_1 tb e args s) : ∃ gg, own_Env s gg := by
  obtain ⟨⟨c1, k1, mo, p1, q1, r1, -⟩, ⟨c2, k2, mn, p2, q2, r2, -⟩, ⟨c3, k3, ma, p3, q3, r3, -⟩, ⟨c4, k4, m2, p4, q4, r4, -⟩, -⟩ := hcalls
  have S := fun (i : Nat) (d : Cond) (h : jdkStatics_1[i]? = some d) => hsets d (List.mem_of_getElem? h)
  obtain ⟨G1, eG⟩ := is_v (Cond.before_iff.mp (S 1 _ rfl))
  obtain ⟨el, eel⟩ := exa_v (Cond.before_iff.mp (S 11 _ rfl))
  obtain ⟨et, eet⟩ := arr_v (Cond.before_iff.mp (S 12 _ rfl))
  obtain ⟨em, eem⟩ := exa_v (Cond.before_iff.mp (S 18 _ rfl))
  obtain ⟨pr, epr⟩ := exa_v (Cond.before_iff.mp (S 27 _ rfl))
  obtain ⟨dc, edc⟩ := exa_v (Cond.before_iff.mp (S 35 _ rfl))
  have over := hw _ (List.mem_of_getElem? (i := 121) rfl)
  have Oe := own_empty over eet (S 12 _ rfl) (S 13 _ rfl) (S 14 _ rfl)
  have Od := own_empty over edc (S 34 _ rfl) (S 35 _ rfl) (S 36 _ rfl)
  have Ee := Exa.start eel (Cond.before_iff.mp (S 11 _ rfl))
  have Fe : Fld s s.heap el "java/util/ImmutableCollections$ListN" "elements" "[Ljava/lang/Object;" (.ref et) := Fld.start ((fld_at eel).symm.trans eet)
  have Fa : Fld s s.heap el "java/util/ImmutableCollections$ListN" "allowNulls" "Z" (.int 0) := Fld.start ((fld_at eel).symm.trans (Cond.eq_int (show (Jvm.Cond.eq _ (Jvm.Term.int 0)).holds args s none s [] = true from S 15 _ rfl) rfl))
  have n5 := not_v (Cond.before_iff.mp (S 2 _ rfl))
  refine ⟨⟨G1, em, el, et, pr, dc, mo, ma, mn, m2⟩, ?_⟩
  exact ⟨Sta.start eG (Or.inl (S 0 _ rfl)), gotF (Cond.eq_ints eG (Term.int_eval (0))) n5, Sta.start eem (Or.inl (S 17 _ rfl)), Exa.start eem (Cond.before_iff.mp (S 18 _ rfl)), Sta.start eel (Or.inl (S 10 _ rfl)), Or.inr ⟨Ee, et, Fe, Fa, Oe⟩, Sta.start (Cond.eq_int (show (Jvm.Cond.eq _ (Jvm.Term.int 1)).holds args s none s [] = true from S 21 _ rfl) rfl) (Or.inl (S 20 _ rfl)), Sta.start epr (Or.inl (S 26 _ rfl)), Sta.start edc (Or.inr ⟨hw _ (List.mem_of_getElem? (i := 116) rfl), S 30 _ rfl⟩), Od, ⟨c1, k1, p1, q1, r1⟩, ⟨c3, k3, p3, q3, r3⟩, ⟨c2, k2, p2, q2, r2⟩, ⟨c4, k4, p4, q4, r4⟩⟩

set_option maxRecDepth 65536 in
set_option maxHeartbeats 40000000 in
theorem comes_1 {Post : Tables → Env → Array Value → State → Outcome → State → Prop} (hpost : ∀ tb e args s v u, (limb_1_1.after args s (.returned v) u = true ∧ limb_1_2.after args s (.returned v) u = true ∧ True) → ReturnedEndW s (.returned v) u (Jvm.fieldLocs frame_1_writes args s ++ Jvm.arrayLocs frame_1_arrays args s ++ Jvm.staticLocs frame_1_statics s) 368 6464 → Post tb e args s (.returned v) u) :
    ArmFor flags0 classFile x code maxLocals ret World_1 tables_1 room_1 Calls_1 rest_1 Pre_1 Post := by
  intro l hfl _ _ p e ha hc hk s m args below hf hA hF happ hP
  obtain ⟨hcalls, hrest, hpre⟩ := hP
  obtain ⟨-, -, -, hnamed, -, -, -, hat⟩ := (Spec.applies_iff hf).mp happ
  obtain ⟨hg, hn⟩ := and_e (Cond.before_iff.mp (show (Jvm.Cond.and given_1 narrow_1).before args s = true from hpre))
  obtain ⟨h1, g0⟩ := and_e hg
  obtain ⟨a0, g1⟩ := and_e g0
  obtain ⟨a1, g2⟩ := and_e g1
  obtain ⟨a2, g3⟩ := and_e g2
  obtain ⟨a3, g4⟩ := and_e g3
  have a4 := g4
  obtain ⟨w0, w1, w2, w3, w4, rfl⟩ : ∃ w0 w1 w2 w3 w4 : Value, args = #[w0, w1, w2, w3, w4] := by
    have hs : args.size = 5 := by simpa [Cond.value, given_1] using h1
    obtain ⟨L⟩ := args
    match L, hs with
    | [w0, w1, w2, w3, w4], _ => exact ⟨w0, w1, w2, w3, w4, rfl⟩
  have hw := fun d (hd : d ∈ tables_1) => atoms_spec (ws := Jvm.Cond.code x code maxLocals ret :: tables_1) hat d (List.mem_cons_of_mem _ hd)
  obtain ⟨hsets, hown0⟩ := atoms_of _ (rest_1_c_eq ▸ (show rest_1_c.before _ s = true from hrest))
  have hr0 := Cond.before_iff.mp hown0
  have hfit : Fit s := fun {y c} hc i hi => by
    obtain ⟨ha, rfl⟩ := Array.getElem?_eq_some_iff.mp hc
    have q := List.all_eq_true.mp ((Array.all_eq_true_iff_forall_mem.mp hF) _ (Array.getElem_mem ha)) i (List.mem_range.mpr hi)
    simpa [Array.getElem?_eq_getElem hi] using q
  obtain ⟨i0, e0⟩ := is_v a0
  obtain rfl : w0 = (.int i0) := Option.some.inj e0
  obtain ⟨i1, e1⟩ := is_v a1
  obtain rfl : w1 = (.int i1) := Option.some.inj e1
  obtain ⟨i2, e2⟩ := is_v a2
  obtain rfl : w2 = (.int i2) := Option.some.inj e2
  obtain ⟨i3, e3⟩ := is_v a3
  obtain rfl : w3 = (.int i3) := Option.some.inj e3
  obtain ⟨i4, e4⟩ := is_v a4
  obtain rfl : w4 = (.int i4) := Option.some.inj e4
  obtain ⟨gg, EV⟩ := own_env hw hsets hcalls
  obtain ⟨n, o, h1, h2, h3, _, L, rfl, ⟨rfl, N⟩, hq⟩ := rm0 l s _ hw tables_1 i0 i1 i2 i3 i4 gg s.heap s.heap.size (Nat.le_refl _) EV (Old.start s) p e ha hc hk s m _ below hf ((Spec.applies_iff_loose hf).mp happ).1 ⟨rfl, State.Warmed39.refl s, rfl⟩ trivial
  refine ⟨n, _, h1, h2, h3, hpost _ _ _ _ _ _ ⟨Cond.after_iff.mpr rfl, Cond.after_iff.mpr (eq_i res_at (Term.int_eval (1)) rfl), trivial⟩ ⟨hq.1, hq.2.1, hq.2.2.1, (hq.2.2.2.sift fun y hy => Or.inr (N y hy)).mono (by decide) (by decide)⟩⟩
theorem main_1_1 : Claimed_1_1 := comes_1 fun _ _ _ _ _ _ h hF => ⟨h.1, hF⟩
theorem main_1_2 : Claimed_1_2 := comes_1 fun _ _ _ _ _ _ h hF => ⟨h.2.1, hF⟩
end Jvm.Pilot.@@N@@
namespace Jvm.Pilot.@@N@@
open Jvm Jvm.ClassFile Sem Op Lib Jvm.Free Jvm.Stand Jvm.Pilot.@@N@@.Jvm.D
/-! MADE BY PROGRAM (witnessworld.py) out of the Statement's table words and the real class files: 52 classes; the members and pool entries that the words name. The judged class is class 1, her method 3. -/
namespace start1
open Jvm.ClassFile
def u (s : String) : CpInfo := .utf8 (stringToUtf16 s)
/-- a pool by its gaps: so many unusable entries, then the entry; so many at the end -/
def gap : Nat → List CpInfo → List CpInfo
  | 0, r => r
  | n + 1, r => .unusable :: gap n r
def poolList (es : List (Nat × CpInfo)) (last : Nat) : List CpInfo := es.foldr (fun e r => gap e.1 (e.2 :: r)) (gap last [])
def pool (es : List (Nat × CpInfo)) (last : Nat) : Array CpInfo := ⟨poolList es last⟩
def fileOf (pool : Array CpInfo) (this : Nat) (attrs : Array Attribute := #[]) (ms : Array MethodInfo := #[]) (fl : Nat := 33) (sup : Nat := 0) (ifs : Array Nat := #[]) (fds : Array FieldInfo := #[]) : ClassFile where
  minorVersion := 0
  majorVersion := 65
  constantPool := pool
  accessFlags := fl
  thisClass := this
  superClass := sup
  interfaces := ifs
  fields := fds
  methods := ms
  attributes := attrs
def plain (name : String) (sup : Option ClassId) : Class where
  name := name
  kind := .ordinary
  loader := none
  accessFlags := 33
  super := sup
  interfaces := #[]
  cf := none
  fields := #[]
  methods := #[]
  instanceTypes := #[]
  staticTypes := #[]
  resolved := #[]
  callSites := []
  init := .initialized
  statics := none
  mirror := none

def pool0 : Array CpInfo := pool [(5, u "<init>"), (0, u "()V"), (1, .class_ 10), (1, u "java/lang/Object"), (0, u "getClass"), (0, u "()Ljava/lang/Class;"), (14, u "hashCode"), (0, u "()I")] 95

def k0c0 : Code := { maxStack := 0, maxLocals := 1, code := object_method_1_code, exceptionTable := #[], attributes := #[] }
def k0m0 : Method := { name := "<init>", desc := "()V", sig := { parameters := [], returnType := none }, accessFlags := 1, code := some k0c0 }
def k0m1 : Method := { name := "getClass", desc := "()Ljava/lang/Class;", sig := { parameters := [], returnType := some (.object "java/lang/Class") }, accessFlags := 273, code := none }
def k0m2 : Method := { name := "hashCode", desc := "()I", sig := { parameters := [], returnType := some .int }, accessFlags := 257, code := none }
/-- java/lang/Object -/
def k0 : Class := { plain "java/lang/Object" none with
  accessFlags := 33
  interfaces := #[]
  cf := some (fileOf pool0 8 #[] #[{ accessFlags := 1, nameIndex := 5, descriptorIndex := 6, attributes := #[] }, { accessFlags := 273, nameIndex := 11, descriptorIndex := 12, attributes := #[] }, { accessFlags := 257, nameIndex := 27, descriptorIndex := 28, attributes := #[] }] 33 0 #[] #[])
  fields := #[]
  methods := #[k0m0, k0m1, k0m2]
  instanceTypes := #[]
  staticTypes := #[]
  resolved := Array.replicate 124 none
  statics := none }

def pool1 : Array CpInfo := pool [(2, .class_ 4), (0, .nameAndType 5 6), (0, u "java/lang/Object"), (0, u "<init>"), (0, u "()V"), (0, .class_ 8), (0, u "java/lang/String"), (0, .methodref 7 10), (0, .nameAndType 5 11), (0, u "([C)V"), (0, .methodref 7 13), (0, .nameAndType 14 15), (0, u "valueOf"), (0, u "(C)Ljava/lang/String;"), (0, .methodref 17 18), (0, .class_ 19), (0, .nameAndType 20 21), (0, u "com/example/spanfold/spanfold/InputMatchedPinLaw"), (0, u "name"), (0, u "(CI)Ljava/lang/String;"), (0, .methodref 23 24), (0, .class_ 25), (0, .nameAndType 26 27), (0, u "com/example/spanfold/spanfold/Input"), (0, u "table"), (0, u "(Ljava/lang/String;Ljava/lang/String;Ljava/lang/String;Ljava/lang/String;)Lcom/example/spanfold/spanfold/Input;"), (0, .methodref 23 29), (0, .nameAndType 30 31), (0, u "withAttributes"), (0, u "([Ljava/lang/String;)Lcom/example/spanfold/spanfold/Input;"), (0, .integer 2147483647), (0, .methodref 17 34), (0, .nameAndType 35 36), (0, u "make"), (0, u "(II)Lcom/example/spanfold/spanfold/Input;"), (0, .class_ 38), (0, u "java/util/ArrayList"), (0, .methodref 37 3), (0, .methodref 37 41), (0, .nameAndType 42 43), (0, u "add"), (0, u "(Ljava/lang/Object;)Z"), (0, .methodref 23 45), (0, .nameAndType 46 47), (0, u "matched"), (0, u "(Ljava/util/List;)Ljava/util/List;"), (0, .interfaceMethodref 49 50), (0, .class_ 51), (0, .nameAndType 52 53), (0, u "java/util/List"), (0, u "size"), (0, u "()I"), (0, .interfaceMethodref 49 55), (0, .nameAndType 56 57), (0, u "get"), (0, u "(I)Ljava/lang/Object;"), (3, u "law"), (0, u "(IIIII)Z")] 2

def k1m0 : Method := { name := "<init>", desc := "()V", sig := { parameters := [], returnType := none }, accessFlags := 2, code := none }
def k1c1 : Code := { maxStack := 7, maxLocals := 2, code := method_2_code, exceptionTable := #[], attributes := #[] }
def k1m1 : Method := { name := "name", desc := "(CI)Ljava/lang/String;", sig := { parameters := [.char, .int], returnType := some (.object "java/lang/String") }, accessFlags := 10, code := some k1c1 }
def k1c2 : Code := { maxStack := 6, maxLocals := 3, code := method_3_code, exceptionTable := #[], attributes := #[] }
def k1m2 : Method := { name := "make", desc := "(II)Lcom/example/spanfold/spanfold/Input;", sig := { parameters := [.int, .int], returnType := some (.object "com/example/spanfold/spanfold/Input") }, accessFlags := 10, code := some k1c2 }
def k1c3 : Code := { maxStack := 3, maxLocals := 13, code := code, exceptionTable := #[], attributes := #[] }
def k1m3 : Method := { name := "law", desc := "(IIIII)Z", sig := { parameters := [.int, .int, .int, .int, .int], returnType := some .boolean }, accessFlags := 9, code := some k1c3 }
/-- com/example/spanfold/spanfold/InputMatchedPinLaw -/
def k1 : Class := { plain "com/example/spanfold/spanfold/InputMatchedPinLaw" (some 0) with
  accessFlags := 49
  interfaces := #[]
  cf := some (fileOf pool1 17 #[] #[{ accessFlags := 2, nameIndex := 5, descriptorIndex := 6, attributes := #[] }, { accessFlags := 10, nameIndex := 20, descriptorIndex := 21, attributes := #[] }, { accessFlags := 10, nameIndex := 35, descriptorIndex := 36, attributes := #[] }, { accessFlags := 9, nameIndex := 61, descriptorIndex := 62, attributes := #[] }] 49 2 #[] #[])
  fields := #[]
  methods := #[k1m0, k1m1, k1m2, k1m3]
  instanceTypes := #[]
  staticTypes := #[]
  resolved := Array.replicate 65 none
  statics := none }

def pool2 : Array CpInfo := pool [(1, .class_ 2), (0, u "java/io/Serializable"), (0, .class_ 4), (0, u "java/lang/Object")] 2

/-- java/io/Serializable -/
def k2 : Class := { plain "java/io/Serializable" (some 0) with
  accessFlags := 1537
  interfaces := #[]
  cf := some (fileOf pool2 1 #[] #[] 1537 3 #[] #[])
  fields := #[]
  methods := #[]
  instanceTypes := #[]
  staticTypes := #[]
  resolved := Array.replicate 7 none
  statics := none }

def pool3 : Array CpInfo := pool [(1, .class_ 2), (0, u "java/lang/Comparable"), (0, .class_ 4), (0, u "java/lang/Object")] 7

/-- java/lang/Comparable -/
def k3 : Class := { plain "java/lang/Comparable" (some 0) with
  accessFlags := 1537
  interfaces := #[]
  cf := some (fileOf pool3 1 #[] #[] 1537 3 #[] #[])
  fields := #[]
  methods := #[]
  instanceTypes := #[]
  staticTypes := #[]
  resolved := Array.replicate 12 none
  statics := none }

def pool4 : Array CpInfo := pool [(2, .class_ 4), (1, u "java/lang/CharSequence"), (42, .class_ 48), (0, u "java/lang/CharSequence$1CodePointIterator"), (10, .class_ 60), (0, u "java/lang/CharSequence$1CharIterator"), (5, .class_ 67), (0, u "java/lang/Object")] 63

/-- java/lang/CharSequence -/
def k4 : Class := { plain "java/lang/CharSequence" (some 0) with
  accessFlags := 1537
  interfaces := #[]
  cf := some (fileOf pool4 2 #[.nestMembers #[47, 59]] #[] 1537 66 #[] #[])
  fields := #[]
  methods := #[]
  instanceTypes := #[]
  staticTypes := #[]
  resolved := Array.replicate 131 none
  statics := none }

def pool5 : Array CpInfo := pool [(1, .class_ 2), (0, u "java/lang/constant/Constable"), (0, .class_ 4), (0, u "java/lang/Object")] 6

/-- java/lang/constant/Constable -/
def k5 : Class := { plain "java/lang/constant/Constable" (some 0) with
  accessFlags := 1537
  interfaces := #[]
  cf := some (fileOf pool5 1 #[] #[] 1537 3 #[] #[])
  fields := #[]
  methods := #[]
  instanceTypes := #[]
  staticTypes := #[]
  resolved := Array.replicate 11 none
  statics := none }

def pool6 : Array CpInfo := pool [(1, .class_ 2), (0, u "java/lang/constant/ConstantDesc"), (0, .class_ 4), (0, u "java/lang/Object")] 32

/-- java/lang/constant/ConstantDesc -/
def k6 : Class := { plain "java/lang/constant/ConstantDesc" (some 0) with
  accessFlags := 1537
  interfaces := #[]
  cf := some (fileOf pool6 1 #[] #[] 1537 3 #[] #[])
  fields := #[]
  methods := #[]
  instanceTypes := #[]
  staticTypes := #[]
  resolved := Array.replicate 37 none
  statics := none }

def pool7 : Array CpInfo := pool [(1, .methodref 2 3), (0, .class_ 4), (0, .nameAndType 5 6), (0, u "java/lang/Object"), (0, u "<init>"), (0, u "()V"), (2, .fieldref 10 11), (0, .class_ 12), (0, .nameAndType 13 14), (0, u "java/lang/String"), (0, u "value"), (0, u "[B"), (0, .fieldref 10 16), (0, .nameAndType 17 18), (0, u "coder"), (0, u "B"), (0, .fieldref 10 20), (0, .nameAndType 21 22), (0, u "hash"), (0, u "I"), (0, .fieldref 10 24), (0, .nameAndType 25 26), (0, u "hashIsZero"), (0, u "Z"), (0, .methodref 10 28), (0, .nameAndType 5 29), (0, u "([CIILjava/lang/Void;)V"), (8, .fieldref 10 39), (0, .nameAndType 40 26), (0, u "COMPACT_STRINGS"), (1, .class_ 44), (1, u "java/lang/StringUTF16"), (0, u "compress"), (1, .methodref 42 48), (0, .nameAndType 49 50), (0, u "coderFromArrayLen"), (0, u "([BI)B"), (2, u "toBytes"), (53, .class_ 109), (1, u "java/lang/StringLatin1"), (32, u "()Z"), (34, .methodref 42 178), (0, .nameAndType 45 179), (0, u "([CII)[B"), (29, .methodref 10 210), (0, .nameAndType 5 211), (0, u "([BB)V"), (122, u "()I"), (34, u "(C)Z"), (122, .methodref 10 493), (0, .nameAndType 494 142), (0, u "isLatin1"), (80, .class_ 576), (0, u "java/lang/CharSequence"), (22, u "CASE_INSENSITIVE_ORDER"), (0, u "Ljava/util/Comparator;"), (27, .methodref 107 629), (0, .nameAndType 630 631), (0, u "hashCode"), (0, u "([B)I"), (150, u "valueOf"), (0, u "(C)Ljava/lang/String;"), (226, u "([C)V"), (4, .methodref 107 1016), (0, .nameAndType 1017 369), (0, u "canEncode"), (0, .methodref 107 1019), (0, .nameAndType 53 1020), (0, u "(C)[B"), (80, u "serialPersistentFields"), (0, u "[Ljava/io/ObjectStreamField;"), (0, .class_ 1104), (0, u "java/lang/String$CaseInsensitiveComparator"), (1, .class_ 1107), (0, u "java/io/Serializable"), (0, .class_ 1109), (0, u "java/lang/Comparable"), (0, .class_ 1111), (0, u "java/lang/constant/Constable"), (0, .class_ 1113), (0, u "java/lang/constant/ConstantDesc"), (2, u "serialVersionUID"), (0, u "J"), (3, u "REPL"), (0, u "C"), (2, u "LATIN1"), (1, u "UTF16")] 323

def k7m0 : Method := { name := "<init>", desc := "()V", sig := { parameters := [], returnType := none }, accessFlags := 1, code := none }
def k7c1 : Code := { maxStack := 5, maxLocals := 2, code := jdk_42_method_3_code, exceptionTable := #[], attributes := #[] }
def k7m1 : Method := { name := "<init>", desc := "([C)V", sig := { parameters := [(.array .char)], returnType := none }, accessFlags := 1, code := some k7c1 }
def k7c2 : Code := { maxStack := 2, maxLocals := 2, code := jdk_42_method_78_code, exceptionTable := #[], attributes := #[] }
def k7m2 : Method := { name := "hashCode", desc := "()I", sig := { parameters := [], returnType := some .int }, accessFlags := 1, code := some k7c2 }
def k7c3 : Code := { maxStack := 4, maxLocals := 1, code := jdk_42_method_139_code, exceptionTable := #[], attributes := #[] }
def k7m3 : Method := { name := "valueOf", desc := "(C)Ljava/lang/String;", sig := { parameters := [.char], returnType := some (.object "java/lang/String") }, accessFlags := 9, code := some k7c3 }
def k7c4 : Code := { maxStack := 4, maxLocals := 6, code := jdk_42_method_149_code, exceptionTable := #[], attributes := #[] }
def k7m4 : Method := { name := "<init>", desc := "([CIILjava/lang/Void;)V", sig := { parameters := [(.array .char), .int, .int, (.object "java/lang/Void")], returnType := none }, accessFlags := 2, code := some k7c4 }
def k7c5 : Code := { maxStack := 2, maxLocals := 3, code := jdk_42_method_151_code, exceptionTable := #[], attributes := #[] }
def k7m5 : Method := { name := "<init>", desc := "([BB)V", sig := { parameters := [(.array .byte), .byte], returnType := none }, accessFlags := 0, code := some k7c5 }
def k7c6 : Code := { maxStack := 1, maxLocals := 1, code := jdk_42_method_154_code, exceptionTable := #[], attributes := #[] }
def k7m6 : Method := { name := "isLatin1", desc := "()Z", sig := { parameters := [], returnType := some .boolean }, accessFlags := 0, code := some k7c6 }
/-- java/lang/String -/
def k7 : Class := { plain "java/lang/String" (some 0) with
  accessFlags := 49
  interfaces := #[2, 3, 4, 5, 6]
  cf := some (fileOf pool7 10 #[.nestMembers #[1103]] #[{ accessFlags := 1, nameIndex := 5, descriptorIndex := 6, attributes := #[] }, { accessFlags := 1, nameIndex := 5, descriptorIndex := 1010, attributes := #[] }, { accessFlags := 1, nameIndex := 630, descriptorIndex := 334, attributes := #[] }, { accessFlags := 9, nameIndex := 782, descriptorIndex := 783, attributes := #[] }, { accessFlags := 2, nameIndex := 5, descriptorIndex := 29, attributes := #[] }, { accessFlags := 0, nameIndex := 5, descriptorIndex := 211, attributes := #[] }, { accessFlags := 0, nameIndex := 494, descriptorIndex := 142, attributes := #[] }] 49 2 #[1106, 1108, 575, 1110, 1112] #[{ accessFlags := 18, nameIndex := 13, descriptorIndex := 14, attributes := #[] }, { accessFlags := 18, nameIndex := 17, descriptorIndex := 18, attributes := #[] }, { accessFlags := 2, nameIndex := 21, descriptorIndex := 22, attributes := #[] }, { accessFlags := 2, nameIndex := 25, descriptorIndex := 26, attributes := #[] }, { accessFlags := 26, nameIndex := 1116, descriptorIndex := 1117, attributes := #[] }, { accessFlags := 24, nameIndex := 40, descriptorIndex := 26, attributes := #[] }, { accessFlags := 26, nameIndex := 1101, descriptorIndex := 1102, attributes := #[] }, { accessFlags := 26, nameIndex := 1121, descriptorIndex := 1122, attributes := #[] }, { accessFlags := 25, nameIndex := 599, descriptorIndex := 600, attributes := #[] }, { accessFlags := 24, nameIndex := 1125, descriptorIndex := 18, attributes := #[] }, { accessFlags := 24, nameIndex := 1127, descriptorIndex := 18, attributes := #[] }])
  fields := #[{ name := "value", type := (.array .byte), accessFlags := 18, slot := 0, constantValue := 0 }, { name := "coder", type := .byte, accessFlags := 18, slot := 1, constantValue := 0 }, { name := "hash", type := .int, accessFlags := 2, slot := 2, constantValue := 0 }, { name := "hashIsZero", type := .boolean, accessFlags := 2, slot := 3, constantValue := 0 }, { name := "serialVersionUID", type := .long, accessFlags := 26, slot := 0, constantValue := 0 }, { name := "COMPACT_STRINGS", type := .boolean, accessFlags := 24, slot := 1, constantValue := 0 }, { name := "serialPersistentFields", type := (.array (.object "java/io/ObjectStreamField")), accessFlags := 26, slot := 2, constantValue := 0 }, { name := "REPL", type := .char, accessFlags := 26, slot := 3, constantValue := 0 }, { name := "CASE_INSENSITIVE_ORDER", type := (.object "java/util/Comparator"), accessFlags := 25, slot := 4, constantValue := 0 }, { name := "LATIN1", type := .byte, accessFlags := 24, slot := 5, constantValue := 0 }, { name := "UTF16", type := .byte, accessFlags := 24, slot := 6, constantValue := 0 }]
  methods := #[k7m0, k7m1, k7m2, k7m3, k7m4, k7m5, k7m6]
  instanceTypes := #[(.array .byte), .byte, .int, .boolean]
  staticTypes := #[.long, .boolean, (.array (.object "java/io/ObjectStreamField")), .char, (.object "java/util/Comparator"), .byte, .byte]
  resolved := Array.replicate 1451 none
  statics := some 0 }

def pool8 : Array CpInfo := pool [(4, .class_ 6), (1, u "java/lang/Object"), (0, u "<init>"), (0, u "()V"), (5, .class_ 16), (1, u "java/lang/StringLatin1"), (28, .class_ 47), (1, u "jdk/internal/util/ArraysSupport"), (9, u "([B)I"), (26, .methodref 45 85), (0, .nameAndType 86 87), (0, u "vectorizedHashCode"), (0, u "(Ljava/lang/Object;IIII)I"), (2, u "canEncode"), (14, u "(C)Z"), (15, u "$assertionsDisabled"), (0, u "Z"), (98, .class_ 223), (1, u "java/lang/StringLatin1$LinesSpliterator"), (74, u "hashCode"), (81, u "toBytes"), (1, u "(C)[B"), (7, .class_ 391), (0, u "java/lang/StringLatin1$CharsSpliterator")] 3

def k8m0 : Method := { name := "<init>", desc := "()V", sig := { parameters := [], returnType := none }, accessFlags := 0, code := none }
def k8c1 : Code := { maxStack := 2, maxLocals := 1, code := jdk_43_method_3_code, exceptionTable := #[], attributes := #[] }
def k8m1 : Method := { name := "canEncode", desc := "(C)Z", sig := { parameters := [.char], returnType := some .boolean }, accessFlags := 9, code := some k8c1 }
def k8c2 : Code := { maxStack := 5, maxLocals := 1, code := jdk_43_method_21_code, exceptionTable := #[], attributes := #[] }
def k8m2 : Method := { name := "hashCode", desc := "([B)I", sig := { parameters := [(.array .byte)], returnType := some .int }, accessFlags := 9, code := some k8c2 }
def k8c3 : Code := { maxStack := 4, maxLocals := 1, code := jdk_43_method_46_code, exceptionTable := #[], attributes := #[] }
def k8m3 : Method := { name := "toBytes", desc := "(C)[B", sig := { parameters := [.char], returnType := some (.array .byte) }, accessFlags := 9, code := some k8c3 }
/-- java/lang/StringLatin1 -/
def k8 : Class := { plain "java/lang/StringLatin1" (some 0) with
  accessFlags := 48
  interfaces := #[]
  cf := some (fileOf pool8 14 #[.nestMembers #[390, 221]] #[{ accessFlags := 0, nameIndex := 7, descriptorIndex := 8, attributes := #[] }, { accessFlags := 9, nameIndex := 90, descriptorIndex := 105, attributes := #[] }, { accessFlags := 9, nameIndex := 298, descriptorIndex := 57, attributes := #[] }, { accessFlags := 9, nameIndex := 380, descriptorIndex := 382, attributes := #[] }] 48 4 #[] #[{ accessFlags := 4120, nameIndex := 121, descriptorIndex := 122, attributes := #[] }])
  fields := #[{ name := "$assertionsDisabled", type := .boolean, accessFlags := 4120, slot := 0, constantValue := 0 }]
  methods := #[k8m0, k8m1, k8m2, k8m3]
  instanceTypes := #[]
  staticTypes := #[.boolean]
  resolved := Array.replicate 395 none
  statics := none }

def pool9 : Array CpInfo := pool [(6, .class_ 8), (1, u "java/lang/Object"), (0, u "<init>"), (0, u "()V"), (1, .class_ 14), (1, u "java/lang/StringUTF16"), (31, u "$assertionsDisabled"), (0, u "Z"), (13, u "HI_BYTE_SHIFT"), (0, u "I"), (2, u "LO_BYTE_SHIFT"), (49, .methodref 12 116), (0, .nameAndType 117 118), (0, u "compress"), (0, u "([CI[BII)I"), (3, u "([CII)[B"), (138, u "coderFromArrayLen"), (0, u "([BI)B"), (106, .class_ 371), (1, u "java/lang/StringUTF16$LinesSpliterator"), (58, u "MAX_LENGTH"), (196, .class_ 628), (0, u "java/lang/StringUTF16$CodePointsSpliterator"), (0, .class_ 630), (0, u "java/lang/StringUTF16$CharsSpliterator")] 4

def k9m0 : Method := { name := "<init>", desc := "()V", sig := { parameters := [], returnType := none }, accessFlags := 0, code := none }
def k9c1 : Code := { maxStack := 2, maxLocals := 2, code := jdk_52_method_15_code, exceptionTable := #[], attributes := #[] }
def k9m1 : Method := { name := "coderFromArrayLen", desc := "([BI)B", sig := { parameters := [(.array .byte), .int], returnType := some .byte }, accessFlags := 8, code := some k9c1 }
def k9c2 : Code := { maxStack := 5, maxLocals := 6, code := jdk_52_method_16_code, exceptionTable := #[], attributes := #[] }
def k9m2 : Method := { name := "compress", desc := "([CII)[B", sig := { parameters := [(.array .char), .int, .int], returnType := some (.array .byte) }, accessFlags := 9, code := some k9c2 }
def k9c3 : Code := { maxStack := 3, maxLocals := 7, code := jdk_52_method_21_code, exceptionTable := #[], attributes := #[] }
def k9m3 : Method := { name := "compress", desc := "([CI[BII)I", sig := { parameters := [(.array .char), .int, (.array .byte), .int, .int], returnType := some .int }, accessFlags := 9, code := some k9c3 }
/-- java/lang/StringUTF16 -/
def k9 : Class := { plain "java/lang/StringUTF16" (some 0) with
  accessFlags := 48
  interfaces := #[]
  cf := some (fileOf pool9 12 #[.nestMembers #[627, 629, 369]] #[{ accessFlags := 0, nameIndex := 9, descriptorIndex := 10, attributes := #[] }, { accessFlags := 8, nameIndex := 261, descriptorIndex := 262, attributes := #[] }, { accessFlags := 9, nameIndex := 117, descriptorIndex := 122, attributes := #[] }, { accessFlags := 9, nameIndex := 117, descriptorIndex := 118, attributes := #[] }] 48 6 #[] #[{ accessFlags := 26, nameIndex := 61, descriptorIndex := 62, attributes := #[] }, { accessFlags := 26, nameIndex := 65, descriptorIndex := 62, attributes := #[] }, { accessFlags := 24, nameIndex := 430, descriptorIndex := 62, attributes := #[] }, { accessFlags := 4120, nameIndex := 46, descriptorIndex := 47, attributes := #[] }])
  fields := #[{ name := "HI_BYTE_SHIFT", type := .int, accessFlags := 26, slot := 0, constantValue := 0 }, { name := "LO_BYTE_SHIFT", type := .int, accessFlags := 26, slot := 1, constantValue := 0 }, { name := "MAX_LENGTH", type := .int, accessFlags := 24, slot := 2, constantValue := 0 }, { name := "$assertionsDisabled", type := .boolean, accessFlags := 4120, slot := 3, constantValue := 0 }]
  methods := #[k9m0, k9m1, k9m2, k9m3]
  instanceTypes := #[]
  staticTypes := #[.int, .int, .int, .boolean]
  resolved := Array.replicate 635 none
  statics := none }

def pool10 : Array CpInfo := pool [(1, .methodref 2 3), (0, .class_ 4), (0, .nameAndType 5 6), (0, u "java/lang/Object"), (0, u "<init>"), (0, u "()V"), (1, .class_ 10), (1, u "com/example/spanfold/spanfold/Expression")] 23

def k10c0 : Code := { maxStack := 1, maxLocals := 1, code := prog_10_method_1_code, exceptionTable := #[], attributes := #[] }
def k10m0 : Method := { name := "<init>", desc := "()V", sig := { parameters := [], returnType := none }, accessFlags := 0, code := some k10c0 }
/-- com/example/spanfold/spanfold/Expression -/
def k10 : Class := { plain "com/example/spanfold/spanfold/Expression" (some 0) with
  accessFlags := 1057
  interfaces := #[]
  cf := some (fileOf pool10 8 #[] #[{ accessFlags := 0, nameIndex := 5, descriptorIndex := 6, attributes := #[] }] 1057 2 #[] #[])
  fields := #[]
  methods := #[k10m0]
  instanceTypes := #[]
  staticTypes := #[]
  resolved := Array.replicate 34 none
  statics := none }

def pool11 : Array CpInfo := pool [(1, .methodref 2 3), (0, .class_ 4), (0, .nameAndType 5 6), (0, u "com/example/spanfold/spanfold/Expression"), (0, u "<init>"), (0, u "()V"), (0, .fieldref 8 9), (0, .class_ 10), (0, .nameAndType 11 12), (0, u "com/example/spanfold/spanfold/Input"), (0, u "table"), (0, u "Ljava/lang/String;"), (0, .fieldref 8 14), (0, .nameAndType 15 12), (0, u "query"), (0, .string 17), (0, u "key"), (0, .methodref 19 20), (0, .class_ 21), (0, .nameAndType 22 23), (0, u "java/util/Objects"), (0, u "requireNonNull"), (0, u "(Ljava/lang/Object;Ljava/lang/String;)Ljava/lang/Object;"), (0, .class_ 25), (0, u "java/lang/String"), (0, .fieldref 8 27), (0, .nameAndType 17 12), (0, .string 29), (0, u "start"), (0, .fieldref 8 31), (0, .nameAndType 29 12), (0, .string 33), (0, u "end"), (0, .fieldref 8 35), (0, .nameAndType 33 12), (0, .interfaceMethodref 37 38), (0, .class_ 39), (0, .nameAndType 40 41), (0, u "java/util/List"), (0, u "copyOf"), (0, u "(Ljava/util/Collection;)Ljava/util/List;"), (0, .fieldref 8 43), (0, .nameAndType 44 45), (0, u "attributes"), (0, u "Ljava/util/List;"), (0, .class_ 47), (0, u "java/util/ArrayList"), (0, .interfaceMethodref 37 49), (0, .nameAndType 50 51), (0, u "of"), (0, u "(Ljava/lang/Object;Ljava/lang/Object;Ljava/lang/Object;)Ljava/util/List;"), (0, .methodref 46 53), (0, .nameAndType 5 54), (0, u "(Ljava/util/Collection;)V"), (0, .methodref 46 56), (0, .nameAndType 57 58), (0, u "addAll"), (0, u "(Ljava/util/Collection;)Z"), (0, .class_ 60), (0, u "java/util/HashSet"), (0, .methodref 59 3), (0, .methodref 46 63), (0, .nameAndType 64 65), (0, u "iterator"), (0, u "()Ljava/util/Iterator;"), (0, .interfaceMethodref 67 68), (0, .class_ 69), (0, .nameAndType 70 71), (0, u "java/util/Iterator"), (0, u "hasNext"), (0, u "()Z"), (0, .interfaceMethodref 67 73), (0, .nameAndType 74 75), (0, u "next"), (0, u "()Ljava/lang/Object;"), (0, .methodref 59 77), (0, .nameAndType 78 79), (0, u "add"), (0, u "(Ljava/lang/Object;)Z"), (9, .string 11), (0, .interfaceMethodref 37 91), (0, .nameAndType 50 92), (0, u "()Ljava/util/List;"), (0, .methodref 8 94), (0, .nameAndType 5 95), (0, u "(Ljava/lang/String;Ljava/lang/String;Ljava/lang/String;Ljava/lang/String;Ljava/lang/String;Ljava/util/List;)V"), (6, .string 44), (0, .interfaceMethodref 37 104), (0, .nameAndType 50 105), (0, u "([Ljava/lang/Object;)Ljava/util/List;"), (0, .interfaceMethodref 37 107), (0, .nameAndType 108 109), (0, u "get"), (0, u "(I)Ljava/lang/Object;"), (0, .methodref 8 111), (0, .nameAndType 112 92), (0, u "groups"), (0, .interfaceMethodref 37 114), (0, .nameAndType 115 116), (0, u "size"), (0, u "()I"), (61, .interfaceMethodref 37 179), (0, .nameAndType 50 180), (0, u "(Ljava/lang/Object;)Ljava/util/List;"), (32, u "(Ljava/lang/String;Ljava/lang/String;Ljava/lang/String;Ljava/lang/String;)Lcom/example/spanfold/spanfold/Input;"), (0, u "withAttributes"), (0, u "([Ljava/lang/String;)Lcom/example/spanfold/spanfold/Input;"), (0, u "matched"), (0, u "(Ljava/util/List;)Ljava/util/List;")] 45

def k11c0 : Code := { maxStack := 5, maxLocals := 11, code := prog_11_method_1_code, exceptionTable := #[], attributes := #[] }
def k11m0 : Method := { name := "<init>", desc := "(Ljava/lang/String;Ljava/lang/String;Ljava/lang/String;Ljava/lang/String;Ljava/lang/String;Ljava/util/List;)V", sig := { parameters := [(.object "java/lang/String"), (.object "java/lang/String"), (.object "java/lang/String"), (.object "java/lang/String"), (.object "java/lang/String"), (.object "java/util/List")], returnType := none }, accessFlags := 2, code := some k11c0 }
def k11c1 : Code := { maxStack := 8, maxLocals := 4, code := prog_11_method_2_code, exceptionTable := #[], attributes := #[] }
def k11m1 : Method := { name := "table", desc := "(Ljava/lang/String;Ljava/lang/String;Ljava/lang/String;Ljava/lang/String;)Lcom/example/spanfold/spanfold/Input;", sig := { parameters := [(.object "java/lang/String"), (.object "java/lang/String"), (.object "java/lang/String"), (.object "java/lang/String")], returnType := some (.object "com/example/spanfold/spanfold/Input") }, accessFlags := 9, code := some k11c1 }
def k11c2 : Code := { maxStack := 8, maxLocals := 2, code := prog_11_method_4_code, exceptionTable := #[], attributes := #[] }
def k11m2 : Method := { name := "withAttributes", desc := "([Ljava/lang/String;)Lcom/example/spanfold/spanfold/Input;", sig := { parameters := [(.array (.object "java/lang/String"))], returnType := some (.object "com/example/spanfold/spanfold/Input") }, accessFlags := 129, code := some k11c2 }
def k11c3 : Code := { maxStack := 8, maxLocals := 4, code := prog_11_method_5_code, exceptionTable := #[], attributes := #[] }
def k11m3 : Method := { name := "matched", desc := "(Ljava/util/List;)Ljava/util/List;", sig := { parameters := [(.object "java/util/List")], returnType := some (.object "java/util/List") }, accessFlags := 8, code := some k11c3 }
def k11c4 : Code := { maxStack := 3, maxLocals := 2, code := prog_11_method_14_code, exceptionTable := #[], attributes := #[] }
def k11m4 : Method := { name := "groups", desc := "()Ljava/util/List;", sig := { parameters := [], returnType := some (.object "java/util/List") }, accessFlags := 0, code := some k11c4 }
/-- com/example/spanfold/spanfold/Input -/
def k11 : Class := { plain "com/example/spanfold/spanfold/Input" (some 10) with
  accessFlags := 49
  interfaces := #[]
  cf := some (fileOf pool11 8 #[] #[{ accessFlags := 2, nameIndex := 5, descriptorIndex := 95, attributes := #[] }, { accessFlags := 9, nameIndex := 11, descriptorIndex := 213, attributes := #[] }, { accessFlags := 129, nameIndex := 214, descriptorIndex := 215, attributes := #[] }, { accessFlags := 8, nameIndex := 216, descriptorIndex := 217, attributes := #[] }, { accessFlags := 0, nameIndex := 112, descriptorIndex := 92, attributes := #[] }] 49 2 #[] #[{ accessFlags := 18, nameIndex := 11, descriptorIndex := 12, attributes := #[] }, { accessFlags := 18, nameIndex := 15, descriptorIndex := 12, attributes := #[] }, { accessFlags := 18, nameIndex := 17, descriptorIndex := 12, attributes := #[] }, { accessFlags := 18, nameIndex := 29, descriptorIndex := 12, attributes := #[] }, { accessFlags := 18, nameIndex := 33, descriptorIndex := 12, attributes := #[] }, { accessFlags := 18, nameIndex := 44, descriptorIndex := 45, attributes := #[] }])
  fields := #[{ name := "table", type := (.object "java/lang/String"), accessFlags := 18, slot := 0, constantValue := 0 }, { name := "query", type := (.object "java/lang/String"), accessFlags := 18, slot := 1, constantValue := 0 }, { name := "key", type := (.object "java/lang/String"), accessFlags := 18, slot := 2, constantValue := 0 }, { name := "start", type := (.object "java/lang/String"), accessFlags := 18, slot := 3, constantValue := 0 }, { name := "end", type := (.object "java/lang/String"), accessFlags := 18, slot := 4, constantValue := 0 }, { name := "attributes", type := (.object "java/util/List"), accessFlags := 18, slot := 5, constantValue := 0 }]
  methods := #[k11m0, k11m1, k11m2, k11m3, k11m4]
  instanceTypes := #[(.object "java/lang/String"), (.object "java/lang/String"), (.object "java/lang/String"), (.object "java/lang/String"), (.object "java/lang/String"), (.object "java/util/List")]
  staticTypes := #[]
  resolved := Array.replicate 263 none
  statics := none }

def pool12 : Array CpInfo := pool [(2, .class_ 4), (1, u "java/lang/Object"), (0, u "<init>"), (0, u "()V"), (35, .class_ 44), (1, u "java/util/Objects"), (0, u "requireNonNull"), (0, u "(Ljava/lang/Object;)Ljava/lang/Object;"), (47, u "(Ljava/lang/Object;Ljava/lang/String;)Ljava/lang/Object;"), (10, .methodref 106 107), (0, .class_ 108), (0, .nameAndType 109 110), (0, u "jdk/internal/util/Preconditions"), (0, u "checkIndex"), (0, u "(IILjava/util/function/BiFunction;)I"), (60, u "(II)I")] 12

def k12m0 : Method := { name := "<init>", desc := "()V", sig := { parameters := [], returnType := none }, accessFlags := 2, code := none }
def k12c1 : Code := { maxStack := 2, maxLocals := 1, code := jdk_31_method_10_code, exceptionTable := #[], attributes := #[] }
def k12m1 : Method := { name := "requireNonNull", desc := "(Ljava/lang/Object;)Ljava/lang/Object;", sig := { parameters := [(.object "java/lang/Object")], returnType := some (.object "java/lang/Object") }, accessFlags := 9, code := some k12c1 }
def k12c2 : Code := { maxStack := 3, maxLocals := 2, code := jdk_31_method_11_code, exceptionTable := #[], attributes := #[] }
def k12m2 : Method := { name := "requireNonNull", desc := "(Ljava/lang/Object;Ljava/lang/String;)Ljava/lang/Object;", sig := { parameters := [(.object "java/lang/Object"), (.object "java/lang/String")], returnType := some (.object "java/lang/Object") }, accessFlags := 9, code := some k12c2 }
def k12c3 : Code := { maxStack := 3, maxLocals := 2, code := jdk_31_method_17_code, exceptionTable := #[], attributes := #[] }
def k12m3 : Method := { name := "checkIndex", desc := "(II)I", sig := { parameters := [.int, .int], returnType := some .int }, accessFlags := 9, code := some k12c3 }
/-- java/util/Objects -/
def k12 : Class := { plain "java/util/Objects" (some 0) with
  accessFlags := 49
  interfaces := #[]
  cf := some (fileOf pool12 42 #[] #[{ accessFlags := 2, nameIndex := 5, descriptorIndex := 6, attributes := #[] }, { accessFlags := 9, nameIndex := 45, descriptorIndex := 46, attributes := #[] }, { accessFlags := 9, nameIndex := 45, descriptorIndex := 94, attributes := #[] }, { accessFlags := 9, nameIndex := 109, descriptorIndex := 171, attributes := #[] }] 49 2 #[] #[])
  fields := #[]
  methods := #[k12m0, k12m1, k12m2, k12m3]
  instanceTypes := #[]
  staticTypes := #[]
  resolved := Array.replicate 184 none
  statics := none }

def pool13 : Array CpInfo := pool [(8, .class_ 10), (1, u "java/lang/Iterable"), (24, .class_ 36), (0, u "java/lang/Object")] 25

/-- java/lang/Iterable -/
def k13 : Class := { plain "java/lang/Iterable" (some 0) with
  accessFlags := 1537
  interfaces := #[]
  cf := some (fileOf pool13 8 #[] #[] 1537 35 #[] #[])
  fields := #[]
  methods := #[]
  instanceTypes := #[]
  staticTypes := #[]
  resolved := Array.replicate 62 none
  statics := none }

def pool14 : Array CpInfo := pool [(10, .class_ 12), (1, u "java/util/Collection"), (0, u "toArray"), (16, u "()Z"), (29, .class_ 61), (0, u "java/lang/Object"), (0, .class_ 63), (0, u "java/lang/Iterable"), (2, u "isEmpty"), (3, u "()[Ljava/lang/Object;")] 44

def k14m0 : Method := { name := "isEmpty", desc := "()Z", sig := { parameters := [], returnType := some .boolean }, accessFlags := 1025, code := none }
def k14m1 : Method := { name := "toArray", desc := "()[Ljava/lang/Object;", sig := { parameters := [], returnType := some (.array (.object "java/lang/Object")) }, accessFlags := 1025, code := none }
/-- java/util/Collection -/
def k14 : Class := { plain "java/util/Collection" (some 0) with
  accessFlags := 1537
  interfaces := #[13]
  cf := some (fileOf pool14 10 #[] #[{ accessFlags := 1025, nameIndex := 66, descriptorIndex := 30, attributes := #[] }, { accessFlags := 1025, nameIndex := 13, descriptorIndex := 70, attributes := #[] }] 1537 60 #[62] #[])
  fields := #[]
  methods := #[k14m0, k14m1]
  instanceTypes := #[]
  staticTypes := #[]
  resolved := Array.replicate 115 none
  statics := none }

def pool15 : Array CpInfo := pool [(8, .class_ 10), (1, u "java/util/SequencedCollection"), (15, .class_ 27), (0, u "java/lang/Object"), (0, .class_ 29), (0, u "java/util/Collection")] 27

/-- java/util/SequencedCollection -/
def k15 : Class := { plain "java/util/SequencedCollection" (some 0) with
  accessFlags := 1537
  interfaces := #[14]
  cf := some (fileOf pool15 8 #[] #[] 1537 26 #[28] #[])
  fields := #[]
  methods := #[]
  instanceTypes := #[]
  staticTypes := #[]
  resolved := Array.replicate 57 none
  statics := none }

def pool16 : Array CpInfo := pool [(8, .class_ 10), (1, u "java/util/List"), (20, u "(Ljava/lang/Object;)V"), (16, u "<init>"), (26, u "get"), (0, u "(I)Ljava/lang/Object;"), (2, u "size"), (0, u "()I"), (7, u "of"), (1, .fieldref 91 92), (0, .class_ 93), (0, .nameAndType 94 95), (0, u "java/util/ImmutableCollections"), (0, u "EMPTY_LIST"), (0, u "Ljava/util/ImmutableCollections$ListN;"), (0, .class_ 97), (0, u "java/util/ImmutableCollections$List12"), (0, .methodref 96 99), (0, .nameAndType 48 31), (0, .methodref 96 101), (0, .nameAndType 48 102), (0, u "(Ljava/lang/Object;Ljava/lang/Object;)V"), (0, .class_ 104), (0, u "java/lang/Object"), (0, .methodref 91 106), (0, .nameAndType 107 108), (0, u "listFromTrustedArray"), (0, u "([Ljava/lang/Object;)Ljava/util/List;"), (0, .methodref 91 110), (0, .nameAndType 111 108), (0, u "listFromArray"), (0, .methodref 91 113), (0, .nameAndType 114 115), (0, u "listCopy"), (0, u "(Ljava/util/Collection;)Ljava/util/List;"), (3, u "()Ljava/util/List;"), (0, .class_ 121), (0, u "java/util/SequencedCollection"), (76, u "(Ljava/lang/Object;)Ljava/util/List;"), (5, u "(Ljava/lang/Object;Ljava/lang/Object;Ljava/lang/Object;)Ljava/util/List;"), (29, u "copyOf")] 16

def k16m0 : Method := { name := "size", desc := "()I", sig := { parameters := [], returnType := some .int }, accessFlags := 1025, code := none }
def k16m1 : Method := { name := "get", desc := "(I)Ljava/lang/Object;", sig := { parameters := [.int], returnType := some (.object "java/lang/Object") }, accessFlags := 1025, code := none }
def k16c2 : Code := { maxStack := 1, maxLocals := 0, code := jdk_40_method_36_code, exceptionTable := #[], attributes := #[] }
def k16m2 : Method := { name := "of", desc := "()Ljava/util/List;", sig := { parameters := [], returnType := some (.object "java/util/List") }, accessFlags := 9, code := some k16c2 }
def k16c3 : Code := { maxStack := 3, maxLocals := 1, code := jdk_40_method_37_code, exceptionTable := #[], attributes := #[] }
def k16m3 : Method := { name := "of", desc := "(Ljava/lang/Object;)Ljava/util/List;", sig := { parameters := [(.object "java/lang/Object")], returnType := some (.object "java/util/List") }, accessFlags := 9, code := some k16c3 }
def k16c4 : Code := { maxStack := 4, maxLocals := 3, code := jdk_40_method_39_code, exceptionTable := #[], attributes := #[] }
def k16m4 : Method := { name := "of", desc := "(Ljava/lang/Object;Ljava/lang/Object;Ljava/lang/Object;)Ljava/util/List;", sig := { parameters := [(.object "java/lang/Object"), (.object "java/lang/Object"), (.object "java/lang/Object")], returnType := some (.object "java/util/List") }, accessFlags := 9, code := some k16c4 }
def k16c5 : Code := { maxStack := 5, maxLocals := 2, code := jdk_40_method_47_code, exceptionTable := #[], attributes := #[] }
def k16m5 : Method := { name := "of", desc := "([Ljava/lang/Object;)Ljava/util/List;", sig := { parameters := [(.array (.object "java/lang/Object"))], returnType := some (.object "java/util/List") }, accessFlags := 137, code := some k16c5 }
def k16c6 : Code := { maxStack := 1, maxLocals := 1, code := jdk_40_method_48_code, exceptionTable := #[], attributes := #[] }
def k16m6 : Method := { name := "copyOf", desc := "(Ljava/util/Collection;)Ljava/util/List;", sig := { parameters := [(.object "java/util/Collection")], returnType := some (.object "java/util/List") }, accessFlags := 9, code := some k16c6 }
/-- java/util/List -/
def k16 : Class := { plain "java/util/List" (some 0) with
  accessFlags := 1537
  interfaces := #[15]
  cf := some (fileOf pool16 8 #[] #[{ accessFlags := 1025, nameIndex := 79, descriptorIndex := 80, attributes := #[] }, { accessFlags := 1025, nameIndex := 75, descriptorIndex := 76, attributes := #[] }, { accessFlags := 9, nameIndex := 88, descriptorIndex := 119, attributes := #[] }, { accessFlags := 9, nameIndex := 88, descriptorIndex := 198, attributes := #[] }, { accessFlags := 9, nameIndex := 88, descriptorIndex := 204, attributes := #[] }, { accessFlags := 137, nameIndex := 88, descriptorIndex := 108, attributes := #[] }, { accessFlags := 9, nameIndex := 234, descriptorIndex := 115, attributes := #[] }] 1537 103 #[120] #[])
  fields := #[]
  methods := #[k16m0, k16m1, k16m2, k16m3, k16m4, k16m5, k16m6]
  instanceTypes := #[]
  staticTypes := #[]
  resolved := Array.replicate 251 none
  statics := none }

def pool17 : Array CpInfo := pool [(2, .class_ 4), (1, u "java/lang/Object"), (0, u "<init>"), (0, u "()V"), (3, .class_ 11), (0, u "java/util/ImmutableCollections$List12"), (0, .class_ 13), (0, u "java/util/ImmutableCollections$ListN"), (0, .fieldref 12 15), (0, .nameAndType 16 17), (0, u "allowNulls"), (0, u "Z"), (0, .class_ 19), (0, u "java/util/List"), (0, .interfaceMethodref 21 22), (0, .class_ 23), (0, .nameAndType 24 25), (0, u "java/util/Collection"), (0, u "isEmpty"), (0, u "()Z"), (2, u "of"), (1, .interfaceMethodref 21 31), (0, .nameAndType 32 33), (0, u "toArray"), (0, u "()[Ljava/lang/Object;"), (0, .interfaceMethodref 18 35), (0, .nameAndType 28 36), (0, u "([Ljava/lang/Object;)Ljava/util/List;"), (0, .methodref 38 39), (0, .class_ 40), (0, .nameAndType 41 42), (0, u "java/util/Objects"), (0, u "requireNonNull"), (0, u "(Ljava/lang/Object;)Ljava/lang/Object;"), (0, .methodref 12 44), (0, .nameAndType 5 45), (0, u "([Ljava/lang/Object;Z)V"), (0, .fieldref 47 48), (0, .class_ 49), (0, .nameAndType 50 17), (0, u "java/util/ImmutableCollections"), (0, u "$assertionsDisabled"), (5, u "[Ljava/lang/Object;"), (5, u "EMPTY_LIST"), (0, u "Ljava/util/ImmutableCollections$ListN;"), (8, u "EMPTY_LIST_NULLS"), (22, u "SALT32L"), (0, u "J"), (2, u "REVERSE"), (6, u "archivedObjects"), (2, u "EMPTY"), (0, u "Ljava/lang/Object;"), (0, .class_ 112), (0, u "java/util/ImmutableCollections$SetN"), (5, u "EMPTY_SET"), (0, u "Ljava/util/ImmutableCollections$SetN;"), (0, .class_ 121), (0, u "java/util/ImmutableCollections$MapN"), (3, u "EMPTY_MAP"), (0, u "Ljava/util/ImmutableCollections$MapN;"), (4, u "EXPAND_FACTOR"), (0, u "I"), (9, u "listCopy"), (0, u "(Ljava/util/Collection;)Ljava/util/List;"), (7, u "listFromArray"), (7, u "listFromTrustedArray"), (9, .class_ 170), (0, u "java/util/ImmutableCollections$MapN$MapNIterator"), (0, .class_ 172), (0, u "java/util/ImmutableCollections$MapN$1"), (0, .class_ 174), (0, u "java/util/ImmutableCollections$Map1"), (0, .class_ 176), (0, u "java/util/ImmutableCollections$AbstractImmutableMap"), (0, .class_ 178), (0, u "java/util/ImmutableCollections$SetN$SetNIterator"), (0, .class_ 180), (0, u "java/util/ImmutableCollections$Set12"), (0, .class_ 182), (0, u "java/util/ImmutableCollections$Set12$1"), (0, .class_ 184), (0, u "java/util/ImmutableCollections$AbstractImmutableSet"), (0, .class_ 186), (0, u "java/util/ImmutableCollections$SubList"), (0, .class_ 188), (0, u "java/util/ImmutableCollections$ListItr"), (0, .class_ 190), (0, u "java/util/ImmutableCollections$AbstractImmutableList"), (0, .class_ 192), (0, u "java/util/ImmutableCollections$AbstractImmutableCollection"), (0, .class_ 194), (0, u "java/util/ImmutableCollections$Access"), (0, .class_ 196), (0, u "java/util/ImmutableCollections$Access$1")] 16

def k17m0 : Method := { name := "<init>", desc := "()V", sig := { parameters := [], returnType := none }, accessFlags := 2, code := none }
def k17c1 : Code := { maxStack := 1, maxLocals := 2, code := jdk_56_method_3_code, exceptionTable := #[], attributes := #[] }
def k17m1 : Method := { name := "listCopy", desc := "(Ljava/util/Collection;)Ljava/util/List;", sig := { parameters := [(.object "java/util/Collection")], returnType := some (.object "java/util/List") }, accessFlags := 8, code := some k17c1 }
def k17c2 : Code := { maxStack := 4, maxLocals := 3, code := jdk_56_method_4_code, exceptionTable := #[], attributes := #[] }
def k17m2 : Method := { name := "listFromArray", desc := "([Ljava/lang/Object;)Ljava/util/List;", sig := { parameters := [(.array (.object "java/lang/Object"))], returnType := some (.object "java/util/List") }, accessFlags := 136, code := some k17c2 }
def k17c3 : Code := { maxStack := 5, maxLocals := 5, code := jdk_56_method_5_code, exceptionTable := #[], attributes := #[] }
def k17m3 : Method := { name := "listFromTrustedArray", desc := "([Ljava/lang/Object;)Ljava/util/List;", sig := { parameters := [(.array (.object "java/lang/Object"))], returnType := some (.object "java/util/List") }, accessFlags := 136, code := some k17c3 }
/-- java/util/ImmutableCollections -/
def k17 : Class := { plain "java/util/ImmutableCollections" (some 0) with
  accessFlags := 32
  interfaces := #[]
  cf := some (fileOf pool17 47 #[.nestMembers #[120, 169, 171, 173, 175, 111, 177, 179, 181, 183, 12, 10, 185, 187, 189, 191, 193, 195]] #[{ accessFlags := 2, nameIndex := 5, descriptorIndex := 6, attributes := #[] }, { accessFlags := 8, nameIndex := 142, descriptorIndex := 143, attributes := #[] }, { accessFlags := 136, nameIndex := 151, descriptorIndex := 36, attributes := #[] }, { accessFlags := 136, nameIndex := 159, descriptorIndex := 36, attributes := #[] }] 32 2 #[] #[{ accessFlags := 26, nameIndex := 95, descriptorIndex := 96, attributes := #[] }, { accessFlags := 26, nameIndex := 99, descriptorIndex := 17, attributes := #[] }, { accessFlags := 10, nameIndex := 106, descriptorIndex := 56, attributes := #[] }, { accessFlags := 26, nameIndex := 109, descriptorIndex := 110, attributes := #[] }, { accessFlags := 24, nameIndex := 62, descriptorIndex := 63, attributes := #[] }, { accessFlags := 24, nameIndex := 72, descriptorIndex := 63, attributes := #[] }, { accessFlags := 24, nameIndex := 118, descriptorIndex := 119, attributes := #[] }, { accessFlags := 24, nameIndex := 125, descriptorIndex := 126, attributes := #[] }, { accessFlags := 24, nameIndex := 131, descriptorIndex := 132, attributes := #[] }, { accessFlags := 4120, nameIndex := 50, descriptorIndex := 17, attributes := #[] }])
  fields := #[{ name := "SALT32L", type := .long, accessFlags := 26, slot := 0, constantValue := 0 }, { name := "REVERSE", type := .boolean, accessFlags := 26, slot := 1, constantValue := 0 }, { name := "archivedObjects", type := (.array (.object "java/lang/Object")), accessFlags := 10, slot := 2, constantValue := 0 }, { name := "EMPTY", type := (.object "java/lang/Object"), accessFlags := 26, slot := 3, constantValue := 0 }, { name := "EMPTY_LIST", type := (.object "java/util/ImmutableCollections$ListN"), accessFlags := 24, slot := 4, constantValue := 0 }, { name := "EMPTY_LIST_NULLS", type := (.object "java/util/ImmutableCollections$ListN"), accessFlags := 24, slot := 5, constantValue := 0 }, { name := "EMPTY_SET", type := (.object "java/util/ImmutableCollections$SetN"), accessFlags := 24, slot := 6, constantValue := 0 }, { name := "EMPTY_MAP", type := (.object "java/util/ImmutableCollections$MapN"), accessFlags := 24, slot := 7, constantValue := 0 }, { name := "EXPAND_FACTOR", type := .int, accessFlags := 24, slot := 8, constantValue := 0 }, { name := "$assertionsDisabled", type := .boolean, accessFlags := 4120, slot := 9, constantValue := 0 }]
  methods := #[k17m0, k17m1, k17m2, k17m3]
  instanceTypes := #[]
  staticTypes := #[.long, .boolean, (.array (.object "java/lang/Object")), (.object "java/lang/Object"), (.object "java/util/ImmutableCollections$ListN"), (.object "java/util/ImmutableCollections$ListN"), (.object "java/util/ImmutableCollections$SetN"), (.object "java/util/ImmutableCollections$MapN"), .int, .boolean]
  resolved := Array.replicate 213 none
  statics := some 1 }

def pool18 : Array CpInfo := pool [(1, .methodref 2 3), (0, .class_ 4), (0, .nameAndType 5 6), (0, u "java/lang/Object"), (0, u "<init>"), (0, u "()V"), (1, .class_ 10), (1, u "java/util/AbstractCollection"), (66, .class_ 78), (0, u "java/util/Collection")] 81

def k18c0 : Code := { maxStack := 1, maxLocals := 1, code := jdk_22_method_1_code, exceptionTable := #[], attributes := #[] }
def k18m0 : Method := { name := "<init>", desc := "()V", sig := { parameters := [], returnType := none }, accessFlags := 4, code := some k18c0 }
/-- java/util/AbstractCollection -/
def k18 : Class := { plain "java/util/AbstractCollection" (some 0) with
  accessFlags := 1057
  interfaces := #[14]
  cf := some (fileOf pool18 8 #[] #[{ accessFlags := 4, nameIndex := 5, descriptorIndex := 6, attributes := #[] }] 1057 2 #[77] #[])
  fields := #[]
  methods := #[k18m0]
  instanceTypes := #[]
  staticTypes := #[]
  resolved := Array.replicate 160 none
  statics := none }

def pool19 : Array CpInfo := pool [(1, .methodref 2 3), (0, .class_ 4), (0, .nameAndType 5 6), (0, u "java/util/AbstractCollection"), (0, u "<init>"), (0, u "()V"), (1, .class_ 10), (1, u "java/util/ImmutableCollections"), (2, .class_ 14), (0, u "java/util/ImmutableCollections$AbstractImmutableCollection")] 41

def k19c0 : Code := { maxStack := 1, maxLocals := 1, code := jdk_47_method_1_code, exceptionTable := #[], attributes := #[] }
def k19m0 : Method := { name := "<init>", desc := "()V", sig := { parameters := [], returnType := none }, accessFlags := 0, code := some k19c0 }
/-- java/util/ImmutableCollections$AbstractImmutableCollection -/
def k19 : Class := { plain "java/util/ImmutableCollections$AbstractImmutableCollection" (some 18) with
  accessFlags := 1056
  interfaces := #[]
  cf := some (fileOf pool19 13 #[.nestHost 8] #[{ accessFlags := 0, nameIndex := 5, descriptorIndex := 6, attributes := #[] }] 1056 2 #[] #[])
  fields := #[]
  methods := #[k19m0]
  instanceTypes := #[]
  staticTypes := #[]
  resolved := Array.replicate 56 none
  statics := none }

def pool20 : Array CpInfo := pool [(1, .class_ 2), (0, u "java/util/RandomAccess"), (0, .class_ 4), (0, u "java/lang/Object")] 2

/-- java/util/RandomAccess -/
def k20 : Class := { plain "java/util/RandomAccess" (some 0) with
  accessFlags := 1537
  interfaces := #[]
  cf := some (fileOf pool20 1 #[] #[] 1537 3 #[] #[])
  fields := #[]
  methods := #[]
  instanceTypes := #[]
  staticTypes := #[]
  resolved := Array.replicate 7 none
  statics := none }

def pool21 : Array CpInfo := pool [(1, .methodref 2 3), (0, .class_ 4), (0, .nameAndType 5 6), (0, u "java/util/ImmutableCollections$AbstractImmutableCollection"), (0, u "<init>"), (0, u "()V"), (1, .class_ 10), (1, u "java/util/ImmutableCollections"), (3, .class_ 16), (1, u "java/util/ImmutableCollections$AbstractImmutableList"), (60, .class_ 78), (0, u "java/util/List"), (45, .class_ 125), (0, u "java/util/RandomAccess")] 70

def k21c0 : Code := { maxStack := 1, maxLocals := 1, code := jdk_46_method_1_code, exceptionTable := #[], attributes := #[] }
def k21m0 : Method := { name := "<init>", desc := "()V", sig := { parameters := [], returnType := none }, accessFlags := 0, code := some k21c0 }
/-- java/util/ImmutableCollections$AbstractImmutableList -/
def k21 : Class := { plain "java/util/ImmutableCollections$AbstractImmutableList" (some 19) with
  accessFlags := 1056
  interfaces := #[16, 20]
  cf := some (fileOf pool21 14 #[.nestHost 8] #[{ accessFlags := 0, nameIndex := 5, descriptorIndex := 6, attributes := #[] }] 1056 2 #[77, 124] #[])
  fields := #[]
  methods := #[k21m0]
  instanceTypes := #[]
  staticTypes := #[]
  resolved := Array.replicate 196 none
  statics := none }

def pool22 : Array CpInfo := pool [(1, .methodref 2 3), (0, .class_ 4), (0, .nameAndType 5 6), (0, u "java/util/ImmutableCollections$AbstractImmutableList"), (0, u "<init>"), (0, u "()V"), (0, .methodref 8 9), (0, .class_ 10), (0, .nameAndType 11 12), (0, u "java/util/Objects"), (0, u "requireNonNull"), (0, u "(Ljava/lang/Object;)Ljava/lang/Object;"), (0, .fieldref 14 15), (0, .class_ 16), (0, .nameAndType 17 18), (0, u "java/util/ImmutableCollections$List12"), (0, u "e0"), (0, u "Ljava/lang/Object;"), (0, .fieldref 20 21), (0, .class_ 22), (0, .nameAndType 23 18), (0, u "java/util/ImmutableCollections"), (0, u "EMPTY"), (0, .fieldref 14 25), (0, .nameAndType 26 18), (0, u "e1"), (5, .class_ 34), (1, u "java/lang/Object"), (16, u "size"), (0, u "()I"), (17, .class_ 71), (0, u "java/io/Serializable"), (4, u "(Ljava/lang/Object;)V"), (8, u "(Ljava/lang/Object;Ljava/lang/Object;)V"), (4, u "get"), (0, u "(I)Ljava/lang/Object;"), (18, u "toArray"), (0, u "()[Ljava/lang/Object;")] 13

def k22c0 : Code := { maxStack := 2, maxLocals := 2, code := jdk_44_method_1_code, exceptionTable := #[], attributes := #[] }
def k22m0 : Method := { name := "<init>", desc := "(Ljava/lang/Object;)V", sig := { parameters := [(.object "java/lang/Object")], returnType := none }, accessFlags := 0, code := some k22c0 }
def k22c1 : Code := { maxStack := 2, maxLocals := 3, code := jdk_44_method_2_code, exceptionTable := #[], attributes := #[] }
def k22m1 : Method := { name := "<init>", desc := "(Ljava/lang/Object;Ljava/lang/Object;)V", sig := { parameters := [(.object "java/lang/Object"), (.object "java/lang/Object")], returnType := none }, accessFlags := 0, code := some k22c1 }
def k22c2 : Code := { maxStack := 2, maxLocals := 1, code := jdk_44_method_3_code, exceptionTable := #[], attributes := #[] }
def k22m2 : Method := { name := "size", desc := "()I", sig := { parameters := [], returnType := some .int }, accessFlags := 1, code := some k22c2 }
def k22c3 : Code := { maxStack := 2, maxLocals := 2, code := jdk_44_method_5_code, exceptionTable := #[], attributes := #[] }
def k22m3 : Method := { name := "get", desc := "(I)Ljava/lang/Object;", sig := { parameters := [.int], returnType := some (.object "java/lang/Object") }, accessFlags := 1, code := some k22c3 }
def k22c4 : Code := { maxStack := 4, maxLocals := 1, code := jdk_44_method_10_code, exceptionTable := #[], attributes := #[] }
def k22m4 : Method := { name := "toArray", desc := "()[Ljava/lang/Object;", sig := { parameters := [], returnType := some (.array (.object "java/lang/Object")) }, accessFlags := 1, code := some k22c4 }
/-- java/util/ImmutableCollections$List12 -/
def k22 : Class := { plain "java/util/ImmutableCollections$List12" (some 21) with
  accessFlags := 48
  interfaces := #[2]
  cf := some (fileOf pool22 14 #[.nestHost 20] #[{ accessFlags := 0, nameIndex := 5, descriptorIndex := 76, attributes := #[] }, { accessFlags := 0, nameIndex := 5, descriptorIndex := 85, attributes := #[] }, { accessFlags := 1, nameIndex := 51, descriptorIndex := 52, attributes := #[] }, { accessFlags := 1, nameIndex := 90, descriptorIndex := 91, attributes := #[] }, { accessFlags := 1, nameIndex := 110, descriptorIndex := 111, attributes := #[] }] 48 2 #[70] #[{ accessFlags := 18, nameIndex := 17, descriptorIndex := 18, attributes := #[] }, { accessFlags := 18, nameIndex := 26, descriptorIndex := 18, attributes := #[] }])
  fields := #[{ name := "e0", type := (.object "java/lang/Object"), accessFlags := 18, slot := 0, constantValue := 0 }, { name := "e1", type := (.object "java/lang/Object"), accessFlags := 18, slot := 1, constantValue := 0 }]
  methods := #[k22m0, k22m1, k22m2, k22m3, k22m4]
  instanceTypes := #[(.object "java/lang/Object"), (.object "java/lang/Object")]
  staticTypes := #[]
  resolved := Array.replicate 125 none
  mirror := some 8
  statics := none }

def pool23 : Array CpInfo := pool [(1, .methodref 2 3), (0, .class_ 4), (0, .nameAndType 5 6), (0, u "java/util/ImmutableCollections$AbstractImmutableList"), (0, u "<init>"), (0, u "()V"), (0, .fieldref 8 9), (0, .class_ 10), (0, .nameAndType 11 12), (0, u "java/util/ImmutableCollections$ListN"), (0, u "elements"), (0, u "[Ljava/lang/Object;"), (0, .fieldref 8 14), (0, .nameAndType 15 16), (0, u "allowNulls"), (0, u "Z"), (12, .methodref 30 31), (0, .class_ 32), (0, .nameAndType 33 34), (0, u "java/util/Arrays"), (0, u "copyOf"), (0, u "([Ljava/lang/Object;I)[Ljava/lang/Object;"), (24, .class_ 60), (0, u "java/io/Serializable"), (4, u "([Ljava/lang/Object;Z)V"), (11, u "size"), (0, u "()I"), (0, u "get"), (0, u "(I)Ljava/lang/Object;"), (14, u "toArray"), (0, u "()[Ljava/lang/Object;"), (17, .class_ 115), (0, u "java/util/ImmutableCollections")] 3

def k23c0 : Code := { maxStack := 2, maxLocals := 3, code := jdk_45_method_1_code, exceptionTable := #[], attributes := #[] }
def k23m0 : Method := { name := "<init>", desc := "([Ljava/lang/Object;Z)V", sig := { parameters := [(.array (.object "java/lang/Object")), .boolean], returnType := none }, accessFlags := 2, code := some k23c0 }
def k23c1 : Code := { maxStack := 1, maxLocals := 1, code := jdk_45_method_3_code, exceptionTable := #[], attributes := #[] }
def k23m1 : Method := { name := "size", desc := "()I", sig := { parameters := [], returnType := some .int }, accessFlags := 1, code := some k23c1 }
def k23c2 : Code := { maxStack := 2, maxLocals := 2, code := jdk_45_method_4_code, exceptionTable := #[], attributes := #[] }
def k23m2 : Method := { name := "get", desc := "(I)Ljava/lang/Object;", sig := { parameters := [.int], returnType := some (.object "java/lang/Object") }, accessFlags := 1, code := some k23c2 }
def k23c3 : Code := { maxStack := 2, maxLocals := 1, code := jdk_45_method_7_code, exceptionTable := #[], attributes := #[] }
def k23m3 : Method := { name := "toArray", desc := "()[Ljava/lang/Object;", sig := { parameters := [], returnType := some (.array (.object "java/lang/Object")) }, accessFlags := 1, code := some k23c3 }
/-- java/util/ImmutableCollections$ListN -/
def k23 : Class := { plain "java/util/ImmutableCollections$ListN" (some 21) with
  accessFlags := 48
  interfaces := #[2]
  cf := some (fileOf pool23 8 #[.nestHost 114] #[{ accessFlags := 2, nameIndex := 5, descriptorIndex := 65, attributes := #[] }, { accessFlags := 1, nameIndex := 77, descriptorIndex := 78, attributes := #[] }, { accessFlags := 1, nameIndex := 79, descriptorIndex := 80, attributes := #[] }, { accessFlags := 1, nameIndex := 95, descriptorIndex := 96, attributes := #[] }] 48 2 #[59] #[{ accessFlags := 18, nameIndex := 11, descriptorIndex := 12, attributes := #[] }, { accessFlags := 18, nameIndex := 15, descriptorIndex := 16, attributes := #[] }])
  fields := #[{ name := "elements", type := (.array (.object "java/lang/Object")), accessFlags := 18, slot := 0, constantValue := 0 }, { name := "allowNulls", type := .boolean, accessFlags := 18, slot := 1, constantValue := 0 }]
  methods := #[k23m0, k23m1, k23m2, k23m3]
  instanceTypes := #[(.array (.object "java/lang/Object")), .boolean]
  staticTypes := #[]
  resolved := Array.replicate 119 none
  mirror := some 6
  statics := none }

def pool24 : Array CpInfo := pool [(1, .methodref 2 3), (0, .class_ 4), (0, .nameAndType 5 6), (0, u "java/util/AbstractCollection"), (0, u "<init>"), (0, u "()V"), (0, .fieldref 8 9), (0, .class_ 10), (0, .nameAndType 11 12), (0, u "java/util/AbstractList"), (0, u "modCount"), (0, u "I"), (64, .class_ 78), (0, u "java/util/AbstractList$Itr"), (3, .class_ 83), (0, u "java/util/AbstractList$ListItr"), (9, .class_ 94), (0, u "java/util/AbstractList$RandomAccessSubList"), (3, .class_ 99), (0, u "java/util/AbstractList$SubList"), (33, .class_ 134), (0, u "java/util/List"), (73, .class_ 209), (0, u "java/util/AbstractList$SubList$1"), (0, .class_ 211), (0, u "java/util/AbstractList$RandomAccessSpliterator")] 6

def k24c0 : Code := { maxStack := 2, maxLocals := 1, code := jdk_39_method_1_code, exceptionTable := #[], attributes := #[] }
def k24m0 : Method := { name := "<init>", desc := "()V", sig := { parameters := [], returnType := none }, accessFlags := 4, code := some k24c0 }
/-- java/util/AbstractList -/
def k24 : Class := { plain "java/util/AbstractList" (some 18) with
  accessFlags := 1057
  interfaces := #[16]
  cf := some (fileOf pool24 8 #[.nestMembers #[93, 98, 208, 210, 82, 77]] #[{ accessFlags := 4, nameIndex := 5, descriptorIndex := 6, attributes := #[] }] 1057 2 #[133] #[{ accessFlags := 132, nameIndex := 11, descriptorIndex := 12, attributes := #[] }])
  fields := #[{ name := "modCount", type := .int, accessFlags := 132, slot := 0, constantValue := 0 }]
  methods := #[k24m0]
  instanceTypes := #[.int]
  staticTypes := #[]
  resolved := Array.replicate 218 none
  statics := none }

def pool25 : Array CpInfo := pool [(1, .class_ 2), (0, u "java/lang/Cloneable"), (0, .class_ 4), (0, u "java/lang/Object")] 2

/-- java/lang/Cloneable -/
def k25 : Class := { plain "java/lang/Cloneable" (some 0) with
  accessFlags := 1537
  interfaces := #[]
  cf := some (fileOf pool25 1 #[] #[] 1537 3 #[] #[])
  fields := #[]
  methods := #[]
  instanceTypes := #[]
  staticTypes := #[]
  resolved := Array.replicate 7 none
  statics := none }

def pool26 : Array CpInfo := pool [(1, .methodref 2 3), (0, .class_ 4), (0, .nameAndType 5 6), (0, u "java/util/AbstractList"), (0, u "<init>"), (0, u "()V"), (0, .class_ 8), (0, u "java/lang/Object"), (0, .fieldref 10 11), (0, .class_ 12), (0, .nameAndType 13 14), (0, u "java/util/ArrayList"), (0, u "elementData"), (0, u "[Ljava/lang/Object;"), (2, u "EMPTY_ELEMENTDATA"), (21, .fieldref 10 40), (0, .nameAndType 41 14), (0, u "DEFAULTCAPACITY_EMPTY_ELEMENTDATA"), (0, .interfaceMethodref 43 44), (0, .class_ 45), (0, .nameAndType 46 47), (0, u "java/util/Collection"), (0, u "toArray"), (0, u "()[Ljava/lang/Object;"), (0, .fieldref 10 49), (0, .nameAndType 50 51), (0, u "size"), (0, u "I"), (0, .interfaceMethodref 43 53), (0, .nameAndType 54 55), (0, u "getClass"), (0, u "()Ljava/lang/Class;"), (0, .class_ 14), (0, .methodref 58 59), (0, .class_ 60), (0, .nameAndType 61 62), (0, u "java/util/Arrays"), (0, u "copyOf"), (0, u "([Ljava/lang/Object;ILjava/lang/Class;)[Ljava/lang/Object;"), (0, .fieldref 10 64), (0, .nameAndType 65 51), (0, u "modCount"), (0, .methodref 58 67), (0, .nameAndType 61 68), (0, u "([Ljava/lang/Object;I)[Ljava/lang/Object;"), (0, .methodref 10 70), (0, .nameAndType 71 72), (0, u "grow"), (0, u "(I)[Ljava/lang/Object;"), (0, .methodref 74 75), (0, .class_ 76), (0, .nameAndType 77 78), (0, u "jdk/internal/util/ArraysSupport"), (0, u "newLength"), (0, u "(III)I"), (0, .methodref 80 81), (0, .class_ 82), (0, .nameAndType 83 84), (0, u "java/lang/Math"), (0, u "max"), (0, u "(II)I"), (11, u "(Ljava/lang/Object;)Z"), (15, .methodref 113 114), (0, .class_ 115), (0, .nameAndType 116 117), (0, u "java/lang/System"), (0, u "arraycopy"), (0, u "(Ljava/lang/Object;ILjava/lang/Object;II)V"), (0, .methodref 119 120), (0, .class_ 121), (0, .nameAndType 122 84), (0, u "java/util/Objects"), (0, u "checkIndex"), (0, .methodref 10 124), (0, .nameAndType 13 125), (0, u "(I)Ljava/lang/Object;"), (3, .methodref 10 130), (0, .nameAndType 71 47), (0, .methodref 10 132), (0, .nameAndType 133 134), (0, u "add"), (0, u "(Ljava/lang/Object;[Ljava/lang/Object;I)V"), (13, .class_ 149), (0, u "java/util/List"), (16, u "iterator"), (0, u "()Ljava/util/Iterator;"), (5, u "()Z"), (12, u "()I"), (75, .class_ 263), (0, u "java/util/ArrayList$ListItr"), (3, .class_ 268), (0, u "java/util/ArrayList$Itr"), (0, .methodref 267 270), (0, .nameAndType 5 271), (0, u "(Ljava/util/ArrayList;)V"), (4, .class_ 277), (0, u "java/util/ArrayList$SubList"), (12, .class_ 291), (0, u "java/util/ArrayList$ArrayListSpliterator"), (37, .class_ 330), (0, u "java/util/RandomAccess"), (0, .class_ 332), (0, u "java/lang/Cloneable"), (0, .class_ 334), (0, u "java/io/Serializable"), (0, u "serialVersionUID"), (0, u "J"), (3, u "DEFAULT_CAPACITY"), (10, u "(Ljava/util/Collection;)V"), (11, u "isEmpty"), (17, u "get"), (38, u "addAll"), (0, u "(Ljava/util/Collection;)Z"), (78, .class_ 501), (0, u "java/util/ArrayList$SubList$2"), (0, .class_ 503), (0, u "java/util/ArrayList$SubList$1")] 5

def k26c0 : Code := { maxStack := 2, maxLocals := 1, code := jdk_38_method_2_code, exceptionTable := #[], attributes := #[] }
def k26m0 : Method := { name := "<init>", desc := "()V", sig := { parameters := [], returnType := none }, accessFlags := 1, code := some k26c0 }
def k26c1 : Code := { maxStack := 4, maxLocals := 3, code := jdk_38_method_3_code, exceptionTable := #[], attributes := #[] }
def k26m1 : Method := { name := "<init>", desc := "(Ljava/util/Collection;)V", sig := { parameters := [(.object "java/util/Collection")], returnType := none }, accessFlags := 1, code := some k26c1 }
def k26c2 : Code := { maxStack := 4, maxLocals := 4, code := jdk_38_method_6_code, exceptionTable := #[], attributes := #[] }
def k26m2 : Method := { name := "grow", desc := "(I)[Ljava/lang/Object;", sig := { parameters := [.int], returnType := some (.array (.object "java/lang/Object")) }, accessFlags := 2, code := some k26c2 }
def k26c3 : Code := { maxStack := 3, maxLocals := 1, code := jdk_38_method_7_code, exceptionTable := #[], attributes := #[] }
def k26m3 : Method := { name := "grow", desc := "()[Ljava/lang/Object;", sig := { parameters := [], returnType := some (.array (.object "java/lang/Object")) }, accessFlags := 2, code := some k26c3 }
def k26c4 : Code := { maxStack := 1, maxLocals := 1, code := jdk_38_method_8_code, exceptionTable := #[], attributes := #[] }
def k26m4 : Method := { name := "size", desc := "()I", sig := { parameters := [], returnType := some .int }, accessFlags := 1, code := some k26c4 }
def k26c5 : Code := { maxStack := 1, maxLocals := 1, code := jdk_38_method_9_code, exceptionTable := #[], attributes := #[] }
def k26m5 : Method := { name := "isEmpty", desc := "()Z", sig := { parameters := [], returnType := some .boolean }, accessFlags := 1, code := some k26c5 }
def k26c6 : Code := { maxStack := 2, maxLocals := 1, code := jdk_38_method_16_code, exceptionTable := #[], attributes := #[] }
def k26m6 : Method := { name := "toArray", desc := "()[Ljava/lang/Object;", sig := { parameters := [], returnType := some (.array (.object "java/lang/Object")) }, accessFlags := 1, code := some k26c6 }
def k26c7 : Code := { maxStack := 2, maxLocals := 2, code := jdk_38_method_18_code, exceptionTable := #[], attributes := #[] }
def k26m7 : Method := { name := "elementData", desc := "(I)Ljava/lang/Object;", sig := { parameters := [.int], returnType := some (.object "java/lang/Object") }, accessFlags := 0, code := some k26c7 }
def k26c8 : Code := { maxStack := 2, maxLocals := 2, code := jdk_38_method_20_code, exceptionTable := #[], attributes := #[] }
def k26m8 : Method := { name := "get", desc := "(I)Ljava/lang/Object;", sig := { parameters := [.int], returnType := some (.object "java/lang/Object") }, accessFlags := 1, code := some k26c8 }
def k26c9 : Code := { maxStack := 3, maxLocals := 4, code := jdk_38_method_24_code, exceptionTable := #[], attributes := #[] }
def k26m9 : Method := { name := "add", desc := "(Ljava/lang/Object;[Ljava/lang/Object;I)V", sig := { parameters := [(.object "java/lang/Object"), (.array (.object "java/lang/Object")), .int], returnType := none }, accessFlags := 2, code := some k26c9 }
def k26c10 : Code := { maxStack := 4, maxLocals := 2, code := jdk_38_method_25_code, exceptionTable := #[], attributes := #[] }
def k26m10 : Method := { name := "add", desc := "(Ljava/lang/Object;)Z", sig := { parameters := [(.object "java/lang/Object")], returnType := some .boolean }, accessFlags := 1, code := some k26c10 }
def k26c11 : Code := { maxStack := 5, maxLocals := 6, code := jdk_38_method_41_code, exceptionTable := #[], attributes := #[] }
def k26m11 : Method := { name := "addAll", desc := "(Ljava/util/Collection;)Z", sig := { parameters := [(.object "java/util/Collection")], returnType := some .boolean }, accessFlags := 1, code := some k26c11 }
def k26c12 : Code := { maxStack := 3, maxLocals := 1, code := jdk_38_method_55_code, exceptionTable := #[], attributes := #[] }
def k26m12 : Method := { name := "iterator", desc := "()Ljava/util/Iterator;", sig := { parameters := [], returnType := some (.object "java/util/Iterator") }, accessFlags := 1, code := some k26c12 }
/-- java/util/ArrayList -/
def k26 : Class := { plain "java/util/ArrayList" (some 24) with
  accessFlags := 33
  interfaces := #[16, 20, 25, 2]
  cf := some (fileOf pool26 10 #[.nestMembers #[290, 276, 500, 502, 262, 267]] #[{ accessFlags := 1, nameIndex := 5, descriptorIndex := 6, attributes := #[] }, { accessFlags := 1, nameIndex := 5, descriptorIndex := 351, attributes := #[] }, { accessFlags := 2, nameIndex := 71, descriptorIndex := 72, attributes := #[] }, { accessFlags := 2, nameIndex := 71, descriptorIndex := 47, attributes := #[] }, { accessFlags := 1, nameIndex := 50, descriptorIndex := 186, attributes := #[] }, { accessFlags := 1, nameIndex := 363, descriptorIndex := 173, attributes := #[] }, { accessFlags := 1, nameIndex := 46, descriptorIndex := 47, attributes := #[] }, { accessFlags := 0, nameIndex := 13, descriptorIndex := 125, attributes := #[] }, { accessFlags := 1, nameIndex := 381, descriptorIndex := 125, attributes := #[] }, { accessFlags := 2, nameIndex := 133, descriptorIndex := 134, attributes := #[] }, { accessFlags := 1, nameIndex := 133, descriptorIndex := 96, attributes := #[] }, { accessFlags := 1, nameIndex := 420, descriptorIndex := 421, attributes := #[] }, { accessFlags := 1, nameIndex := 166, descriptorIndex := 167, attributes := #[] }] 33 2 #[148, 329, 331, 333] #[{ accessFlags := 26, nameIndex := 335, descriptorIndex := 336, attributes := #[] }, { accessFlags := 26, nameIndex := 340, descriptorIndex := 51, attributes := #[] }, { accessFlags := 26, nameIndex := 17, descriptorIndex := 14, attributes := #[] }, { accessFlags := 26, nameIndex := 41, descriptorIndex := 14, attributes := #[] }, { accessFlags := 128, nameIndex := 13, descriptorIndex := 14, attributes := #[] }, { accessFlags := 2, nameIndex := 50, descriptorIndex := 51, attributes := #[] }])
  fields := #[{ name := "serialVersionUID", type := .long, accessFlags := 26, slot := 0, constantValue := 0 }, { name := "DEFAULT_CAPACITY", type := .int, accessFlags := 26, slot := 1, constantValue := 0 }, { name := "EMPTY_ELEMENTDATA", type := (.array (.object "java/lang/Object")), accessFlags := 26, slot := 2, constantValue := 0 }, { name := "DEFAULTCAPACITY_EMPTY_ELEMENTDATA", type := (.array (.object "java/lang/Object")), accessFlags := 26, slot := 3, constantValue := 0 }, { name := "elementData", type := (.array (.object "java/lang/Object")), accessFlags := 128, slot := 1, constantValue := 0 }, { name := "size", type := .int, accessFlags := 2, slot := 2, constantValue := 0 }]
  methods := #[k26m0, k26m1, k26m2, k26m3, k26m4, k26m5, k26m6, k26m7, k26m8, k26m9, k26m10, k26m11, k26m12]
  instanceTypes := #[.int, (.array (.object "java/lang/Object")), .int]
  staticTypes := #[.long, .int, (.array (.object "java/lang/Object")), (.array (.object "java/lang/Object"))]
  resolved := Array.replicate 509 none
  mirror := some 7
  statics := some 2 }

def pool27 : Array CpInfo := pool [(2, .class_ 4), (1, u "java/lang/Object"), (0, u "<init>"), (0, u "()V"), (7, .class_ 16), (1, u "java/util/Arrays"), (57, .class_ 76), (1, u "java/util/Arrays$NaturalOrder"), (9, .methodref 2 87), (0, .nameAndType 88 89), (0, u "getClass"), (0, u "()Ljava/lang/Class;"), (20, .class_ 111), (0, u "[Ljava/lang/Object;"), (1, .class_ 115), (1, u "java/util/Arrays$LegacyMergeSort"), (1, u "Z"), (32, .methodref 151 152), (0, .class_ 153), (0, .nameAndType 154 155), (0, u "java/lang/System"), (0, u "arraycopy"), (0, u "(Ljava/lang/Object;ILjava/lang/Object;II)V"), (144, .methodref 14 301), (0, .nameAndType 302 303), (0, u "copyOf"), (0, u "([Ljava/lang/Object;ILjava/lang/Class;)[Ljava/lang/Object;"), (0, .methodref 305 306), (0, .class_ 307), (0, .nameAndType 308 309), (0, u "java/lang/Math"), (0, u "min"), (0, u "(II)I"), (65, .class_ 376), (0, u "java/util/Arrays$ArrayList"), (68, u "$assertionsDisabled"), (269, u "MIN_ARRAY_SORT_GRAN"), (0, u "I"), (2, u "INSERTIONSORT_THRESHOLD"), (140, u "([Ljava/lang/Object;I)[Ljava/lang/Object;"), (114, .class_ 976), (0, u "java/util/Arrays$ArrayItr")] 52

def k27m0 : Method := { name := "<init>", desc := "()V", sig := { parameters := [], returnType := none }, accessFlags := 2, code := none }
def k27c1 : Code := { maxStack := 3, maxLocals := 2, code := jdk_65_method_119_code, exceptionTable := #[], attributes := #[] }
def k27m1 : Method := { name := "copyOf", desc := "([Ljava/lang/Object;I)[Ljava/lang/Object;", sig := { parameters := [(.array (.object "java/lang/Object")), .int], returnType := some (.array (.object "java/lang/Object")) }, accessFlags := 9, code := some k27c1 }
def k27c2 : Code := { maxStack := 6, maxLocals := 4, code := jdk_65_method_120_code, exceptionTable := #[], attributes := #[] }
def k27m2 : Method := { name := "copyOf", desc := "([Ljava/lang/Object;ILjava/lang/Class;)[Ljava/lang/Object;", sig := { parameters := [(.array (.object "java/lang/Object")), .int, (.object "java/lang/Class")], returnType := some (.array (.object "java/lang/Object")) }, accessFlags := 9, code := some k27c2 }
/-- java/util/Arrays -/
def k27 : Class := { plain "java/util/Arrays" (some 0) with
  accessFlags := 49
  interfaces := #[]
  cf := some (fileOf pool27 14 #[.nestMembers #[975, 375, 113, 74]] #[{ accessFlags := 2, nameIndex := 5, descriptorIndex := 6, attributes := #[] }, { accessFlags := 9, nameIndex := 302, descriptorIndex := 860, attributes := #[] }, { accessFlags := 9, nameIndex := 302, descriptorIndex := 303, attributes := #[] }] 49 2 #[] #[{ accessFlags := 26, nameIndex := 715, descriptorIndex := 716, attributes := #[] }, { accessFlags := 26, nameIndex := 719, descriptorIndex := 716, attributes := #[] }, { accessFlags := 4120, nameIndex := 445, descriptorIndex := 117, attributes := #[] }])
  fields := #[{ name := "MIN_ARRAY_SORT_GRAN", type := .int, accessFlags := 26, slot := 0, constantValue := 0 }, { name := "INSERTIONSORT_THRESHOLD", type := .int, accessFlags := 26, slot := 1, constantValue := 0 }, { name := "$assertionsDisabled", type := .boolean, accessFlags := 4120, slot := 2, constantValue := 0 }]
  methods := #[k27m0, k27m1, k27m2]
  instanceTypes := #[]
  staticTypes := #[.int, .int, .boolean]
  resolved := Array.replicate 1029 none
  statics := none }

def pool28 : Array CpInfo := pool [(1, .class_ 2), (0, u "java/lang/Math"), (1, .class_ 6), (1, u "java/lang/Object"), (0, u "<init>"), (0, u "()V"), (89, .class_ 100), (1, u "java/lang/Math$RandomNumberGeneratorHolder"), (71, u "negativeZeroFloatBits"), (0, u "J"), (2, u "negativeZeroDoubleBits"), (21, u "max"), (2, u "min"), (43, u "$assertionsDisabled"), (0, u "Z"), (88, u "(II)I"), (2, u "twoToTheDoubleScaleDown"), (0, u "D"), (4, u "twoToTheDoubleScaleUp"), (9, u "E"), (3, u "PI"), (2, u "TAU"), (2, u "DEGREES_TO_RADIANS"), (0, u "RADIANS_TO_DEGREES")] 94

def k28m0 : Method := { name := "<init>", desc := "()V", sig := { parameters := [], returnType := none }, accessFlags := 2, code := none }
def k28c1 : Code := { maxStack := 2, maxLocals := 2, code := jdk_29_method_65_code, exceptionTable := #[], attributes := #[] }
def k28m1 : Method := { name := "max", desc := "(II)I", sig := { parameters := [.int, .int], returnType := some .int }, accessFlags := 9, code := some k28c1 }
def k28c2 : Code := { maxStack := 2, maxLocals := 2, code := jdk_29_method_69_code, exceptionTable := #[], attributes := #[] }
def k28m2 : Method := { name := "min", desc := "(II)I", sig := { parameters := [.int, .int], returnType := some .int }, accessFlags := 9, code := some k28c2 }
/-- java/lang/Math -/
def k28 : Class := { plain "java/lang/Math" (some 0) with
  accessFlags := 49
  interfaces := #[]
  cf := some (fileOf pool28 1 #[.nestMembers #[98]] #[{ accessFlags := 2, nameIndex := 7, descriptorIndex := 8, attributes := #[] }, { accessFlags := 9, nameIndex := 198, descriptorIndex := 335, attributes := #[] }, { accessFlags := 9, nameIndex := 201, descriptorIndex := 335, attributes := #[] }] 49 4 #[] #[{ accessFlags := 25, nameIndex := 354, descriptorIndex := 339, attributes := #[] }, { accessFlags := 25, nameIndex := 358, descriptorIndex := 339, attributes := #[] }, { accessFlags := 25, nameIndex := 361, descriptorIndex := 339, attributes := #[] }, { accessFlags := 26, nameIndex := 364, descriptorIndex := 339, attributes := #[] }, { accessFlags := 26, nameIndex := 365, descriptorIndex := 339, attributes := #[] }, { accessFlags := 26, nameIndex := 172, descriptorIndex := 173, attributes := #[] }, { accessFlags := 26, nameIndex := 176, descriptorIndex := 173, attributes := #[] }, { accessFlags := 8, nameIndex := 344, descriptorIndex := 339, attributes := #[] }, { accessFlags := 8, nameIndex := 338, descriptorIndex := 339, attributes := #[] }, { accessFlags := 4120, nameIndex := 245, descriptorIndex := 246, attributes := #[] }])
  fields := #[{ name := "E", type := .double, accessFlags := 25, slot := 0, constantValue := 0 }, { name := "PI", type := .double, accessFlags := 25, slot := 1, constantValue := 0 }, { name := "TAU", type := .double, accessFlags := 25, slot := 2, constantValue := 0 }, { name := "DEGREES_TO_RADIANS", type := .double, accessFlags := 26, slot := 3, constantValue := 0 }, { name := "RADIANS_TO_DEGREES", type := .double, accessFlags := 26, slot := 4, constantValue := 0 }, { name := "negativeZeroFloatBits", type := .long, accessFlags := 26, slot := 5, constantValue := 0 }, { name := "negativeZeroDoubleBits", type := .long, accessFlags := 26, slot := 6, constantValue := 0 }, { name := "twoToTheDoubleScaleUp", type := .double, accessFlags := 8, slot := 7, constantValue := 0 }, { name := "twoToTheDoubleScaleDown", type := .double, accessFlags := 8, slot := 8, constantValue := 0 }, { name := "$assertionsDisabled", type := .boolean, accessFlags := 4120, slot := 9, constantValue := 0 }]
  methods := #[k28m0, k28m1, k28m2]
  instanceTypes := #[]
  staticTypes := #[.double, .double, .double, .double, .double, .long, .long, .double, .double, .boolean]
  resolved := Array.replicate 460 none
  statics := none }

def pool29 : Array CpInfo := pool [(2, .class_ 4), (1, u "java/lang/Object"), (0, u "<init>"), (0, u "()V"), (1, .class_ 10), (1, u "java/lang/System"), (0, u "allowSecurityManager"), (0, u "I"), (16, u "cons"), (0, u "Ljava/io/Console;"), (77, .class_ 110), (1, u "java/lang/System$CallersHolder"), (43, u "initialErrStream"), (0, u "Ljava/io/PrintStream;"), (19, u "security"), (0, u "Ljava/lang/SecurityManager;"), (31, .class_ 209), (0, u "java/lang/System$1"), (7, u "props"), (0, u "Ljava/util/Properties;"), (2, u "lineSeparator"), (0, u "Ljava/lang/String;"), (96, .class_ 321), (1, u "java/lang/System$LoggerFinder"), (5, .class_ 328), (0, u "java/lang/System$Logger"), (67, u "err"), (2, u "out"), (91, u "notSupportedJnuEncoding"), (15, u "in"), (17, u "initialIn"), (0, u "Ljava/io/InputStream;"), (35, u "bootLayer"), (0, u "Ljava/lang/ModuleLayer;"), (99, .class_ 664), (0, u "java/lang/System$2"), (9, u "NEVER"), (2, u "MAYBE"), (49, u "arraycopy"), (0, u "(Ljava/lang/Object;ILjava/lang/Object;II)V"), (72, .class_ 802), (0, u "java/lang/System$Logger$Level")] 31

def k29m0 : Method := { name := "<init>", desc := "()V", sig := { parameters := [], returnType := none }, accessFlags := 2, code := none }
def k29m1 : Method := { name := "arraycopy", desc := "(Ljava/lang/Object;ILjava/lang/Object;II)V", sig := { parameters := [(.object "java/lang/Object"), .int, (.object "java/lang/Object"), .int, .int], returnType := none }, accessFlags := 265, code := none }
/-- java/lang/System -/
def k29 : Class := { plain "java/lang/System" (some 0) with
  accessFlags := 49
  interfaces := #[]
  cf := some (fileOf pool29 8 #[.nestMembers #[319, 327, 801, 108, 663, 208]] #[{ accessFlags := 2, nameIndex := 5, descriptorIndex := 6, attributes := #[] }, { accessFlags := 265, nameIndex := 727, descriptorIndex := 728, attributes := #[] }] 49 2 #[] #[{ accessFlags := 25, nameIndex := 507, descriptorIndex := 526, attributes := #[] }, { accessFlags := 25, nameIndex := 399, descriptorIndex := 155, attributes := #[] }, { accessFlags := 25, nameIndex := 396, descriptorIndex := 155, attributes := #[] }, { accessFlags := 10, nameIndex := 525, descriptorIndex := 526, attributes := #[] }, { accessFlags := 26, nameIndex := 674, descriptorIndex := 12, attributes := #[] }, { accessFlags := 26, nameIndex := 677, descriptorIndex := 12, attributes := #[] }, { accessFlags := 10, nameIndex := 11, descriptorIndex := 12, attributes := #[] }, { accessFlags := 74, nameIndex := 175, descriptorIndex := 176, attributes := #[] }, { accessFlags := 10, nameIndex := 491, descriptorIndex := 222, attributes := #[] }, { accessFlags := 74, nameIndex := 29, descriptorIndex := 30, attributes := #[] }, { accessFlags := 74, nameIndex := 154, descriptorIndex := 155, attributes := #[] }, { accessFlags := 10, nameIndex := 217, descriptorIndex := 218, attributes := #[] }, { accessFlags := 10, nameIndex := 221, descriptorIndex := 222, attributes := #[] }, { accessFlags := 8, nameIndex := 562, descriptorIndex := 563, attributes := #[] }])
  fields := #[{ name := "in", type := (.object "java/io/InputStream"), accessFlags := 25, slot := 0, constantValue := 0 }, { name := "out", type := (.object "java/io/PrintStream"), accessFlags := 25, slot := 1, constantValue := 0 }, { name := "err", type := (.object "java/io/PrintStream"), accessFlags := 25, slot := 2, constantValue := 0 }, { name := "initialIn", type := (.object "java/io/InputStream"), accessFlags := 10, slot := 3, constantValue := 0 }, { name := "NEVER", type := .int, accessFlags := 26, slot := 4, constantValue := 0 }, { name := "MAYBE", type := .int, accessFlags := 26, slot := 5, constantValue := 0 }, { name := "allowSecurityManager", type := .int, accessFlags := 10, slot := 6, constantValue := 0 }, { name := "security", type := (.object "java/lang/SecurityManager"), accessFlags := 74, slot := 7, constantValue := 0 }, { name := "notSupportedJnuEncoding", type := (.object "java/lang/String"), accessFlags := 10, slot := 8, constantValue := 0 }, { name := "cons", type := (.object "java/io/Console"), accessFlags := 74, slot := 9, constantValue := 0 }, { name := "initialErrStream", type := (.object "java/io/PrintStream"), accessFlags := 74, slot := 10, constantValue := 0 }, { name := "props", type := (.object "java/util/Properties"), accessFlags := 10, slot := 11, constantValue := 0 }, { name := "lineSeparator", type := (.object "java/lang/String"), accessFlags := 10, slot := 12, constantValue := 0 }, { name := "bootLayer", type := (.object "java/lang/ModuleLayer"), accessFlags := 8, slot := 13, constantValue := 0 }]
  methods := #[k29m0, k29m1]
  instanceTypes := #[]
  staticTypes := #[(.object "java/io/InputStream"), (.object "java/io/PrintStream"), (.object "java/io/PrintStream"), (.object "java/io/InputStream"), .int, .int, .int, (.object "java/lang/SecurityManager"), (.object "java/lang/String"), (.object "java/io/Console"), (.object "java/io/PrintStream"), (.object "java/util/Properties"), (.object "java/lang/String"), (.object "java/lang/ModuleLayer")]
  resolved := Array.replicate 834 none
  statics := none }

def pool30 : Array CpInfo := pool [(26, .class_ 27), (0, u "java/lang/Object"), (5, .class_ 34), (0, u "java/util/Set"), (1, .class_ 38), (1, u "java/util/Collection")] 105

/-- java/util/Set -/
def k30 : Class := { plain "java/util/Set" (some 0) with
  accessFlags := 1537
  interfaces := #[14]
  cf := some (fileOf pool30 33 #[] #[] 1537 26 #[36] #[])
  fields := #[]
  methods := #[]
  instanceTypes := #[]
  staticTypes := #[]
  resolved := Array.replicate 144 none
  statics := none }

def pool31 : Array CpInfo := pool [(1, .methodref 2 3), (0, .class_ 4), (0, .nameAndType 5 6), (0, u "java/util/AbstractCollection"), (0, u "<init>"), (0, u "()V"), (0, .class_ 8), (0, u "java/util/Set"), (7, .class_ 17), (0, u "java/util/AbstractSet")] 78

def k31c0 : Code := { maxStack := 1, maxLocals := 1, code := jdk_91_method_1_code, exceptionTable := #[], attributes := #[] }
def k31m0 : Method := { name := "<init>", desc := "()V", sig := { parameters := [], returnType := none }, accessFlags := 4, code := some k31c0 }
/-- java/util/AbstractSet -/
def k31 : Class := { plain "java/util/AbstractSet" (some 18) with
  accessFlags := 1057
  interfaces := #[30]
  cf := some (fileOf pool31 16 #[] #[{ accessFlags := 4, nameIndex := 5, descriptorIndex := 6, attributes := #[] }] 1057 2 #[7] #[])
  fields := #[]
  methods := #[k31m0]
  instanceTypes := #[]
  staticTypes := #[]
  resolved := Array.replicate 96 none
  statics := none }

def pool32 : Array CpInfo := pool [(1, .methodref 2 3), (0, .class_ 4), (0, .nameAndType 5 6), (0, u "java/util/AbstractSet"), (0, u "<init>"), (0, u "()V"), (0, .class_ 8), (0, u "java/util/HashMap"), (0, .methodref 7 3), (0, .fieldref 11 12), (0, .class_ 13), (0, .nameAndType 14 15), (0, u "java/util/HashSet"), (0, u "map"), (0, u "Ljava/util/HashMap;"), (34, .class_ 52), (1, u "java/util/Set"), (10, u "(Ljava/lang/Object;)Z"), (0, .fieldref 11 65), (0, .nameAndType 66 67), (0, u "PRESENT"), (0, u "Ljava/lang/Object;"), (0, .methodref 7 69), (0, .nameAndType 70 71), (0, u "put"), (0, u "(Ljava/lang/Object;Ljava/lang/Object;)Ljava/lang/Object;"), (154, .class_ 227), (0, u "java/lang/Cloneable"), (0, .class_ 229), (0, u "java/io/Serializable"), (0, u "serialVersionUID"), (0, u "J"), (26, u "add")] 44

def k32c0 : Code := { maxStack := 3, maxLocals := 1, code := jdk_93_method_1_code, exceptionTable := #[], attributes := #[] }
def k32m0 : Method := { name := "<init>", desc := "()V", sig := { parameters := [], returnType := none }, accessFlags := 1, code := some k32c0 }
def k32c1 : Code := { maxStack := 3, maxLocals := 2, code := jdk_93_method_10_code, exceptionTable := #[], attributes := #[] }
def k32m1 : Method := { name := "add", desc := "(Ljava/lang/Object;)Z", sig := { parameters := [(.object "java/lang/Object")], returnType := some .boolean }, accessFlags := 1, code := some k32c1 }
/-- java/util/HashSet -/
def k32 : Class := { plain "java/util/HashSet" (some 31) with
  accessFlags := 33
  interfaces := #[30, 25, 2]
  cf := some (fileOf pool32 11 #[] #[{ accessFlags := 1, nameIndex := 5, descriptorIndex := 6, attributes := #[] }, { accessFlags := 1, nameIndex := 258, descriptorIndex := 63, attributes := #[] }] 33 2 #[50, 226, 228] #[{ accessFlags := 24, nameIndex := 230, descriptorIndex := 231, attributes := #[] }, { accessFlags := 128, nameIndex := 14, descriptorIndex := 15, attributes := #[] }, { accessFlags := 24, nameIndex := 66, descriptorIndex := 67, attributes := #[] }])
  fields := #[{ name := "serialVersionUID", type := .long, accessFlags := 24, slot := 0, constantValue := 0 }, { name := "map", type := (.object "java/util/HashMap"), accessFlags := 128, slot := 0, constantValue := 0 }, { name := "PRESENT", type := (.object "java/lang/Object"), accessFlags := 24, slot := 1, constantValue := 0 }]
  methods := #[k32m0, k32m1]
  instanceTypes := #[(.object "java/util/HashMap")]
  staticTypes := #[.long, (.object "java/lang/Object")]
  resolved := Array.replicate 303 none
  statics := some 3 }

def pool33 : Array CpInfo := pool [(2, .class_ 4), (1, u "java/util/Map"), (31, .class_ 37), (0, u "java/util/Map$Entry"), (55, .class_ 94), (0, u "java/lang/Object")] 168

/-- java/util/Map -/
def k33 : Class := { plain "java/util/Map" (some 0) with
  accessFlags := 1537
  interfaces := #[]
  cf := some (fileOf pool33 2 #[.nestMembers #[36]] #[] 1537 93 #[] #[])
  fields := #[]
  methods := #[]
  instanceTypes := #[]
  staticTypes := #[]
  resolved := Array.replicate 263 none
  statics := none }

def pool34 : Array CpInfo := pool [(1, .methodref 2 3), (0, .class_ 4), (0, .nameAndType 5 6), (0, u "java/lang/Object"), (0, u "<init>"), (0, u "()V"), (1, .class_ 10), (1, u "java/util/AbstractMap"), (42, .class_ 54), (0, u "java/util/Map"), (9, u "keySet"), (0, u "Ljava/util/Set;"), (0, .class_ 67), (0, u "java/util/AbstractMap$1"), (5, u "values"), (0, u "Ljava/util/Collection;"), (0, .class_ 76), (0, u "java/util/AbstractMap$2"), (104, .class_ 182), (0, u "java/util/AbstractMap$ViewCollection"), (0, .class_ 184), (0, u "java/util/AbstractMap$SimpleImmutableEntry"), (0, .class_ 186), (0, u "java/util/AbstractMap$SimpleEntry"), (0, .class_ 188), (0, u "java/util/AbstractMap$2$1"), (0, .class_ 190), (0, u "java/util/AbstractMap$1$1")] 5

def k34c0 : Code := { maxStack := 1, maxLocals := 1, code := jdk_71_method_1_code, exceptionTable := #[], attributes := #[] }
def k34m0 : Method := { name := "<init>", desc := "()V", sig := { parameters := [], returnType := none }, accessFlags := 4, code := some k34c0 }
/-- java/util/AbstractMap -/
def k34 : Class := { plain "java/util/AbstractMap" (some 0) with
  accessFlags := 1057
  interfaces := #[33]
  cf := some (fileOf pool34 8 #[.nestMembers #[181, 183, 185, 75, 187, 66, 189]] #[{ accessFlags := 4, nameIndex := 5, descriptorIndex := 6, attributes := #[] }] 1057 2 #[53] #[{ accessFlags := 128, nameIndex := 64, descriptorIndex := 65, attributes := #[] }, { accessFlags := 128, nameIndex := 73, descriptorIndex := 74, attributes := #[] }])
  fields := #[{ name := "keySet", type := (.object "java/util/Set"), accessFlags := 128, slot := 0, constantValue := 0 }, { name := "values", type := (.object "java/util/Collection"), accessFlags := 128, slot := 1, constantValue := 0 }]
  methods := #[k34m0]
  instanceTypes := #[(.object "java/util/Set"), (.object "java/util/Collection")]
  staticTypes := #[]
  resolved := Array.replicate 196 none
  statics := none }

def pool35 : Array CpInfo := pool [(1, .methodref 2 3), (0, .class_ 4), (0, .nameAndType 5 6), (0, u "java/lang/Object"), (0, u "hashCode"), (0, u "()I"), (26, u "(Ljava/lang/Object;)I"), (6, .class_ 41), (0, u "java/util/HashMap"), (1, .methodref 44 45), (0, .class_ 46), (0, .nameAndType 47 48), (0, u "java/util/AbstractMap"), (0, u "<init>"), (0, u "()V"), (32, .fieldref 40 82), (0, .nameAndType 83 84), (0, u "loadFactor"), (0, u "F"), (3, .fieldref 40 89), (0, .nameAndType 90 91), (0, u "threshold"), (0, u "I"), (0, .float 1061158912), (8, .class_ 103), (1, u "java/util/Map"), (0, u "size"), (0, .fieldref 40 106), (0, .nameAndType 107 108), (0, u "table"), (0, u "[Ljava/util/HashMap$Node;"), (8, .methodref 40 118), (0, .nameAndType 119 120), (0, u "resize"), (0, u "()[Ljava/util/HashMap$Node;"), (2, u "entrySet"), (25, .methodref 40 150), (0, .nameAndType 151 33), (0, u "hash"), (0, .methodref 40 153), (0, .nameAndType 154 155), (0, u "putVal"), (0, u "(ILjava/lang/Object;Ljava/lang/Object;ZZ)Ljava/lang/Object;"), (0, .fieldref 40 157), (0, .nameAndType 104 91), (5, .class_ 165), (1, u "java/util/HashMap$Node"), (14, .class_ 181), (0, u "java/util/HashMap$TreeNode"), (4, .methodref 40 187), (0, .nameAndType 188 189), (0, u "newNode"), (0, u "(ILjava/lang/Object;Ljava/lang/Object;Ljava/util/HashMap$Node;)Ljava/util/HashMap$Node;"), (12, .fieldref 40 203), (0, .nameAndType 204 91), (0, u "modCount"), (0, .methodref 40 206), (0, .nameAndType 207 208), (0, u "afterNodeInsertion"), (0, u "(Z)V"), (33, u "Ljava/util/Set;"), (0, .class_ 244), (0, u "java/util/HashMap$KeySet"), (18, .class_ 264), (0, u "java/util/HashMap$Values"), (3, .class_ 269), (0, u "java/util/HashMap$EntrySet"), (17, u "(Ljava/lang/Object;Ljava/lang/Object;)Ljava/lang/Object;"), (58, .class_ 348), (1, u "java/util/HashMap$UnsafeHolder"), (26, .methodref 163 376), (0, .nameAndType 47 377), (0, u "(ILjava/lang/Object;Ljava/lang/Object;Ljava/util/HashMap$Node;)V"), (14, .class_ 393), (0, u "java/lang/Cloneable"), (0, .class_ 395), (0, u "java/io/Serializable"), (0, u "serialVersionUID"), (0, u "J"), (3, u "DEFAULT_INITIAL_CAPACITY"), (1, u "MAXIMUM_CAPACITY"), (0, u "DEFAULT_LOAD_FACTOR"), (0, u "TREEIFY_THRESHOLD"), (1, u "UNTREEIFY_THRESHOLD"), (1, u "MIN_TREEIFY_CAPACITY"), (60, u "put"), (125, .class_ 597), (0, u "java/util/HashMap$EntrySpliterator"), (0, .class_ 599), (0, u "java/util/HashMap$ValueSpliterator"), (0, .class_ 601), (0, u "java/util/HashMap$KeySpliterator"), (0, .class_ 603), (0, u "java/util/HashMap$HashMapSpliterator"), (0, .class_ 605), (0, u "java/util/HashMap$EntryIterator"), (0, .class_ 607), (0, u "java/util/HashMap$ValueIterator"), (0, .class_ 609), (0, u "java/util/HashMap$KeyIterator"), (0, .class_ 611), (0, u "java/util/HashMap$HashIterator")] 17

def k35c0 : Code := { maxStack := 3, maxLocals := 2, code := jdk_69_method_1_code, exceptionTable := #[], attributes := #[] }
def k35m0 : Method := { name := "hash", desc := "(Ljava/lang/Object;)I", sig := { parameters := [(.object "java/lang/Object")], returnType := some .int }, accessFlags := 24, code := some k35c0 }
def k35c1 : Code := { maxStack := 2, maxLocals := 1, code := jdk_69_method_7_code, exceptionTable := #[], attributes := #[] }
def k35m1 : Method := { name := "<init>", desc := "()V", sig := { parameters := [], returnType := none }, accessFlags := 1, code := some k35c1 }
def k35c2 : Code := { maxStack := 6, maxLocals := 3, code := jdk_69_method_15_code, exceptionTable := #[], attributes := #[] }
def k35m2 : Method := { name := "put", desc := "(Ljava/lang/Object;Ljava/lang/Object;)Ljava/lang/Object;", sig := { parameters := [(.object "java/lang/Object"), (.object "java/lang/Object")], returnType := some (.object "java/lang/Object") }, accessFlags := 1, code := some k35c2 }
def k35c3 : Code := { maxStack := 7, maxLocals := 13, code := jdk_69_method_16_code, exceptionTable := #[], attributes := #[] }
def k35m3 : Method := { name := "putVal", desc := "(ILjava/lang/Object;Ljava/lang/Object;ZZ)Ljava/lang/Object;", sig := { parameters := [.int, (.object "java/lang/Object"), (.object "java/lang/Object"), .boolean, .boolean], returnType := some (.object "java/lang/Object") }, accessFlags := 16, code := some k35c3 }
def k35c4 : Code := { maxStack := 5, maxLocals := 14, code := jdk_69_method_17_code, exceptionTable := #[], attributes := #[] }
def k35m4 : Method := { name := "resize", desc := "()[Ljava/util/HashMap$Node;", sig := { parameters := [], returnType := some (.array (.object "java/util/HashMap$Node")) }, accessFlags := 16, code := some k35c4 }
def k35c5 : Code := { maxStack := 6, maxLocals := 5, code := jdk_69_method_46_code, exceptionTable := #[], attributes := #[] }
def k35m5 : Method := { name := "newNode", desc := "(ILjava/lang/Object;Ljava/lang/Object;Ljava/util/HashMap$Node;)Ljava/util/HashMap$Node;", sig := { parameters := [.int, (.object "java/lang/Object"), (.object "java/lang/Object"), (.object "java/util/HashMap$Node")], returnType := some (.object "java/util/HashMap$Node") }, accessFlags := 0, code := some k35c5 }
def k35c6 : Code := { maxStack := 0, maxLocals := 2, code := jdk_69_method_52_code, exceptionTable := #[], attributes := #[] }
def k35m6 : Method := { name := "afterNodeInsertion", desc := "(Z)V", sig := { parameters := [.boolean], returnType := none }, accessFlags := 0, code := some k35c6 }
/-- java/util/HashMap -/
def k35 : Class := { plain "java/util/HashMap" (some 34) with
  accessFlags := 33
  interfaces := #[33, 25, 2]
  cf := some (fileOf pool35 40 #[.nestMembers #[180, 596, 598, 600, 602, 604, 606, 608, 610, 346, 268, 263, 243, 163]] #[{ accessFlags := 24, nameIndex := 151, descriptorIndex := 33, attributes := #[] }, { accessFlags := 1, nameIndex := 47, descriptorIndex := 48, attributes := #[] }, { accessFlags := 1, nameIndex := 470, descriptorIndex := 287, attributes := #[] }, { accessFlags := 16, nameIndex := 154, descriptorIndex := 155, attributes := #[] }, { accessFlags := 16, nameIndex := 119, descriptorIndex := 120, attributes := #[] }, { accessFlags := 0, nameIndex := 188, descriptorIndex := 189, attributes := #[] }, { accessFlags := 0, nameIndex := 207, descriptorIndex := 208, attributes := #[] }] 33 44 #[101, 392, 394] #[{ accessFlags := 26, nameIndex := 396, descriptorIndex := 397, attributes := #[] }, { accessFlags := 24, nameIndex := 401, descriptorIndex := 91, attributes := #[] }, { accessFlags := 24, nameIndex := 403, descriptorIndex := 91, attributes := #[] }, { accessFlags := 24, nameIndex := 404, descriptorIndex := 84, attributes := #[] }, { accessFlags := 24, nameIndex := 405, descriptorIndex := 91, attributes := #[] }, { accessFlags := 24, nameIndex := 407, descriptorIndex := 91, attributes := #[] }, { accessFlags := 24, nameIndex := 409, descriptorIndex := 91, attributes := #[] }, { accessFlags := 128, nameIndex := 107, descriptorIndex := 108, attributes := #[] }, { accessFlags := 128, nameIndex := 123, descriptorIndex := 242, attributes := #[] }, { accessFlags := 128, nameIndex := 104, descriptorIndex := 91, attributes := #[] }, { accessFlags := 128, nameIndex := 204, descriptorIndex := 91, attributes := #[] }, { accessFlags := 0, nameIndex := 90, descriptorIndex := 91, attributes := #[] }, { accessFlags := 16, nameIndex := 83, descriptorIndex := 84, attributes := #[] }])
  fields := #[{ name := "serialVersionUID", type := .long, accessFlags := 26, slot := 0, constantValue := 0 }, { name := "DEFAULT_INITIAL_CAPACITY", type := .int, accessFlags := 24, slot := 1, constantValue := 0 }, { name := "MAXIMUM_CAPACITY", type := .int, accessFlags := 24, slot := 2, constantValue := 0 }, { name := "DEFAULT_LOAD_FACTOR", type := .float, accessFlags := 24, slot := 3, constantValue := 0 }, { name := "TREEIFY_THRESHOLD", type := .int, accessFlags := 24, slot := 4, constantValue := 0 }, { name := "UNTREEIFY_THRESHOLD", type := .int, accessFlags := 24, slot := 5, constantValue := 0 }, { name := "MIN_TREEIFY_CAPACITY", type := .int, accessFlags := 24, slot := 6, constantValue := 0 }, { name := "table", type := (.array (.object "java/util/HashMap$Node")), accessFlags := 128, slot := 2, constantValue := 0 }, { name := "entrySet", type := (.object "java/util/Set"), accessFlags := 128, slot := 3, constantValue := 0 }, { name := "size", type := .int, accessFlags := 128, slot := 4, constantValue := 0 }, { name := "modCount", type := .int, accessFlags := 128, slot := 5, constantValue := 0 }, { name := "threshold", type := .int, accessFlags := 0, slot := 6, constantValue := 0 }, { name := "loadFactor", type := .float, accessFlags := 16, slot := 7, constantValue := 0 }]
  methods := #[k35m0, k35m1, k35m2, k35m3, k35m4, k35m5, k35m6]
  instanceTypes := #[(.object "java/util/Set"), (.object "java/util/Collection"), (.array (.object "java/util/HashMap$Node")), (.object "java/util/Set"), .int, .int, .int, .float]
  staticTypes := #[.long, .int, .int, .float, .int, .int, .int]
  resolved := Array.replicate 629 none
  statics := none }

def pool36 : Array CpInfo := pool [(16, .class_ 18), (1, u "java/util/Iterator"), (0, u "hasNext"), (0, u "()Z"), (2, u "next"), (0, u "()Ljava/lang/Object;"), (6, .class_ 32), (0, u "java/lang/Object")] 20

def k36m0 : Method := { name := "hasNext", desc := "()Z", sig := { parameters := [], returnType := some .boolean }, accessFlags := 1025, code := none }
def k36m1 : Method := { name := "next", desc := "()Ljava/lang/Object;", sig := { parameters := [], returnType := some (.object "java/lang/Object") }, accessFlags := 1025, code := none }
/-- java/util/Iterator -/
def k36 : Class := { plain "java/util/Iterator" (some 0) with
  accessFlags := 1537
  interfaces := #[]
  cf := some (fileOf pool36 16 #[] #[{ accessFlags := 1025, nameIndex := 19, descriptorIndex := 20, attributes := #[] }, { accessFlags := 1025, nameIndex := 23, descriptorIndex := 24, attributes := #[] }] 1537 31 #[] #[])
  fields := #[]
  methods := #[k36m0, k36m1]
  instanceTypes := #[]
  staticTypes := #[]
  resolved := Array.replicate 53 none
  statics := none }

def pool37 : Array CpInfo := pool [(1, .fieldref 2 3), (0, .class_ 4), (0, .nameAndType 5 6), (0, u "java/util/ArrayList$Itr"), (0, u "this$0"), (0, u "Ljava/util/ArrayList;"), (0, .methodref 8 9), (0, .class_ 10), (0, .nameAndType 11 12), (0, u "java/lang/Object"), (0, u "<init>"), (0, u "()V"), (0, .fieldref 2 14), (0, .nameAndType 15 16), (0, u "lastRet"), (0, u "I"), (0, .fieldref 18 19), (0, .class_ 20), (0, .nameAndType 21 16), (0, u "java/util/ArrayList"), (0, u "modCount"), (0, .fieldref 2 23), (0, .nameAndType 24 16), (0, u "expectedModCount"), (0, .fieldref 2 26), (0, .nameAndType 27 16), (0, u "cursor"), (0, .fieldref 18 29), (0, .nameAndType 30 16), (0, u "size"), (0, .methodref 2 32), (0, .nameAndType 33 12), (0, u "checkForComodification"), (3, .fieldref 18 38), (0, .nameAndType 39 40), (0, u "elementData"), (0, u "[Ljava/lang/Object;"), (28, .class_ 70), (0, u "java/util/Iterator"), (0, u "(Ljava/util/ArrayList;)V"), (8, u "hasNext"), (0, u "()Z"), (1, u "next"), (0, u "()Ljava/lang/Object;")] 19

def k37c0 : Code := { maxStack := 2, maxLocals := 2, code := jdk_49_method_1_code, exceptionTable := #[], attributes := #[] }
def k37m0 : Method := { name := "<init>", desc := "(Ljava/util/ArrayList;)V", sig := { parameters := [(.object "java/util/ArrayList")], returnType := none }, accessFlags := 0, code := some k37c0 }
def k37c1 : Code := { maxStack := 2, maxLocals := 1, code := jdk_49_method_2_code, exceptionTable := #[], attributes := #[] }
def k37m1 : Method := { name := "hasNext", desc := "()Z", sig := { parameters := [], returnType := some .boolean }, accessFlags := 1, code := some k37c1 }
def k37c2 : Code := { maxStack := 4, maxLocals := 3, code := jdk_49_method_3_code, exceptionTable := #[], attributes := #[] }
def k37m2 : Method := { name := "next", desc := "()Ljava/lang/Object;", sig := { parameters := [], returnType := some (.object "java/lang/Object") }, accessFlags := 1, code := some k37c2 }
def k37c3 : Code := { maxStack := 2, maxLocals := 1, code := jdk_49_method_6_code, exceptionTable := #[], attributes := #[] }
def k37m3 : Method := { name := "checkForComodification", desc := "()V", sig := { parameters := [], returnType := none }, accessFlags := 16, code := some k37c3 }
/-- java/util/ArrayList$Itr -/
def k37 : Class := { plain "java/util/ArrayList$Itr" (some 0) with
  accessFlags := 32
  interfaces := #[36]
  cf := some (fileOf pool37 2 #[.nestHost 18] #[{ accessFlags := 0, nameIndex := 11, descriptorIndex := 71, attributes := #[] }, { accessFlags := 1, nameIndex := 80, descriptorIndex := 81, attributes := #[] }, { accessFlags := 1, nameIndex := 83, descriptorIndex := 84, attributes := #[] }, { accessFlags := 16, nameIndex := 33, descriptorIndex := 12, attributes := #[] }] 32 8 #[69] #[{ accessFlags := 0, nameIndex := 27, descriptorIndex := 16, attributes := #[] }, { accessFlags := 0, nameIndex := 15, descriptorIndex := 16, attributes := #[] }, { accessFlags := 0, nameIndex := 24, descriptorIndex := 16, attributes := #[] }, { accessFlags := 4112, nameIndex := 5, descriptorIndex := 6, attributes := #[] }])
  fields := #[{ name := "cursor", type := .int, accessFlags := 0, slot := 0, constantValue := 0 }, { name := "lastRet", type := .int, accessFlags := 0, slot := 1, constantValue := 0 }, { name := "expectedModCount", type := .int, accessFlags := 0, slot := 2, constantValue := 0 }, { name := "this$0", type := (.object "java/util/ArrayList"), accessFlags := 4112, slot := 3, constantValue := 0 }]
  methods := #[k37m0, k37m1, k37m2, k37m3]
  instanceTypes := #[.int, .int, .int, (.object "java/util/ArrayList")]
  staticTypes := #[]
  resolved := Array.replicate 104 none
  statics := none }

def pool38 : Array CpInfo := pool [(9, u "<init>"), (6, .class_ 18), (1, u "java/lang/Object"), (0, u "()V"), (1, .class_ 23), (1, u "jdk/internal/util/ArraysSupport"), (0, u "LOG2_ARRAY_LONG_INDEX_SCALE"), (0, u "I"), (2, u "U"), (0, u "Ljdk/internal/misc/Unsafe;"), (8, u "BIG_ENDIAN"), (0, u "Z"), (8, u "LOG2_BYTE_BIT_SIZE"), (4, u "LOG2_ARRAY_INT_INDEX_SCALE"), (6, .class_ 61), (0, u "[B"), (0, .methodref 21 63), (0, .nameAndType 64 65), (0, u "signedHashCode"), (0, u "(I[BII)I"), (42, u "JLA"), (0, u "Ljdk/internal/access/JavaLangAccess;"), (11, u "LOG2_ARRAY_BOOLEAN_INDEX_SCALE"), (9, u "LOG2_ARRAY_BYTE_INDEX_SCALE"), (5, u "LOG2_ARRAY_CHAR_INDEX_SCALE"), (5, u "LOG2_ARRAY_SHORT_INDEX_SCALE"), (18, u "LOG2_ARRAY_FLOAT_INDEX_SCALE"), (24, u "LOG2_ARRAY_DOUBLE_INDEX_SCALE"), (6, .methodref 195 196), (0, .class_ 197), (0, .nameAndType 198 199), (0, u "java/lang/Math"), (0, u "max"), (0, u "(II)I"), (0, .integer 2147483639), (76, u "T_BOOLEAN"), (2, u "T_CHAR"), (1, u "T_FLOAT"), (1, u "T_DOUBLE"), (1, u "T_BYTE"), (1, u "T_SHORT"), (1, u "T_INT"), (1, u "T_LONG"), (1, u "SOFT_MAX_ARRAY_LENGTH"), (26, u "vectorizedHashCode"), (0, u "(Ljava/lang/Object;IIII)I"), (28, u "newLength"), (0, u "(III)I")] 25

def k38m0 : Method := { name := "<init>", desc := "()V", sig := { parameters := [], returnType := none }, accessFlags := 2, code := none }
def k38c1 : Code := { maxStack := 4, maxLocals := 5, code := jdk_48_method_4_code, exceptionTable := #[], attributes := #[] }
def k38m1 : Method := { name := "vectorizedHashCode", desc := "(Ljava/lang/Object;IIII)I", sig := { parameters := [(.object "java/lang/Object"), .int, .int, .int, .int], returnType := some .int }, accessFlags := 9, code := some k38c1 }
def k38c2 : Code := { maxStack := 3, maxLocals := 6, code := jdk_48_method_5_code, exceptionTable := #[], attributes := #[] }
def k38m2 : Method := { name := "signedHashCode", desc := "(I[BII)I", sig := { parameters := [.int, (.array .byte), .int, .int], returnType := some .int }, accessFlags := 10, code := some k38c2 }
def k38c3 : Code := { maxStack := 3, maxLocals := 4, code := jdk_48_method_27_code, exceptionTable := #[], attributes := #[] }
def k38m3 : Method := { name := "newLength", desc := "(III)I", sig := { parameters := [.int, .int, .int], returnType := some .int }, accessFlags := 9, code := some k38c3 }
/-- jdk/internal/util/ArraysSupport -/
def k38 : Class := { plain "jdk/internal/util/ArraysSupport" (some 0) with
  accessFlags := 33
  interfaces := #[]
  cf := some (fileOf pool38 21 #[] #[{ accessFlags := 2, nameIndex := 9, descriptorIndex := 19, attributes := #[] }, { accessFlags := 9, nameIndex := 321, descriptorIndex := 322, attributes := #[] }, { accessFlags := 10, nameIndex := 64, descriptorIndex := 65, attributes := #[] }, { accessFlags := 9, nameIndex := 351, descriptorIndex := 352, attributes := #[] }] 33 16 #[] #[{ accessFlags := 24, nameIndex := 28, descriptorIndex := 29, attributes := #[] }, { accessFlags := 26, nameIndex := 38, descriptorIndex := 39, attributes := #[] }, { accessFlags := 25, nameIndex := 121, descriptorIndex := 25, attributes := #[] }, { accessFlags := 25, nameIndex := 131, descriptorIndex := 25, attributes := #[] }, { accessFlags := 25, nameIndex := 137, descriptorIndex := 25, attributes := #[] }, { accessFlags := 25, nameIndex := 143, descriptorIndex := 25, attributes := #[] }, { accessFlags := 25, nameIndex := 53, descriptorIndex := 25, attributes := #[] }, { accessFlags := 25, nameIndex := 24, descriptorIndex := 25, attributes := #[] }, { accessFlags := 25, nameIndex := 162, descriptorIndex := 25, attributes := #[] }, { accessFlags := 25, nameIndex := 187, descriptorIndex := 25, attributes := #[] }, { accessFlags := 26, nameIndex := 48, descriptorIndex := 25, attributes := #[] }, { accessFlags := 25, nameIndex := 277, descriptorIndex := 25, attributes := #[] }, { accessFlags := 25, nameIndex := 280, descriptorIndex := 25, attributes := #[] }, { accessFlags := 25, nameIndex := 282, descriptorIndex := 25, attributes := #[] }, { accessFlags := 25, nameIndex := 284, descriptorIndex := 25, attributes := #[] }, { accessFlags := 25, nameIndex := 286, descriptorIndex := 25, attributes := #[] }, { accessFlags := 25, nameIndex := 288, descriptorIndex := 25, attributes := #[] }, { accessFlags := 25, nameIndex := 290, descriptorIndex := 25, attributes := #[] }, { accessFlags := 25, nameIndex := 292, descriptorIndex := 25, attributes := #[] }, { accessFlags := 26, nameIndex := 108, descriptorIndex := 109, attributes := #[] }, { accessFlags := 25, nameIndex := 294, descriptorIndex := 25, attributes := #[] }])
  fields := #[{ name := "U", type := (.object "jdk/internal/misc/Unsafe"), accessFlags := 24, slot := 0, constantValue := 0 }, { name := "BIG_ENDIAN", type := .boolean, accessFlags := 26, slot := 1, constantValue := 0 }, { name := "LOG2_ARRAY_BOOLEAN_INDEX_SCALE", type := .int, accessFlags := 25, slot := 2, constantValue := 0 }, { name := "LOG2_ARRAY_BYTE_INDEX_SCALE", type := .int, accessFlags := 25, slot := 3, constantValue := 0 }, { name := "LOG2_ARRAY_CHAR_INDEX_SCALE", type := .int, accessFlags := 25, slot := 4, constantValue := 0 }, { name := "LOG2_ARRAY_SHORT_INDEX_SCALE", type := .int, accessFlags := 25, slot := 5, constantValue := 0 }, { name := "LOG2_ARRAY_INT_INDEX_SCALE", type := .int, accessFlags := 25, slot := 6, constantValue := 0 }, { name := "LOG2_ARRAY_LONG_INDEX_SCALE", type := .int, accessFlags := 25, slot := 7, constantValue := 0 }, { name := "LOG2_ARRAY_FLOAT_INDEX_SCALE", type := .int, accessFlags := 25, slot := 8, constantValue := 0 }, { name := "LOG2_ARRAY_DOUBLE_INDEX_SCALE", type := .int, accessFlags := 25, slot := 9, constantValue := 0 }, { name := "LOG2_BYTE_BIT_SIZE", type := .int, accessFlags := 26, slot := 10, constantValue := 0 }, { name := "T_BOOLEAN", type := .int, accessFlags := 25, slot := 11, constantValue := 0 }, { name := "T_CHAR", type := .int, accessFlags := 25, slot := 12, constantValue := 0 }, { name := "T_FLOAT", type := .int, accessFlags := 25, slot := 13, constantValue := 0 }, { name := "T_DOUBLE", type := .int, accessFlags := 25, slot := 14, constantValue := 0 }, { name := "T_BYTE", type := .int, accessFlags := 25, slot := 15, constantValue := 0 }, { name := "T_SHORT", type := .int, accessFlags := 25, slot := 16, constantValue := 0 }, { name := "T_INT", type := .int, accessFlags := 25, slot := 17, constantValue := 0 }, { name := "T_LONG", type := .int, accessFlags := 25, slot := 18, constantValue := 0 }, { name := "JLA", type := (.object "jdk/internal/access/JavaLangAccess"), accessFlags := 26, slot := 19, constantValue := 0 }, { name := "SOFT_MAX_ARRAY_LENGTH", type := .int, accessFlags := 25, slot := 20, constantValue := 0 }]
  methods := #[k38m0, k38m1, k38m2, k38m3]
  instanceTypes := #[]
  staticTypes := #[(.object "jdk/internal/misc/Unsafe"), .boolean, .int, .int, .int, .int, .int, .int, .int, .int, .int, .int, .int, .int, .int, .int, .int, .int, .int, (.object "jdk/internal/access/JavaLangAccess"), .int]
  resolved := Array.replicate 378 none
  statics := none }

def pool39 : Array CpInfo := pool [(23, .class_ 25), (1, u "java/util/Map$Entry"), (6, .class_ 34), (1, u "java/util/Map"), (34, .class_ 70), (0, u "java/lang/Object")] 107

/-- java/util/Map$Entry -/
def k39 : Class := { plain "java/util/Map$Entry" (some 0) with
  accessFlags := 1537
  interfaces := #[]
  cf := some (fileOf pool39 23 #[.nestHost 32] #[] 1537 69 #[] #[])
  fields := #[]
  methods := #[]
  instanceTypes := #[]
  staticTypes := #[]
  resolved := Array.replicate 178 none
  statics := none }

def pool40 : Array CpInfo := pool [(1, .methodref 2 3), (0, .class_ 4), (0, .nameAndType 5 6), (0, u "java/lang/Object"), (0, u "<init>"), (0, u "()V"), (0, .fieldref 8 9), (0, .class_ 10), (0, .nameAndType 11 12), (0, u "java/util/HashMap$Node"), (0, u "hash"), (0, u "I"), (0, .fieldref 8 14), (0, .nameAndType 15 16), (0, u "key"), (0, u "Ljava/lang/Object;"), (0, .fieldref 8 18), (0, .nameAndType 19 16), (0, u "value"), (0, .fieldref 8 21), (0, .nameAndType 22 23), (0, u "next"), (0, u "Ljava/util/HashMap$Node;"), (22, .class_ 47), (0, u "java/util/Map$Entry"), (15, u "(ILjava/lang/Object;Ljava/lang/Object;Ljava/util/HashMap$Node;)V"), (24, .class_ 89), (0, u "java/util/HashMap")] 5

def k40c0 : Code := { maxStack := 2, maxLocals := 5, code := jdk_70_method_1_code, exceptionTable := #[], attributes := #[] }
def k40m0 : Method := { name := "<init>", desc := "(ILjava/lang/Object;Ljava/lang/Object;Ljava/util/HashMap$Node;)V", sig := { parameters := [.int, (.object "java/lang/Object"), (.object "java/lang/Object"), (.object "java/util/HashMap$Node")], returnType := none }, accessFlags := 0, code := some k40c0 }
/-- java/util/HashMap$Node -/
def k40 : Class := { plain "java/util/HashMap$Node" (some 0) with
  accessFlags := 32
  interfaces := #[39]
  cf := some (fileOf pool40 8 #[.nestHost 88] #[{ accessFlags := 0, nameIndex := 5, descriptorIndex := 63, attributes := #[] }] 32 2 #[46] #[{ accessFlags := 16, nameIndex := 11, descriptorIndex := 12, attributes := #[] }, { accessFlags := 16, nameIndex := 15, descriptorIndex := 16, attributes := #[] }, { accessFlags := 0, nameIndex := 19, descriptorIndex := 16, attributes := #[] }, { accessFlags := 0, nameIndex := 22, descriptorIndex := 23, attributes := #[] }])
  fields := #[{ name := "hash", type := .int, accessFlags := 16, slot := 0, constantValue := 0 }, { name := "key", type := (.object "java/lang/Object"), accessFlags := 16, slot := 1, constantValue := 0 }, { name := "value", type := (.object "java/lang/Object"), accessFlags := 0, slot := 2, constantValue := 0 }, { name := "next", type := (.object "java/util/HashMap$Node"), accessFlags := 0, slot := 3, constantValue := 0 }]
  methods := #[k40m0]
  instanceTypes := #[.int, (.object "java/lang/Object"), (.object "java/lang/Object"), (.object "java/util/HashMap$Node")]
  staticTypes := #[]
  resolved := Array.replicate 95 none
  statics := none }

def pool41 : Array CpInfo := pool [(2, .class_ 4), (1, u "java/lang/Object"), (0, u "<init>"), (0, u "()V"), (17, .class_ 26), (1, u "jdk/internal/util/Preconditions"), (6, u "checkIndex"), (21, .class_ 56), (0, u "jdk/internal/util/Preconditions$4"), (57, .class_ 115), (0, u "jdk/internal/util/Preconditions$1"), (7, u "SIOOBE_FORMATTER"), (0, u "Ljava/util/function/BiFunction;"), (0, .class_ 126), (0, u "jdk/internal/util/Preconditions$2"), (3, u "AIOOBE_FORMATTER"), (0, .class_ 132), (0, u "jdk/internal/util/Preconditions$3"), (3, u "IOOBE_FORMATTER"), (41, u "(IILjava/util/function/BiFunction;)I")] 15

def k41m0 : Method := { name := "<init>", desc := "()V", sig := { parameters := [], returnType := none }, accessFlags := 1, code := none }
def k41c1 : Code := { maxStack := 3, maxLocals := 3, code := jdk_41_method_11_code, exceptionTable := #[], attributes := #[] }
def k41m1 : Method := { name := "checkIndex", desc := "(IILjava/util/function/BiFunction;)I", sig := { parameters := [.int, .int, (.object "java/util/function/BiFunction")], returnType := some .int }, accessFlags := 9, code := some k41c1 }
/-- jdk/internal/util/Preconditions -/
def k41 : Class := { plain "jdk/internal/util/Preconditions" (some 0) with
  accessFlags := 33
  interfaces := #[]
  cf := some (fileOf pool41 24 #[.nestMembers #[55, 131, 125, 114]] #[{ accessFlags := 1, nameIndex := 5, descriptorIndex := 6, attributes := #[] }, { accessFlags := 9, nameIndex := 33, descriptorIndex := 178, attributes := #[] }] 33 2 #[] #[{ accessFlags := 25, nameIndex := 123, descriptorIndex := 124, attributes := #[] }, { accessFlags := 25, nameIndex := 130, descriptorIndex := 124, attributes := #[] }, { accessFlags := 25, nameIndex := 136, descriptorIndex := 124, attributes := #[] }])
  fields := #[{ name := "SIOOBE_FORMATTER", type := (.object "java/util/function/BiFunction"), accessFlags := 25, slot := 0, constantValue := 0 }, { name := "AIOOBE_FORMATTER", type := (.object "java/util/function/BiFunction"), accessFlags := 25, slot := 1, constantValue := 0 }, { name := "IOOBE_FORMATTER", type := (.object "java/util/function/BiFunction"), accessFlags := 25, slot := 2, constantValue := 0 }]
  methods := #[k41m0, k41m1]
  instanceTypes := #[]
  staticTypes := #[(.object "java/util/function/BiFunction"), (.object "java/util/function/BiFunction"), (.object "java/util/function/BiFunction")]
  resolved := Array.replicate 194 none
  statics := some 4 }

def pool42 : Array CpInfo := pool [(1, .class_ 2), (0, u "java/lang/Class"), (0, .class_ 4), (0, u "java/lang/Object")] 0

/-- java/lang/Class -/
def k42 : Class := { plain "java/lang/Class" (some 0) with
  accessFlags := 49
  interfaces := #[]
  cf := some (fileOf pool42 1 #[] #[] 49 3 #[] #[])
  fields := #[]
  methods := #[]
  instanceTypes := #[]
  staticTypes := #[]
  resolved := Array.replicate 5 none
  statics := none }

/-- the primitive byte -/
def k43 : Class := { plain "byte" none with kind := .primitive 'B', accessFlags := 0x411 }
/-- [B -/
def k44 : Class := { plain "[B" (some 0) with kind := .array 43 .byte, interfaces := #[25, 2], accessFlags := 1041 }

/-- the primitive char -/
def k45 : Class := { plain "char" none with kind := .primitive 'C', accessFlags := 0x411 }
/-- [C -/
def k46 : Class := { plain "[C" (some 0) with kind := .array 45 .char, interfaces := #[25, 2], accessFlags := 1041 }

/-- the primitive int -/
def k47 : Class := { plain "int" none with kind := .primitive 'I', accessFlags := 0x411 }
/-- [I -/
def k48 : Class := { plain "[I" (some 0) with kind := .array 47 .int, interfaces := #[25, 2], accessFlags := 1041 }

/-- [Ljava/lang/Object; -/
def k49 : Class := { plain "[Ljava/lang/Object;" (some 0) with kind := .array 0 (.object "java/lang/Object"), interfaces := #[25, 2], accessFlags := 1041, mirror := some 5 }

/-- [Ljava/lang/String; -/
def k50 : Class := { plain "[Ljava/lang/String;" (some 0) with kind := .array 7 (.object "java/lang/String"), interfaces := #[25, 2], accessFlags := 1041 }

/-- [Ljava/util/HashMap$Node; -/
def k51 : Class := { plain "[Ljava/util/HashMap$Node;" (some 0) with kind := .array 40 (.object "java/util/HashMap$Node"), interfaces := #[25, 2], accessFlags := 1041 }

def heap : Heap := #[{ cls := 7, slots := #[.long 0, .int 1, .null, .int 0, .null, .int 0, .int 0], vm := .statics 7 },
  { cls := 17, slots := #[.long 0, .int 0, .null, .ref 10, .ref 9, .null, .null, .null, .int 0, .int 1], vm := .statics 17 },
  { cls := 26, slots := #[.long 0, .int 0, .ref 12, .ref 13], vm := .statics 26 },
  { cls := 32, slots := #[.long 0, .ref 11], vm := .statics 32 },
  { cls := 41, slots := #[.null, .null, .null], vm := .statics 41 },
  { cls := 42, slots := #[], vm := .mirror 49 },
  { cls := 42, slots := #[], vm := .mirror 23 },
  { cls := 42, slots := #[], vm := .mirror 26 },
  { cls := 42, slots := #[], vm := .mirror 22 },
  { cls := 23, slots := #[.ref 12, .int 0], vm := .none },
  { cls := 0, slots := #[], vm := .none },
  { cls := 0, slots := #[], vm := .none },
  { cls := 49, slots := #[], vm := .none },
  { cls := 49, slots := #[], vm := .none }]
def classes : Array Class := #[k0, k1, k2, k3, k4, k5, k6, k7, k8, k9, k10, k11, k12, k13, k14, k15, k16, k17, k18, k19, k20, k21, k22, k23, k24, k25, k26, k27, k28, k29, k30, k31, k32, k33, k34, k35, k36, k37, k38, k39, k40, k41, k42, k43, k44, k45, k46, k47, k48, k49, k50, k51]
def interned : List (Array UInt16 × Addr) := []
def slotsUsed : Nat := 28
def theMethod : MethodId := ⟨1, 3⟩
def args0 : Array Value := #[.int 5, .int 1, .int 2, .int 3, .int 4]
def aboutOver (below : List Frame) : State where
  vm := { classes := classes, interned := interned.toArray }
  heap := heap
  slotsUsed := slotsUsed
  threads := #[{ frames := .invoking theMethod args0 :: below }]
def below0 : List Frame := [.native { method := ⟨0, 0⟩, args := #[] }]
def about1 : State := aboutOver below0
def p0 : Program := .bare "" "" ""
def e0 : Env := launch0.env 0 0 0
theorem w_frames : about1.frames = Frame.invoking theMethod args0 :: below0 := rfl
set_option maxRecDepth 65536 in
theorem w_args : argsFit about1.vm theMethod args0 = true := by decide +kernel
set_option maxRecDepth 65536 in
theorem w_heap : heapFits about1 = true := by decide +kernel
set_option maxRecDepth 65536 in
theorem w_runnable : about1.curStatus? = some .runnable := by decide +kernel
set_option maxRecDepth 65536 in
theorem w_alone : about1.alone = true := by decide +kernel
set_option maxRecDepth 65536 in
theorem w_named : about1.methodNamed? x = some theMethod := by decide +kernel
set_option maxRecDepth 65536 in
theorem w_hears : about1.hears theMethod below0 = true := by decide +kernel
set_option maxRecDepth 65536 in
theorem w_ripe : about1.ripe theMethod args0 below0 = true := by decide +kernel
theorem w_running : about1.status = .running := rfl
set_option maxRecDepth 65536 in
theorem w_room : about1.hasRoom e0.platform room_1 = true :=
  launch0.hasRoom_least _ room_1 (by decide +kernel) (by decide +kernel) (by decide +kernel) (by decide +kernel) (by decide +kernel) (by decide +kernel)
theorem allAtoms_all (ts : List Jvm.Cond) (a : Array Jvm.Value) (st : Jvm.State) : (allAtoms ts).before a st = ts.all (fun c => c.before a st) := by
  induction ts with
  | nil => rfl
  | cons c t ih =>
    show (Jvm.Cond.and c (allAtoms t)).before a st = _
    rw [Jvm.Cond.before_and, ih, List.all_cons]
def words1 : List Jvm.Cond := Jvm.Cond.code x code maxLocals ret :: tables_1
/-- a 'code' word, met by the world's own term for the bytes: nothing is compared byte by byte -/
theorem code_word {y : MethodName} {bytes : ByteArray} {mx : Nat} {rt : Option FieldType} {a : Array Value} {s : State} {m : MethodId} {meth : Method} {c : Code} (h1 : s.methodNamed? y = some m) (h2 : s.vm.method? m = some meth) (h3 : meth.code = some c) (h4 : c.code = bytes)
    (h5 : (c.maxLocals == mx && c.exceptionTable.isEmpty && decide (c.maxStack ≤ mostOperands) && decide (meth.sig.returnType = rt) && !meth.locks && decide (parseMethodDescriptor y.desc = some meth.sig)) = true) : (Jvm.Cond.code y bytes mx rt).before a s = true := by
  simp only [Bool.and_eq_true, beq_iff_eq, Bool.not_eq_true', decide_eq_true_eq] at h5
  obtain ⟨⟨⟨⟨⟨g1, g2⟩, g3⟩, g4⟩, g5⟩, g6⟩ := h5
  simp [Cond.before, Cond.holds, Cond.value, h1, h2, h3, h4, g1, g2, g3, g4, g5, g6]
def isCode : Jvm.Cond → Bool
  | .code _ _ _ _ => true
  | _ => false
theorem all_split {L : List Jvm.Cond} {P : Jvm.Cond → Bool} (h1 : L.all (fun c => isCode c || P c) = true) (h2 : ∀ c ∈ L.filter isCode, P c = true) : L.all P = true := by
  refine List.all_eq_true.mpr fun c hc => ?_
  have h := List.all_eq_true.mp h1 c hc
  rcases Bool.eq_false_or_eq_true (isCode c) with hi | hi
  · exact h2 c (List.mem_filter.mpr ⟨hc, hi⟩)
  · simpa [hi] using h
set_option maxRecDepth 65536 in
theorem w_c0 : (Jvm.Cond.code x code maxLocals ret).before args0 about1 = true := code_word (m := ⟨1, 3⟩) (meth := k1m3) (c := k1c3) (by decide +kernel) rfl rfl rfl (by decide +kernel)
set_option maxRecDepth 65536 in
theorem w_c1 : (Jvm.Cond.code yM87 method_3_code (3 : Nat) (Option.some (Jvm.ClassFile.FieldType.object "com/example/spanfold/spanfold/Input"))).before args0 about1 = true := code_word (m := ⟨1, 2⟩) (meth := k1m2) (c := k1c2) (by decide +kernel) rfl rfl rfl (by decide +kernel)
set_option maxRecDepth 65536 in
theorem w_c2 : (Jvm.Cond.code yM86 jdk_42_method_139_code (1 : Nat) (Option.some (Jvm.ClassFile.FieldType.object "java/lang/String"))).before args0 about1 = true := code_word (m := ⟨7, 3⟩) (meth := k7m3) (c := k7c3) (by decide +kernel) rfl rfl rfl (by decide +kernel)
set_option maxRecDepth 65536 in
theorem w_c3 : (Jvm.Cond.code yM83 jdk_43_method_3_code (1 : Nat) (Option.some Jvm.ClassFile.FieldType.boolean)).before args0 about1 = true := code_word (m := ⟨8, 1⟩) (meth := k8m1) (c := k8c1) (by decide +kernel) rfl rfl rfl (by decide +kernel)
set_option maxRecDepth 65536 in
theorem w_c4 : (Jvm.Cond.code yM84 jdk_43_method_46_code (1 : Nat) (Option.some (Jvm.ClassFile.FieldType.array Jvm.ClassFile.FieldType.byte))).before args0 about1 = true := code_word (m := ⟨8, 3⟩) (meth := k8m3) (c := k8c3) (by decide +kernel) rfl rfl rfl (by decide +kernel)
set_option maxRecDepth 65536 in
theorem w_c5 : (Jvm.Cond.code yM85 jdk_42_method_151_code (3 : Nat) (Option.none : Option Jvm.ClassFile.FieldType)).before args0 about1 = true := code_word (m := ⟨7, 5⟩) (meth := k7m5) (c := k7c5) (by decide +kernel) rfl rfl rfl (by decide +kernel)
set_option maxRecDepth 65536 in
theorem w_c6 : (Jvm.Cond.code ({ cls := "java/lang/Object", name := "<init>", desc := "()V" } : Jvm.MethodName) object_method_1_code (1 : Nat) (Option.none : Option Jvm.ClassFile.FieldType)).before args0 about1 = true := code_word (m := ⟨0, 0⟩) (meth := k0m0) (c := k0c0) (by decide +kernel) rfl rfl rfl (by decide +kernel)
set_option maxRecDepth 65536 in
theorem w_c7 : (Jvm.Cond.code yM54 method_2_code (2 : Nat) (Option.some (Jvm.ClassFile.FieldType.object "java/lang/String"))).before args0 about1 = true := code_word (m := ⟨1, 1⟩) (meth := k1m1) (c := k1c1) (by decide +kernel) rfl rfl rfl (by decide +kernel)
set_option maxRecDepth 65536 in
theorem w_c8 : (Jvm.Cond.code yM53 jdk_42_method_3_code (2 : Nat) (Option.none : Option Jvm.ClassFile.FieldType)).before args0 about1 = true := code_word (m := ⟨7, 1⟩) (meth := k7m1) (c := k7c1) (by decide +kernel) rfl rfl rfl (by decide +kernel)
set_option maxRecDepth 65536 in
theorem w_c9 : (Jvm.Cond.code yM52 jdk_42_method_149_code (6 : Nat) (Option.none : Option Jvm.ClassFile.FieldType)).before args0 about1 = true := code_word (m := ⟨7, 4⟩) (meth := k7m4) (c := k7c4) (by decide +kernel) rfl rfl rfl (by decide +kernel)
set_option maxRecDepth 65536 in
theorem w_c10 : (Jvm.Cond.code yM50 jdk_52_method_16_code (6 : Nat) (Option.some (Jvm.ClassFile.FieldType.array Jvm.ClassFile.FieldType.byte))).before args0 about1 = true := code_word (m := ⟨9, 2⟩) (meth := k9m2) (c := k9c2) (by decide +kernel) rfl rfl rfl (by decide +kernel)
set_option maxRecDepth 65536 in
theorem w_c11 : (Jvm.Cond.code yM49 jdk_52_method_21_code (7 : Nat) (Option.some Jvm.ClassFile.FieldType.int)).before args0 about1 = true := code_word (m := ⟨9, 3⟩) (meth := k9m3) (c := k9c3) (by decide +kernel) rfl rfl rfl (by decide +kernel)
set_option maxRecDepth 65536 in
theorem w_c12 : (Jvm.Cond.code yM51 jdk_52_method_15_code (2 : Nat) (Option.some Jvm.ClassFile.FieldType.byte)).before args0 about1 = true := code_word (m := ⟨9, 1⟩) (meth := k9m1) (c := k9c1) (by decide +kernel) rfl rfl rfl (by decide +kernel)
set_option maxRecDepth 65536 in
theorem w_c13 : (Jvm.Cond.code yM76 prog_11_method_2_code (4 : Nat) (Option.some (Jvm.ClassFile.FieldType.object "com/example/spanfold/spanfold/Input"))).before args0 about1 = true := code_word (m := ⟨11, 1⟩) (meth := k11m1) (c := k11c1) (by decide +kernel) rfl rfl rfl (by decide +kernel)
set_option maxRecDepth 65536 in
theorem w_c14 : (Jvm.Cond.code yM1 jdk_31_method_11_code (2 : Nat) (Option.some (Jvm.ClassFile.FieldType.object "java/lang/Object"))).before args0 about1 = true := code_word (m := ⟨12, 2⟩) (meth := k12m2) (c := k12c2) (by decide +kernel) rfl rfl rfl (by decide +kernel)
set_option maxRecDepth 65536 in
theorem w_c15 : (Jvm.Cond.code yM22 jdk_40_method_36_code (0 : Nat) (Option.some (Jvm.ClassFile.FieldType.object "java/util/List"))).before args0 about1 = true := code_word (m := ⟨16, 2⟩) (meth := k16m2) (c := k16c2) (by decide +kernel) rfl rfl rfl (by decide +kernel)
set_option maxRecDepth 65536 in
theorem w_c16 : (Jvm.Cond.code yM75 prog_11_method_1_code (11 : Nat) (Option.none : Option Jvm.ClassFile.FieldType)).before args0 about1 = true := code_word (m := ⟨11, 0⟩) (meth := k11m0) (c := k11c0) (by decide +kernel) rfl rfl rfl (by decide +kernel)
set_option maxRecDepth 65536 in
theorem w_c17 : (Jvm.Cond.code yM7 prog_10_method_1_code (1 : Nat) (Option.none : Option Jvm.ClassFile.FieldType)).before args0 about1 = true := code_word (m := ⟨10, 0⟩) (meth := k10m0) (c := k10c0) (by decide +kernel) rfl rfl rfl (by decide +kernel)
set_option maxRecDepth 65536 in
theorem w_c18 : (Jvm.Cond.code yM72 jdk_40_method_48_code (1 : Nat) (Option.some (Jvm.ClassFile.FieldType.object "java/util/List"))).before args0 about1 = true := code_word (m := ⟨16, 6⟩) (meth := k16m6) (c := k16c6) (by decide +kernel) rfl rfl rfl (by decide +kernel)
set_option maxRecDepth 65536 in
theorem w_c19 : (Jvm.Cond.code yM71 jdk_56_method_3_code (2 : Nat) (Option.some (Jvm.ClassFile.FieldType.object "java/util/List"))).before args0 about1 = true := code_word (m := ⟨17, 1⟩) (meth := k17m1) (c := k17c1) (by decide +kernel) rfl rfl rfl (by decide +kernel)
set_option maxRecDepth 65536 in
theorem w_c20 : (Jvm.Cond.code yM25 jdk_40_method_39_code (3 : Nat) (Option.some (Jvm.ClassFile.FieldType.object "java/util/List"))).before args0 about1 = true := code_word (m := ⟨16, 4⟩) (meth := k16m4) (c := k16c4) (by decide +kernel) rfl rfl rfl (by decide +kernel)
set_option maxRecDepth 65536 in
theorem w_c21 : (Jvm.Cond.code yM24 jdk_56_method_5_code (5 : Nat) (Option.some (Jvm.ClassFile.FieldType.object "java/util/List"))).before args0 about1 = true := code_word (m := ⟨17, 3⟩) (meth := k17m3) (c := k17c3) (by decide +kernel) rfl rfl rfl (by decide +kernel)
set_option maxRecDepth 65536 in
theorem w_c22 : (Jvm.Cond.code yM0 jdk_31_method_10_code (1 : Nat) (Option.some (Jvm.ClassFile.FieldType.object "java/lang/Object"))).before args0 about1 = true := code_word (m := ⟨12, 1⟩) (meth := k12m1) (c := k12c1) (by decide +kernel) rfl rfl rfl (by decide +kernel)
set_option maxRecDepth 65536 in
theorem w_c23 : (Jvm.Cond.code yM9 jdk_45_method_1_code (3 : Nat) (Option.none : Option Jvm.ClassFile.FieldType)).before args0 about1 = true := code_word (m := ⟨23, 0⟩) (meth := k23m0) (c := k23c0) (by decide +kernel) rfl rfl rfl (by decide +kernel)
set_option maxRecDepth 65536 in
theorem w_c24 : (Jvm.Cond.code yM4 jdk_46_method_1_code (1 : Nat) (Option.none : Option Jvm.ClassFile.FieldType)).before args0 about1 = true := code_word (m := ⟨21, 0⟩) (meth := k21m0) (c := k21c0) (by decide +kernel) rfl rfl rfl (by decide +kernel)
set_option maxRecDepth 65536 in
theorem w_c25 : (Jvm.Cond.code yM3 jdk_47_method_1_code (1 : Nat) (Option.none : Option Jvm.ClassFile.FieldType)).before args0 about1 = true := code_word (m := ⟨19, 0⟩) (meth := k19m0) (c := k19c0) (by decide +kernel) rfl rfl rfl (by decide +kernel)
set_option maxRecDepth 65536 in
theorem w_c26 : (Jvm.Cond.code yM2 jdk_22_method_1_code (1 : Nat) (Option.none : Option Jvm.ClassFile.FieldType)).before args0 about1 = true := code_word (m := ⟨18, 0⟩) (meth := k18m0) (c := k18c0) (by decide +kernel) rfl rfl rfl (by decide +kernel)
set_option maxRecDepth 65536 in
theorem w_c27 : (Jvm.Cond.code yM41 jdk_38_method_3_code (3 : Nat) (Option.none : Option Jvm.ClassFile.FieldType)).before args0 about1 = true := code_word (m := ⟨26, 1⟩) (meth := k26m1) (c := k26c1) (by decide +kernel) rfl rfl rfl (by decide +kernel)
set_option maxRecDepth 65536 in
theorem w_c28 : (Jvm.Cond.code yM8 jdk_39_method_1_code (1 : Nat) (Option.none : Option Jvm.ClassFile.FieldType)).before args0 about1 = true := code_word (m := ⟨24, 0⟩) (meth := k24m0) (c := k24c0) (by decide +kernel) rfl rfl rfl (by decide +kernel)
set_option maxRecDepth 65536 in
theorem w_c29 : (Jvm.Cond.code yM16 jdk_45_method_7_code (1 : Nat) (Option.some (Jvm.ClassFile.FieldType.array (Jvm.ClassFile.FieldType.object "java/lang/Object")))).before args0 about1 = true := code_word (m := ⟨23, 3⟩) (meth := k23m3) (c := k23c3) (by decide +kernel) rfl rfl rfl (by decide +kernel)
set_option maxRecDepth 65536 in
theorem w_c30 : (Jvm.Cond.code yM15 jdk_65_method_119_code (2 : Nat) (Option.some (Jvm.ClassFile.FieldType.array (Jvm.ClassFile.FieldType.object "java/lang/Object")))).before args0 about1 = true := code_word (m := ⟨27, 1⟩) (meth := k27m1) (c := k27c1) (by decide +kernel) rfl rfl rfl (by decide +kernel)
set_option maxRecDepth 65536 in
theorem w_c31 : (Jvm.Cond.code yM14 jdk_65_method_120_code (4 : Nat) (Option.some (Jvm.ClassFile.FieldType.array (Jvm.ClassFile.FieldType.object "java/lang/Object")))).before args0 about1 = true := code_word (m := ⟨27, 2⟩) (meth := k27m2) (c := k27c2) (by decide +kernel) rfl rfl rfl (by decide +kernel)
set_option maxRecDepth 65536 in
theorem w_c32 : (Jvm.Cond.code yM12 jdk_29_method_69_code (2 : Nat) (Option.some Jvm.ClassFile.FieldType.int)).before args0 about1 = true := code_word (m := ⟨28, 2⟩) (meth := k28m2) (c := k28c2) (by decide +kernel) rfl rfl rfl (by decide +kernel)
set_option maxRecDepth 65536 in
theorem w_c33 : (Jvm.Cond.code yM43 jdk_38_method_41_code (6 : Nat) (Option.some Jvm.ClassFile.FieldType.boolean)).before args0 about1 = true := code_word (m := ⟨26, 11⟩) (meth := k26m11) (c := k26c11) (by decide +kernel) rfl rfl rfl (by decide +kernel)
set_option maxRecDepth 65536 in
theorem w_c34 : (Jvm.Cond.code yM70 jdk_93_method_1_code (1 : Nat) (Option.none : Option Jvm.ClassFile.FieldType)).before args0 about1 = true := code_word (m := ⟨32, 0⟩) (meth := k32m0) (c := k32c0) (by decide +kernel) rfl rfl rfl (by decide +kernel)
set_option maxRecDepth 65536 in
theorem w_c35 : (Jvm.Cond.code yM5 jdk_91_method_1_code (1 : Nat) (Option.none : Option Jvm.ClassFile.FieldType)).before args0 about1 = true := code_word (m := ⟨31, 0⟩) (meth := k31m0) (c := k31c0) (by decide +kernel) rfl rfl rfl (by decide +kernel)
set_option maxRecDepth 65536 in
theorem w_c36 : (Jvm.Cond.code yM69 jdk_69_method_7_code (1 : Nat) (Option.none : Option Jvm.ClassFile.FieldType)).before args0 about1 = true := code_word (m := ⟨35, 1⟩) (meth := k35m1) (c := k35c1) (by decide +kernel) rfl rfl rfl (by decide +kernel)
set_option maxRecDepth 65536 in
theorem w_c37 : (Jvm.Cond.code yM6 jdk_71_method_1_code (1 : Nat) (Option.none : Option Jvm.ClassFile.FieldType)).before args0 about1 = true := code_word (m := ⟨34, 0⟩) (meth := k34m0) (c := k34c0) (by decide +kernel) rfl rfl rfl (by decide +kernel)
set_option maxRecDepth 65536 in
theorem w_c38 : (Jvm.Cond.code yM45 jdk_38_method_55_code (1 : Nat) (Option.some (Jvm.ClassFile.FieldType.object "java/util/Iterator"))).before args0 about1 = true := code_word (m := ⟨26, 12⟩) (meth := k26m12) (c := k26c12) (by decide +kernel) rfl rfl rfl (by decide +kernel)
set_option maxRecDepth 65536 in
theorem w_c39 : (Jvm.Cond.code yM44 jdk_49_method_1_code (2 : Nat) (Option.none : Option Jvm.ClassFile.FieldType)).before args0 about1 = true := code_word (m := ⟨37, 0⟩) (meth := k37m0) (c := k37c0) (by decide +kernel) rfl rfl rfl (by decide +kernel)
set_option maxRecDepth 65536 in
theorem w_c40 : (Jvm.Cond.code yM46 jdk_49_method_2_code (1 : Nat) (Option.some Jvm.ClassFile.FieldType.boolean)).before args0 about1 = true := code_word (m := ⟨37, 1⟩) (meth := k37m1) (c := k37c1) (by decide +kernel) rfl rfl rfl (by decide +kernel)
set_option maxRecDepth 65536 in
theorem w_c41 : (Jvm.Cond.code yM48 jdk_49_method_3_code (3 : Nat) (Option.some (Jvm.ClassFile.FieldType.object "java/lang/Object"))).before args0 about1 = true := code_word (m := ⟨37, 2⟩) (meth := k37m2) (c := k37c2) (by decide +kernel) rfl rfl rfl (by decide +kernel)
set_option maxRecDepth 65536 in
theorem w_c42 : (Jvm.Cond.code yM47 jdk_49_method_6_code (1 : Nat) (Option.none : Option Jvm.ClassFile.FieldType)).before args0 about1 = true := code_word (m := ⟨37, 3⟩) (meth := k37m3) (c := k37c3) (by decide +kernel) rfl rfl rfl (by decide +kernel)
set_option maxRecDepth 65536 in
theorem w_c43 : (Jvm.Cond.code yM68 jdk_93_method_10_code (2 : Nat) (Option.some Jvm.ClassFile.FieldType.boolean)).before args0 about1 = true := code_word (m := ⟨32, 1⟩) (meth := k32m1) (c := k32c1) (by decide +kernel) rfl rfl rfl (by decide +kernel)
set_option maxRecDepth 65536 in
theorem w_c44 : (Jvm.Cond.code yM67 jdk_69_method_15_code (3 : Nat) (Option.some (Jvm.ClassFile.FieldType.object "java/lang/Object"))).before args0 about1 = true := code_word (m := ⟨35, 2⟩) (meth := k35m2) (c := k35c2) (by decide +kernel) rfl rfl rfl (by decide +kernel)
set_option maxRecDepth 65536 in
theorem w_c45 : (Jvm.Cond.code yM60 jdk_69_method_1_code (2 : Nat) (Option.some Jvm.ClassFile.FieldType.int)).before args0 about1 = true := code_word (m := ⟨35, 0⟩) (meth := k35m0) (c := k35c0) (by decide +kernel) rfl rfl rfl (by decide +kernel)
set_option maxRecDepth 65536 in
theorem w_c46 : (Jvm.Cond.code yM59 jdk_42_method_78_code (2 : Nat) (Option.some Jvm.ClassFile.FieldType.int)).before args0 about1 = true := code_word (m := ⟨7, 2⟩) (meth := k7m2) (c := k7c2) (by decide +kernel) rfl rfl rfl (by decide +kernel)
set_option maxRecDepth 65536 in
theorem w_c47 : (Jvm.Cond.code yM58 jdk_42_method_154_code (1 : Nat) (Option.some Jvm.ClassFile.FieldType.boolean)).before args0 about1 = true := code_word (m := ⟨7, 6⟩) (meth := k7m6) (c := k7c6) (by decide +kernel) rfl rfl rfl (by decide +kernel)
set_option maxRecDepth 65536 in
theorem w_c48 : (Jvm.Cond.code yM57 jdk_43_method_21_code (1 : Nat) (Option.some Jvm.ClassFile.FieldType.int)).before args0 about1 = true := code_word (m := ⟨8, 2⟩) (meth := k8m2) (c := k8c2) (by decide +kernel) rfl rfl rfl (by decide +kernel)
set_option maxRecDepth 65536 in
theorem w_c49 : (Jvm.Cond.code yM56 jdk_48_method_4_code (5 : Nat) (Option.some Jvm.ClassFile.FieldType.int)).before args0 about1 = true := code_word (m := ⟨38, 1⟩) (meth := k38m1) (c := k38c1) (by decide +kernel) rfl rfl rfl (by decide +kernel)
set_option maxRecDepth 65536 in
theorem w_c50 : (Jvm.Cond.code yM55 jdk_48_method_5_code (6 : Nat) (Option.some Jvm.ClassFile.FieldType.int)).before args0 about1 = true := code_word (m := ⟨38, 2⟩) (meth := k38m2) (c := k38c2) (by decide +kernel) rfl rfl rfl (by decide +kernel)
set_option maxRecDepth 65536 in
theorem w_c51 : (Jvm.Cond.code yM66 jdk_69_method_16_code (13 : Nat) (Option.some (Jvm.ClassFile.FieldType.object "java/lang/Object"))).before args0 about1 = true := code_word (m := ⟨35, 3⟩) (meth := k35m3) (c := k35c3) (by decide +kernel) rfl rfl rfl (by decide +kernel)
set_option maxRecDepth 65536 in
theorem w_c52 : (Jvm.Cond.code yM65 jdk_69_method_17_code (14 : Nat) (Option.some (Jvm.ClassFile.FieldType.array (Jvm.ClassFile.FieldType.object "java/util/HashMap$Node")))).before args0 about1 = true := code_word (m := ⟨35, 4⟩) (meth := k35m4) (c := k35c4) (by decide +kernel) rfl rfl rfl (by decide +kernel)
set_option maxRecDepth 65536 in
theorem w_c53 : (Jvm.Cond.code yM63 jdk_69_method_46_code (5 : Nat) (Option.some (Jvm.ClassFile.FieldType.object "java/util/HashMap$Node"))).before args0 about1 = true := code_word (m := ⟨35, 5⟩) (meth := k35m5) (c := k35c5) (by decide +kernel) rfl rfl rfl (by decide +kernel)
set_option maxRecDepth 65536 in
theorem w_c54 : (Jvm.Cond.code yM62 jdk_70_method_1_code (5 : Nat) (Option.none : Option Jvm.ClassFile.FieldType)).before args0 about1 = true := code_word (m := ⟨40, 0⟩) (meth := k40m0) (c := k40c0) (by decide +kernel) rfl rfl rfl (by decide +kernel)
set_option maxRecDepth 65536 in
theorem w_c55 : (Jvm.Cond.code yM64 jdk_69_method_52_code (2 : Nat) (Option.none : Option Jvm.ClassFile.FieldType)).before args0 about1 = true := code_word (m := ⟨35, 6⟩) (meth := k35m6) (c := k35c6) (by decide +kernel) rfl rfl rfl (by decide +kernel)
set_option maxRecDepth 65536 in
theorem w_c56 : (Jvm.Cond.code yM35 jdk_38_method_2_code (1 : Nat) (Option.none : Option Jvm.ClassFile.FieldType)).before args0 about1 = true := code_word (m := ⟨26, 0⟩) (meth := k26m0) (c := k26c0) (by decide +kernel) rfl rfl rfl (by decide +kernel)
set_option maxRecDepth 65536 in
theorem w_c57 : (Jvm.Cond.code yM40 jdk_38_method_25_code (2 : Nat) (Option.some Jvm.ClassFile.FieldType.boolean)).before args0 about1 = true := code_word (m := ⟨26, 10⟩) (meth := k26m10) (c := k26c10) (by decide +kernel) rfl rfl rfl (by decide +kernel)
set_option maxRecDepth 65536 in
theorem w_c58 : (Jvm.Cond.code yM39 jdk_38_method_24_code (4 : Nat) (Option.none : Option Jvm.ClassFile.FieldType)).before args0 about1 = true := code_word (m := ⟨26, 9⟩) (meth := k26m9) (c := k26c9) (by decide +kernel) rfl rfl rfl (by decide +kernel)
set_option maxRecDepth 65536 in
theorem w_c59 : (Jvm.Cond.code yM38 jdk_38_method_7_code (1 : Nat) (Option.some (Jvm.ClassFile.FieldType.array (Jvm.ClassFile.FieldType.object "java/lang/Object")))).before args0 about1 = true := code_word (m := ⟨26, 3⟩) (meth := k26m3) (c := k26c3) (by decide +kernel) rfl rfl rfl (by decide +kernel)
set_option maxRecDepth 65536 in
theorem w_c60 : (Jvm.Cond.code yM37 jdk_38_method_6_code (4 : Nat) (Option.some (Jvm.ClassFile.FieldType.array (Jvm.ClassFile.FieldType.object "java/lang/Object")))).before args0 about1 = true := code_word (m := ⟨26, 2⟩) (meth := k26m2) (c := k26c2) (by decide +kernel) rfl rfl rfl (by decide +kernel)
set_option maxRecDepth 65536 in
theorem w_c61 : (Jvm.Cond.code yM13 jdk_29_method_65_code (2 : Nat) (Option.some Jvm.ClassFile.FieldType.int)).before args0 about1 = true := code_word (m := ⟨28, 1⟩) (meth := k28m1) (c := k28c1) (by decide +kernel) rfl rfl rfl (by decide +kernel)
set_option maxRecDepth 65536 in
theorem w_c62 : (Jvm.Cond.code yM80 prog_11_method_5_code (4 : Nat) (Option.some (Jvm.ClassFile.FieldType.object "java/util/List"))).before args0 about1 = true := code_word (m := ⟨11, 3⟩) (meth := k11m3) (c := k11c3) (by decide +kernel) rfl rfl rfl (by decide +kernel)
set_option maxRecDepth 65536 in
theorem w_c63 : (Jvm.Cond.code yM33 jdk_38_method_20_code (2 : Nat) (Option.some (Jvm.ClassFile.FieldType.object "java/lang/Object"))).before args0 about1 = true := code_word (m := ⟨26, 8⟩) (meth := k26m8) (c := k26c8) (by decide +kernel) rfl rfl rfl (by decide +kernel)
set_option maxRecDepth 65536 in
theorem w_c64 : (Jvm.Cond.code yM32 jdk_31_method_17_code (2 : Nat) (Option.some Jvm.ClassFile.FieldType.int)).before args0 about1 = true := code_word (m := ⟨12, 3⟩) (meth := k12m3) (c := k12c3) (by decide +kernel) rfl rfl rfl (by decide +kernel)
set_option maxRecDepth 65536 in
theorem w_c65 : (Jvm.Cond.code yM31 jdk_41_method_11_code (3 : Nat) (Option.some Jvm.ClassFile.FieldType.int)).before args0 about1 = true := code_word (m := ⟨41, 1⟩) (meth := k41m1) (c := k41c1) (by decide +kernel) rfl rfl rfl (by decide +kernel)
set_option maxRecDepth 65536 in
theorem w_c66 : (Jvm.Cond.code yM30 jdk_38_method_18_code (2 : Nat) (Option.some (Jvm.ClassFile.FieldType.object "java/lang/Object"))).before args0 about1 = true := code_word (m := ⟨26, 7⟩) (meth := k26m7) (c := k26c7) (by decide +kernel) rfl rfl rfl (by decide +kernel)
set_option maxRecDepth 65536 in
theorem w_c67 : (Jvm.Cond.code yM78 prog_11_method_14_code (2 : Nat) (Option.some (Jvm.ClassFile.FieldType.object "java/util/List"))).before args0 about1 = true := code_word (m := ⟨11, 4⟩) (meth := k11m4) (c := k11c4) (by decide +kernel) rfl rfl rfl (by decide +kernel)
set_option maxRecDepth 65536 in
theorem w_c68 : (Jvm.Cond.code yM23 jdk_40_method_37_code (1 : Nat) (Option.some (Jvm.ClassFile.FieldType.object "java/util/List"))).before args0 about1 = true := code_word (m := ⟨16, 3⟩) (meth := k16m3) (c := k16c3) (by decide +kernel) rfl rfl rfl (by decide +kernel)
set_option maxRecDepth 65536 in
theorem w_c69 : (Jvm.Cond.code yM10 jdk_44_method_1_code (2 : Nat) (Option.none : Option Jvm.ClassFile.FieldType)).before args0 about1 = true := code_word (m := ⟨22, 0⟩) (meth := k22m0) (c := k22c0) (by decide +kernel) rfl rfl rfl (by decide +kernel)
set_option maxRecDepth 65536 in
theorem w_c70 : (Jvm.Cond.code yM19 jdk_44_method_10_code (1 : Nat) (Option.some (Jvm.ClassFile.FieldType.array (Jvm.ClassFile.FieldType.object "java/lang/Object")))).before args0 about1 = true := code_word (m := ⟨22, 4⟩) (meth := k22m4) (c := k22c4) (by decide +kernel) rfl rfl rfl (by decide +kernel)
set_option maxRecDepth 65536 in
theorem w_c71 : (Jvm.Cond.code yM28 jdk_38_method_8_code (1 : Nat) (Option.some Jvm.ClassFile.FieldType.int)).before args0 about1 = true := code_word (m := ⟨26, 4⟩) (meth := k26m4) (c := k26c4) (by decide +kernel) rfl rfl rfl (by decide +kernel)
set_option maxRecDepth 65536 in
theorem w_c72 : (Jvm.Cond.code yM29 jdk_38_method_9_code (1 : Nat) (Option.some Jvm.ClassFile.FieldType.boolean)).before args0 about1 = true := code_word (m := ⟨26, 5⟩) (meth := k26m5) (c := k26c5) (by decide +kernel) rfl rfl rfl (by decide +kernel)
set_option maxRecDepth 65536 in
theorem w_c73 : (Jvm.Cond.code yM34 jdk_38_method_16_code (1 : Nat) (Option.some (Jvm.ClassFile.FieldType.array (Jvm.ClassFile.FieldType.object "java/lang/Object")))).before args0 about1 = true := code_word (m := ⟨26, 6⟩) (meth := k26m6) (c := k26c6) (by decide +kernel) rfl rfl rfl (by decide +kernel)
set_option maxRecDepth 65536 in
theorem w_c74 : (Jvm.Cond.code yM27 jdk_40_method_47_code (2 : Nat) (Option.some (Jvm.ClassFile.FieldType.object "java/util/List"))).before args0 about1 = true := code_word (m := ⟨16, 5⟩) (meth := k16m5) (c := k16c5) (by decide +kernel) rfl rfl rfl (by decide +kernel)
set_option maxRecDepth 65536 in
theorem w_c75 : (Jvm.Cond.code yM20 jdk_44_method_3_code (1 : Nat) (Option.some Jvm.ClassFile.FieldType.int)).before args0 about1 = true := code_word (m := ⟨22, 2⟩) (meth := k22m2) (c := k22c2) (by decide +kernel) rfl rfl rfl (by decide +kernel)
set_option maxRecDepth 65536 in
theorem w_c76 : (Jvm.Cond.code yM21 jdk_44_method_5_code (2 : Nat) (Option.some (Jvm.ClassFile.FieldType.object "java/lang/Object"))).before args0 about1 = true := code_word (m := ⟨22, 3⟩) (meth := k22m3) (c := k22c3) (by decide +kernel) rfl rfl rfl (by decide +kernel)
set_option maxRecDepth 65536 in
theorem w_c77 : (Jvm.Cond.code yM77 prog_11_method_4_code (2 : Nat) (Option.some (Jvm.ClassFile.FieldType.object "com/example/spanfold/spanfold/Input"))).before args0 about1 = true := code_word (m := ⟨11, 2⟩) (meth := k11m2) (c := k11c2) (by decide +kernel) rfl rfl rfl (by decide +kernel)
set_option maxRecDepth 65536 in
theorem w_c78 : (Jvm.Cond.code yM36 jdk_48_method_27_code (4 : Nat) (Option.some Jvm.ClassFile.FieldType.int)).before args0 about1 = true := code_word (m := ⟨38, 3⟩) (meth := k38m3) (c := k38c3) (by decide +kernel) rfl rfl rfl (by decide +kernel)
set_option maxRecDepth 65536 in
theorem w_c79 : (Jvm.Cond.code yM26 jdk_56_method_4_code (3 : Nat) (Option.some (Jvm.ClassFile.FieldType.object "java/util/List"))).before args0 about1 = true := code_word (m := ⟨17, 2⟩) (meth := k17m2) (c := k17c2) (by decide +kernel) rfl rfl rfl (by decide +kernel)
set_option maxRecDepth 65536 in
theorem w_c80 : (Jvm.Cond.code yM17 jdk_45_method_3_code (1 : Nat) (Option.some Jvm.ClassFile.FieldType.int)).before args0 about1 = true := code_word (m := ⟨23, 1⟩) (meth := k23m1) (c := k23c1) (by decide +kernel) rfl rfl rfl (by decide +kernel)
set_option maxRecDepth 65536 in
theorem w_c81 : (Jvm.Cond.code yM18 jdk_45_method_4_code (2 : Nat) (Option.some (Jvm.ClassFile.FieldType.object "java/lang/Object"))).before args0 about1 = true := code_word (m := ⟨23, 2⟩) (meth := k23m2) (c := k23c2) (by decide +kernel) rfl rfl rfl (by decide +kernel)
set_option maxRecDepth 65536 in
theorem w_c82 : (Jvm.Cond.code yM11 jdk_44_method_2_code (3 : Nat) (Option.none : Option Jvm.ClassFile.FieldType)).before args0 about1 = true := code_word (m := ⟨22, 1⟩) (meth := k22m1) (c := k22c1) (by decide +kernel) rfl rfl rfl (by decide +kernel)
def codes1 : List Jvm.Cond := [Jvm.Cond.code x code maxLocals ret, Jvm.Cond.code yM87 method_3_code (3 : Nat) (Option.some (Jvm.ClassFile.FieldType.object "com/example/spanfold/spanfold/Input")), Jvm.Cond.code yM86 jdk_42_method_139_code (1 : Nat) (Option.some (Jvm.ClassFile.FieldType.object "java/lang/String")), Jvm.Cond.code yM83 jdk_43_method_3_code (1 : Nat) (Option.some Jvm.ClassFile.FieldType.boolean), Jvm.Cond.code yM84 jdk_43_method_46_code (1 : Nat) (Option.some (Jvm.ClassFile.FieldType.array Jvm.ClassFile.FieldType.byte)), Jvm.Cond.code yM85 jdk_42_method_151_code (3 : Nat) (Option.none : Option Jvm.ClassFile.FieldType), Jvm.Cond.code ({ cls := "java/lang/Object", name := "<init>", desc := "()V" } : Jvm.MethodName) object_method_1_code (1 : Nat) (Option.none : Option Jvm.ClassFile.FieldType), Jvm.Cond.code yM54 method_2_code (2 : Nat) (Option.some (Jvm.ClassFile.FieldType.object "java/lang/String")), Jvm.Cond.code yM53 jdk_42_method_3_code (2 : Nat) (Option.none : Option Jvm.ClassFile.FieldType), Jvm.Cond.code yM52 jdk_42_method_149_code (6 : Nat) (Option.none : Option Jvm.ClassFile.FieldType), Jvm.Cond.code yM50 jdk_52_method_16_code (6 : Nat) (Option.some (Jvm.ClassFile.FieldType.array Jvm.ClassFile.FieldType.byte)), Jvm.Cond.code yM49 jdk_52_method_21_code (7 : Nat) (Option.some Jvm.ClassFile.FieldType.int), Jvm.Cond.code yM51 jdk_52_method_15_code (2 : Nat) (Option.some Jvm.ClassFile.FieldType.byte), Jvm.Cond.code yM76 prog_11_method_2_code (4 : Nat) (Option.some (Jvm.ClassFile.FieldType.object "com/example/spanfold/spanfold/Input")), Jvm.Cond.code yM1 jdk_31_method_11_code (2 : Nat) (Option.some (Jvm.ClassFile.FieldType.object "java/lang/Object")), Jvm.Cond.code yM22 jdk_40_method_36_code (0 : Nat) (Option.some (Jvm.ClassFile.FieldType.object "java/util/List")), Jvm.Cond.code yM75 prog_11_method_1_code (11 : Nat) (Option.none : Option Jvm.ClassFile.FieldType), Jvm.Cond.code yM7 prog_10_method_1_code (1 : Nat) (Option.none : Option Jvm.ClassFile.FieldType), Jvm.Cond.code yM72 jdk_40_method_48_code (1 : Nat) (Option.some (Jvm.ClassFile.FieldType.object "java/util/List")), Jvm.Cond.code yM71 jdk_56_method_3_code (2 : Nat) (Option.some (Jvm.ClassFile.FieldType.object "java/util/List")), Jvm.Cond.code yM25 jdk_40_method_39_code (3 : Nat) (Option.some (Jvm.ClassFile.FieldType.object "java/util/List")), Jvm.Cond.code yM24 jdk_56_method_5_code (5 : Nat) (Option.some (Jvm.ClassFile.FieldType.object "java/util/List")), Jvm.Cond.code yM0 jdk_31_method_10_code (1 : Nat) (Option.some (Jvm.ClassFile.FieldType.object "java/lang/Object")), Jvm.Cond.code yM9 jdk_45_method_1_code (3 : Nat) (Option.none : Option Jvm.ClassFile.FieldType), Jvm.Cond.code yM4 jdk_46_method_1_code (1 : Nat) (Option.none : Option Jvm.ClassFile.FieldType), Jvm.Cond.code yM3 jdk_47_method_1_code (1 : Nat) (Option.none : Option Jvm.ClassFile.FieldType), Jvm.Cond.code yM2 jdk_22_method_1_code (1 : Nat) (Option.none : Option Jvm.ClassFile.FieldType), Jvm.Cond.code yM41 jdk_38_method_3_code (3 : Nat) (Option.none : Option Jvm.ClassFile.FieldType), Jvm.Cond.code yM8 jdk_39_method_1_code (1 : Nat) (Option.none : Option Jvm.ClassFile.FieldType), Jvm.Cond.code yM16 jdk_45_method_7_code (1 : Nat) (Option.some (Jvm.ClassFile.FieldType.array (Jvm.ClassFile.FieldType.object "java/lang/Object"))), Jvm.Cond.code yM15 jdk_65_method_119_code (2 : Nat) (Option.some (Jvm.ClassFile.FieldType.array (Jvm.ClassFile.FieldType.object "java/lang/Object"))), Jvm.Cond.code yM14 jdk_65_method_120_code (4 : Nat) (Option.some (Jvm.ClassFile.FieldType.array (Jvm.ClassFile.FieldType.object "java/lang/Object"))), Jvm.Cond.code yM12 jdk_29_method_69_code (2 : Nat) (Option.some Jvm.ClassFile.FieldType.int), Jvm.Cond.code yM43 jdk_38_method_41_code (6 : Nat) (Option.some Jvm.ClassFile.FieldType.boolean), Jvm.Cond.code yM70 jdk_93_method_1_code (1 : Nat) (Option.none : Option Jvm.ClassFile.FieldType), Jvm.Cond.code yM5 jdk_91_method_1_code (1 : Nat) (Option.none : Option Jvm.ClassFile.FieldType), Jvm.Cond.code yM69 jdk_69_method_7_code (1 : Nat) (Option.none : Option Jvm.ClassFile.FieldType), Jvm.Cond.code yM6 jdk_71_method_1_code (1 : Nat) (Option.none : Option Jvm.ClassFile.FieldType), Jvm.Cond.code yM45 jdk_38_method_55_code (1 : Nat) (Option.some (Jvm.ClassFile.FieldType.object "java/util/Iterator")), Jvm.Cond.code yM44 jdk_49_method_1_code (2 : Nat) (Option.none : Option Jvm.ClassFile.FieldType), Jvm.Cond.code yM46 jdk_49_method_2_code (1 : Nat) (Option.some Jvm.ClassFile.FieldType.boolean), Jvm.Cond.code yM48 jdk_49_method_3_code (3 : Nat) (Option.some (Jvm.ClassFile.FieldType.object "java/lang/Object")), Jvm.Cond.code yM47 jdk_49_method_6_code (1 : Nat) (Option.none : Option Jvm.ClassFile.FieldType), Jvm.Cond.code yM68 jdk_93_method_10_code (2 : Nat) (Option.some Jvm.ClassFile.FieldType.boolean), Jvm.Cond.code yM67 jdk_69_method_15_code (3 : Nat) (Option.some (Jvm.ClassFile.FieldType.object "java/lang/Object")), Jvm.Cond.code yM60 jdk_69_method_1_code (2 : Nat) (Option.some Jvm.ClassFile.FieldType.int), Jvm.Cond.code yM59 jdk_42_method_78_code (2 : Nat) (Option.some Jvm.ClassFile.FieldType.int), Jvm.Cond.code yM58 jdk_42_method_154_code (1 : Nat) (Option.some Jvm.ClassFile.FieldType.boolean), Jvm.Cond.code yM57 jdk_43_method_21_code (1 : Nat) (Option.some Jvm.ClassFile.FieldType.int), Jvm.Cond.code yM56 jdk_48_method_4_code (5 : Nat) (Option.some Jvm.ClassFile.FieldType.int), Jvm.Cond.code yM55 jdk_48_method_5_code (6 : Nat) (Option.some Jvm.ClassFile.FieldType.int), Jvm.Cond.code yM66 jdk_69_method_16_code (13 : Nat) (Option.some (Jvm.ClassFile.FieldType.object "java/lang/Object")), Jvm.Cond.code yM65 jdk_69_method_17_code (14 : Nat) (Option.some (Jvm.ClassFile.FieldType.array (Jvm.ClassFile.FieldType.object "java/util/HashMap$Node"))), Jvm.Cond.code yM63 jdk_69_method_46_code (5 : Nat) (Option.some (Jvm.ClassFile.FieldType.object "java/util/HashMap$Node")), Jvm.Cond.code yM62 jdk_70_method_1_code (5 : Nat) (Option.none : Option Jvm.ClassFile.FieldType), Jvm.Cond.code yM64 jdk_69_method_52_code (2 : Nat) (Option.none : Option Jvm.ClassFile.FieldType), Jvm.Cond.code yM35 jdk_38_method_2_code (1 : Nat) (Option.none : Option Jvm.ClassFile.FieldType), Jvm.Cond.code yM40 jdk_38_method_25_code (2 : Nat) (Option.some Jvm.ClassFile.FieldType.boolean), Jvm.Cond.code yM39 jdk_38_method_24_code (4 : Nat) (Option.none : Option Jvm.ClassFile.FieldType), Jvm.Cond.code yM38 jdk_38_method_7_code (1 : Nat) (Option.some (Jvm.ClassFile.FieldType.array (Jvm.ClassFile.FieldType.object "java/lang/Object"))), Jvm.Cond.code yM37 jdk_38_method_6_code (4 : Nat) (Option.some (Jvm.ClassFile.FieldType.array (Jvm.ClassFile.FieldType.object "java/lang/Object"))), Jvm.Cond.code yM13 jdk_29_method_65_code (2 : Nat) (Option.some Jvm.ClassFile.FieldType.int), Jvm.Cond.code yM80 prog_11_method_5_code (4 : Nat) (Option.some (Jvm.ClassFile.FieldType.object "java/util/List")), Jvm.Cond.code yM33 jdk_38_method_20_code (2 : Nat) (Option.some (Jvm.ClassFile.FieldType.object "java/lang/Object")), Jvm.Cond.code yM32 jdk_31_method_17_code (2 : Nat) (Option.some Jvm.ClassFile.FieldType.int), Jvm.Cond.code yM31 jdk_41_method_11_code (3 : Nat) (Option.some Jvm.ClassFile.FieldType.int), Jvm.Cond.code yM30 jdk_38_method_18_code (2 : Nat) (Option.some (Jvm.ClassFile.FieldType.object "java/lang/Object")), Jvm.Cond.code yM78 prog_11_method_14_code (2 : Nat) (Option.some (Jvm.ClassFile.FieldType.object "java/util/List")), Jvm.Cond.code yM23 jdk_40_method_37_code (1 : Nat) (Option.some (Jvm.ClassFile.FieldType.object "java/util/List")), Jvm.Cond.code yM10 jdk_44_method_1_code (2 : Nat) (Option.none : Option Jvm.ClassFile.FieldType), Jvm.Cond.code yM19 jdk_44_method_10_code (1 : Nat) (Option.some (Jvm.ClassFile.FieldType.array (Jvm.ClassFile.FieldType.object "java/lang/Object"))), Jvm.Cond.code yM28 jdk_38_method_8_code (1 : Nat) (Option.some Jvm.ClassFile.FieldType.int), Jvm.Cond.code yM29 jdk_38_method_9_code (1 : Nat) (Option.some Jvm.ClassFile.FieldType.boolean), Jvm.Cond.code yM34 jdk_38_method_16_code (1 : Nat) (Option.some (Jvm.ClassFile.FieldType.array (Jvm.ClassFile.FieldType.object "java/lang/Object"))), Jvm.Cond.code yM27 jdk_40_method_47_code (2 : Nat) (Option.some (Jvm.ClassFile.FieldType.object "java/util/List")), Jvm.Cond.code yM20 jdk_44_method_3_code (1 : Nat) (Option.some Jvm.ClassFile.FieldType.int), Jvm.Cond.code yM21 jdk_44_method_5_code (2 : Nat) (Option.some (Jvm.ClassFile.FieldType.object "java/lang/Object")), Jvm.Cond.code yM77 prog_11_method_4_code (2 : Nat) (Option.some (Jvm.ClassFile.FieldType.object "com/example/spanfold/spanfold/Input")), Jvm.Cond.code yM36 jdk_48_method_27_code (4 : Nat) (Option.some Jvm.ClassFile.FieldType.int), Jvm.Cond.code yM26 jdk_56_method_4_code (3 : Nat) (Option.some (Jvm.ClassFile.FieldType.object "java/util/List")), Jvm.Cond.code yM17 jdk_45_method_3_code (1 : Nat) (Option.some Jvm.ClassFile.FieldType.int), Jvm.Cond.code yM18 jdk_45_method_4_code (2 : Nat) (Option.some (Jvm.ClassFile.FieldType.object "java/lang/Object")), Jvm.Cond.code yM11 jdk_44_method_2_code (3 : Nat) (Option.none : Option Jvm.ClassFile.FieldType)]
set_option maxRecDepth 65536 in
theorem codes_eq : words1.filter isCode = codes1 := rfl
theorem w_codes : ∀ c ∈ words1.filter isCode, c.before args0 about1 = true := by
  rw [codes_eq]
  intro c hc
  simp only [codes1, List.mem_cons, List.not_mem_nil, or_false] at hc
  rcases hc with rfl | rfl | rfl | rfl | rfl | rfl | rfl | rfl | rfl | rfl | rfl | rfl | rfl | rfl | rfl | rfl | rfl | rfl | rfl | rfl | rfl | rfl | rfl | rfl | rfl | rfl | rfl | rfl | rfl | rfl | rfl | rfl | rfl | rfl | rfl | rfl | rfl | rfl | rfl | rfl | rfl | rfl | rfl | rfl | rfl | rfl | rfl | rfl | rfl | rfl | rfl | rfl | rfl | rfl | rfl | rfl | rfl | rfl | rfl | rfl | rfl | rfl | rfl | rfl | rfl | rfl | rfl | rfl | rfl | rfl | rfl | rfl | rfl | rfl | rfl | rfl | rfl | rfl | rfl | rfl | rfl | rfl | rfl
  · exact w_c0
  · exact w_c1
  · exact w_c2
  · exact w_c3
  · exact w_c4
  · exact w_c5
  · exact w_c6
  · exact w_c7
  · exact w_c8
  · exact w_c9
  · exact w_c10
  · exact w_c11
  · exact w_c12
  · exact w_c13
  · exact w_c14
  · exact w_c15
  · exact w_c16
  · exact w_c17
  · exact w_c18
  · exact w_c19
  · exact w_c20
  · exact w_c21
  · exact w_c22
  · exact w_c23
  · exact w_c24
  · exact w_c25
  · exact w_c26
  · exact w_c27
  · exact w_c28
  · exact w_c29
  · exact w_c30
  · exact w_c31
  · exact w_c32
  · exact w_c33
  · exact w_c34
  · exact w_c35
  · exact w_c36
  · exact w_c37
  · exact w_c38
  · exact w_c39
  · exact w_c40
  · exact w_c41
  · exact w_c42
  · exact w_c43
  · exact w_c44
  · exact w_c45
  · exact w_c46
  · exact w_c47
  · exact w_c48
  · exact w_c49
  · exact w_c50
  · exact w_c51
  · exact w_c52
  · exact w_c53
  · exact w_c54
  · exact w_c55
  · exact w_c56
  · exact w_c57
  · exact w_c58
  · exact w_c59
  · exact w_c60
  · exact w_c61
  · exact w_c62
  · exact w_c63
  · exact w_c64
  · exact w_c65
  · exact w_c66
  · exact w_c67
  · exact w_c68
  · exact w_c69
  · exact w_c70
  · exact w_c71
  · exact w_c72
  · exact w_c73
  · exact w_c74
  · exact w_c75
  · exact w_c76
  · exact w_c77
  · exact w_c78
  · exact w_c79
  · exact w_c80
  · exact w_c81
  · exact w_c82
set_option maxRecDepth 65536 in
theorem w_t1 : (words1.take 24).all (fun c => isCode c || c.before args0 about1) = true := by decide +kernel
set_option maxRecDepth 65536 in
theorem w_t2 : ((words1.drop 24).take 24).all (fun c => isCode c || c.before args0 about1) = true := by decide +kernel
set_option maxRecDepth 65536 in
theorem w_t3 : (((words1.drop 24).drop 24).take 24).all (fun c => isCode c || c.before args0 about1) = true := by decide +kernel
set_option maxRecDepth 65536 in
theorem w_t4 : ((((words1.drop 24).drop 24).drop 24).take 24).all (fun c => isCode c || c.before args0 about1) = true := by decide +kernel
set_option maxRecDepth 65536 in
theorem w_t5 : (((((words1.drop 24).drop 24).drop 24).drop 24).take 24).all (fun c => isCode c || c.before args0 about1) = true := by decide +kernel
set_option maxRecDepth 65536 in
theorem w_t6 : ((((((words1.drop 24).drop 24).drop 24).drop 24).drop 24).take 24).all (fun c => isCode c || c.before args0 about1) = true := by decide +kernel
set_option maxRecDepth 65536 in
theorem w_t7 : (((((((words1.drop 24).drop 24).drop 24).drop 24).drop 24).drop 24).take 24).all (fun c => isCode c || c.before args0 about1) = true := by decide +kernel
set_option maxRecDepth 65536 in
theorem w_t8 : ((((((((words1.drop 24).drop 24).drop 24).drop 24).drop 24).drop 24).drop 24).take 24).all (fun c => isCode c || c.before args0 about1) = true := by decide +kernel
set_option maxRecDepth 65536 in
theorem w_t9 : (((((((((words1.drop 24).drop 24).drop 24).drop 24).drop 24).drop 24).drop 24).drop 24).take 24).all (fun c => isCode c || c.before args0 about1) = true := by decide +kernel
set_option maxRecDepth 65536 in
theorem w_t10 : ((((((((((words1.drop 24).drop 24).drop 24).drop 24).drop 24).drop 24).drop 24).drop 24).drop 24).take 24).all (fun c => isCode c || c.before args0 about1) = true := by decide +kernel
set_option maxRecDepth 65536 in
theorem w_t11 : (((((((((((words1.drop 24).drop 24).drop 24).drop 24).drop 24).drop 24).drop 24).drop 24).drop 24).drop 24).take 24).all (fun c => isCode c || c.before args0 about1) = true := by decide +kernel
set_option maxRecDepth 65536 in
theorem w_t12 : ((((((((((((words1.drop 24).drop 24).drop 24).drop 24).drop 24).drop 24).drop 24).drop 24).drop 24).drop 24).drop 24).take 24).all (fun c => isCode c || c.before args0 about1) = true := by decide +kernel
set_option maxRecDepth 65536 in
theorem w_t13 : (((((((((((((words1.drop 24).drop 24).drop 24).drop 24).drop 24).drop 24).drop 24).drop 24).drop 24).drop 24).drop 24).drop 24).take 24).all (fun c => isCode c || c.before args0 about1) = true := by decide +kernel
set_option maxRecDepth 65536 in
theorem w_t14 : ((((((((((((((words1.drop 24).drop 24).drop 24).drop 24).drop 24).drop 24).drop 24).drop 24).drop 24).drop 24).drop 24).drop 24).drop 24).take 24).all (fun c => isCode c || c.before args0 about1) = true := by decide +kernel
set_option maxRecDepth 65536 in
theorem w_t15 : (((((((((((((((words1.drop 24).drop 24).drop 24).drop 24).drop 24).drop 24).drop 24).drop 24).drop 24).drop 24).drop 24).drop 24).drop 24).drop 24).take 24).all (fun c => isCode c || c.before args0 about1) = true := by decide +kernel
set_option maxRecDepth 65536 in
theorem w_t16 : ((((((((((((((((words1.drop 24).drop 24).drop 24).drop 24).drop 24).drop 24).drop 24).drop 24).drop 24).drop 24).drop 24).drop 24).drop 24).drop 24).drop 24).take 24).all (fun c => isCode c || c.before args0 about1) = true := by decide +kernel
set_option maxRecDepth 65536 in
theorem w_t17 : (((((((((((((((((words1.drop 24).drop 24).drop 24).drop 24).drop 24).drop 24).drop 24).drop 24).drop 24).drop 24).drop 24).drop 24).drop 24).drop 24).drop 24).drop 24).take 24).all (fun c => isCode c || c.before args0 about1) = true := by decide +kernel
set_option maxRecDepth 65536 in
theorem w_t18 : ((((((((((((((((((words1.drop 24).drop 24).drop 24).drop 24).drop 24).drop 24).drop 24).drop 24).drop 24).drop 24).drop 24).drop 24).drop 24).drop 24).drop 24).drop 24).drop 24).take 24).all (fun c => isCode c || c.before args0 about1) = true := by decide +kernel
set_option maxRecDepth 65536 in
theorem w_t19 : (((((((((((((((((((words1.drop 24).drop 24).drop 24).drop 24).drop 24).drop 24).drop 24).drop 24).drop 24).drop 24).drop 24).drop 24).drop 24).drop 24).drop 24).drop 24).drop 24).drop 24).take 24).all (fun c => isCode c || c.before args0 about1) = true := by decide +kernel
set_option maxRecDepth 65536 in
theorem w_t20 : ((((((((((((((((((((words1.drop 24).drop 24).drop 24).drop 24).drop 24).drop 24).drop 24).drop 24).drop 24).drop 24).drop 24).drop 24).drop 24).drop 24).drop 24).drop 24).drop 24).drop 24).drop 24).take 24).all (fun c => isCode c || c.before args0 about1) = true := by decide +kernel
set_option maxRecDepth 65536 in
theorem w_t21 : (((((((((((((((((((((words1.drop 24).drop 24).drop 24).drop 24).drop 24).drop 24).drop 24).drop 24).drop 24).drop 24).drop 24).drop 24).drop 24).drop 24).drop 24).drop 24).drop 24).drop 24).drop 24).drop 24).take 24).all (fun c => isCode c || c.before args0 about1) = true := by decide +kernel
set_option maxRecDepth 65536 in
theorem w_t22 : ((((((((((((((((((((((words1.drop 24).drop 24).drop 24).drop 24).drop 24).drop 24).drop 24).drop 24).drop 24).drop 24).drop 24).drop 24).drop 24).drop 24).drop 24).drop 24).drop 24).drop 24).drop 24).drop 24).drop 24).take 24).all (fun c => isCode c || c.before args0 about1) = true := by decide +kernel
set_option maxRecDepth 65536 in
theorem w_t23 : ((((((((((((((((((((((words1.drop 24).drop 24).drop 24).drop 24).drop 24).drop 24).drop 24).drop 24).drop 24).drop 24).drop 24).drop 24).drop 24).drop 24).drop 24).drop 24).drop 24).drop 24).drop 24).drop 24).drop 24).drop 24).all (fun c => isCode c || c.before args0 about1) = true := by decide +kernel
theorem w_tables : (allAtoms (Jvm.Cond.code x code maxLocals ret :: tables_1)).before args0 about1 = true := by
  rw [allAtoms_all]
  show words1.all (fun c => c.before args0 about1) = true
  refine all_split ?_ w_codes
  rw [← List.take_append_drop 24 words1, List.all_append, w_t1, ← List.take_append_drop 24 (words1.drop 24), List.all_append, w_t2, ← List.take_append_drop 24 ((words1.drop 24).drop 24), List.all_append, w_t3, ← List.take_append_drop 24 (((words1.drop 24).drop 24).drop 24), List.all_append, w_t4, ← List.take_append_drop 24 ((((words1.drop 24).drop 24).drop 24).drop 24), List.all_append, w_t5, ← List.take_append_drop 24 (((((words1.drop 24).drop 24).drop 24).drop 24).drop 24), List.all_append, w_t6, ← List.take_append_drop 24 ((((((words1.drop 24).drop 24).drop 24).drop 24).drop 24).drop 24), List.all_append, w_t7, ← List.take_append_drop 24 (((((((words1.drop 24).drop 24).drop 24).drop 24).drop 24).drop 24).drop 24), List.all_append, w_t8, ← List.take_append_drop 24 ((((((((words1.drop 24).drop 24).drop 24).drop 24).drop 24).drop 24).drop 24).drop 24), List.all_append, w_t9, ← List.take_append_drop 24 (((((((((words1.drop 24).drop 24).drop 24).drop 24).drop 24).drop 24).drop 24).drop 24).drop 24), List.all_append, w_t10, ← List.take_append_drop 24 ((((((((((words1.drop 24).drop 24).drop 24).drop 24).drop 24).drop 24).drop 24).drop 24).drop 24).drop 24), List.all_append, w_t11, ← List.take_append_drop 24 (((((((((((words1.drop 24).drop 24).drop 24).drop 24).drop 24).drop 24).drop 24).drop 24).drop 24).drop 24).drop 24), List.all_append, w_t12, ← List.take_append_drop 24 ((((((((((((words1.drop 24).drop 24).drop 24).drop 24).drop 24).drop 24).drop 24).drop 24).drop 24).drop 24).drop 24).drop 24), List.all_append, w_t13, ← List.take_append_drop 24 (((((((((((((words1.drop 24).drop 24).drop 24).drop 24).drop 24).drop 24).drop 24).drop 24).drop 24).drop 24).drop 24).drop 24).drop 24), List.all_append, w_t14, ← List.take_append_drop 24 ((((((((((((((words1.drop 24).drop 24).drop 24).drop 24).drop 24).drop 24).drop 24).drop 24).drop 24).drop 24).drop 24).drop 24).drop 24).drop 24), List.all_append, w_t15, ← List.take_append_drop 24 (((((((((((((((words1.drop 24).drop 24).drop 24).drop 24).drop 24).drop 24).drop 24).drop 24).drop 24).drop 24).drop 24).drop 24).drop 24).drop 24).drop 24), List.all_append, w_t16, ← List.take_append_drop 24 ((((((((((((((((words1.drop 24).drop 24).drop 24).drop 24).drop 24).drop 24).drop 24).drop 24).drop 24).drop 24).drop 24).drop 24).drop 24).drop 24).drop 24).drop 24), List.all_append, w_t17, ← List.take_append_drop 24 (((((((((((((((((words1.drop 24).drop 24).drop 24).drop 24).drop 24).drop 24).drop 24).drop 24).drop 24).drop 24).drop 24).drop 24).drop 24).drop 24).drop 24).drop 24).drop 24), List.all_append, w_t18, ← List.take_append_drop 24 ((((((((((((((((((words1.drop 24).drop 24).drop 24).drop 24).drop 24).drop 24).drop 24).drop 24).drop 24).drop 24).drop 24).drop 24).drop 24).drop 24).drop 24).drop 24).drop 24).drop 24), List.all_append, w_t19, ← List.take_append_drop 24 (((((((((((((((((((words1.drop 24).drop 24).drop 24).drop 24).drop 24).drop 24).drop 24).drop 24).drop 24).drop 24).drop 24).drop 24).drop 24).drop 24).drop 24).drop 24).drop 24).drop 24).drop 24), List.all_append, w_t20, ← List.take_append_drop 24 ((((((((((((((((((((words1.drop 24).drop 24).drop 24).drop 24).drop 24).drop 24).drop 24).drop 24).drop 24).drop 24).drop 24).drop 24).drop 24).drop 24).drop 24).drop 24).drop 24).drop 24).drop 24).drop 24), List.all_append, w_t21, ← List.take_append_drop 24 (((((((((((((((((((((words1.drop 24).drop 24).drop 24).drop 24).drop 24).drop 24).drop 24).drop 24).drop 24).drop 24).drop 24).drop 24).drop 24).drop 24).drop 24).drop 24).drop 24).drop 24).drop 24).drop 24).drop 24), List.all_append, w_t22, w_t23]
  rfl
set_option maxRecDepth 65536 in
theorem w_rest : rest_1_c.before args0 about1 = true := by decide +kernel
set_option maxRecDepth 65536 in
theorem w_case : (Jvm.Cond.and given_1 narrow_1).before args0 about1 = true := by decide +kernel
theorem w_applies : (headSpec (Jvm.Cond.code x code maxLocals ret :: tables_1) room_1).applies x e0.platform about1 = true :=
  (Spec.applies_iff w_frames).mpr ⟨w_running, w_runnable, w_alone, w_named, w_hears, w_ripe, w_room, w_tables⟩
theorem atStart : AtStart classFile x code maxLocals ret World_1 tables_1 room_1 Calls_1 rest_1 Pre_1 launch0 p0 e0 about1 theMethod args0 below0 :=
  ⟨lists_1, trivial, launch0.admits_env _ _ _, launch0.least_env, fairChoices_fair.cas, fairChoices_fair.clock, w_frames, w_args, w_heap, w_applies, ⟨⟨49, k49, 5, by decide +kernel, rfl, rfl, _, rfl, rfl⟩, ⟨⟨23, k23, 6, by decide +kernel, rfl, rfl, _, rfl, rfl⟩, ⟨⟨26, k26, 7, by decide +kernel, rfl, rfl, _, rfl, rfl⟩, ⟨⟨22, k22, 8, by decide +kernel, rfl, rfl, _, rfl, rfl⟩, trivial⟩⟩⟩⟩, w_rest, w_case⟩
end start1
theorem witness_1 : WitnessClaimed_1 := ⟨start1.p0, start1.e0, start1.about1, start1.theMethod, start1.args0, start1.below0, start1.atStart⟩
end Jvm.Pilot.@@N@@
