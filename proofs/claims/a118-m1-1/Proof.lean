import JvmDerived
import JvmDerived.Pilot.@@N@@Statement
import JvmDerived.Pilot.@@N@@Code
set_option linter.unusedVariables false
set_option linter.unusedSimpArgs false
namespace Jvm.RoadKit
open Sem ClassFile Op Lib Jvm.Stand Jvm.Free Jvm.LawKit
section New
variable {p : Program} {l : Launch} {e : Env} {R : Room} {s : State} {m : MethodId} {args : Array Value} {below : List Frame} {meth : Method} {c : Code} {T : State} {locs : List Loc} {cells slots : Nat}
theorem retI (X : Stand p l e R s m args below meth c T locs cells slots) (hx : p.tables.exec = Jvm.exec) {pc : Nat} {Ls : Array Slot} {z : Int32} {rest : List Value} (hret : meth.sig.returnType = some .int) (hd : decode c.code pc = .ok (.ireturn, 1)) {fs : List Frame}
    (hl : ∀ (f : JFrame) (acts : List Action), f.method = m → f.locked = none → f.entered = [] → (doReturn e (T.setTop f) acts (some (.int z))).1 = T.setFrames fs) : Steps p.tables e below (T.setTop (mkF m pc Ls (.int z :: rest))) (T.setFrames fs) := by
  have hm' : T.vm.method? m = some meth := X.method'
  have hn : narrow .int (.int z) = .int z := rfl
  show Steps p.tables e below (T.setTop { method := m, pc := pc, locals := Ls, stack := _ :: rest, locked := none }) _
  jvm_step X.here [X.here.top, hx, hd, hm', hret, hn]
  first | (intro acts; rw [hl _ acts rfl rfl rfl]) | rw [hl _ _ rfl rfl rfl]
  exact Steps.refl _
end New
end Jvm.RoadKit
namespace Jvm.Pilot.@@N@@
open Jvm Jvm.ClassFile Sem Op Lib Jvm.Free Jvm.Stand Jvm.LawKit Jvm.RoadKit Bundle Jvm.Pilot.@@N@@.Jvm.D
theorem own_w {a0 : Array Value} {Z : State} (hw : ∀ d ∈ tables_1, d.before a0 Z = true) {d : Jvm.Cond} (i : Nat) (h : tables_1[i]? = some d) : d.before a0 Z = true := hw d (List.mem_of_getElem? h)
section Calls
variable {p : Program} {l : Launch} {e : Env} {R : Room} {s : State} {m : MethodId} {args : Array Value} {below : List Frame} {meth : Method} {c : Code} {T : State} {locs : List Loc} {cells slots : Nat} {Z : State} {a0 : Array Value} {h : Heap}
variable {own C : String} {index : Nat} {y z : MethodName} {bytes : ByteArray} {maxL : Nat} {ret : Option FieldType} {rm : Room} {a : Addr} {Q : Option Value → Heap → List Loc → Prop} {argsL rest : List Value} {g : JFrame}
theorem own_vb (X : Stand p l e R s m args below meth c T locs cells slots) (hx : p.tables.exec = Jvm.exec) (hZ : Z.Warmed39 s.vm) (hown : s.vm.findClass own = some m.cls)
    (w1 : (Cond.methodLink own index y).before a0 Z = true) (w2 : (Cond.declares y).before a0 Z = true) (w3 : (Cond.selects C y y).before a0 Z = true) (w4 : (Cond.instanceMethod y).before a0 Z = true) (wc : (Cond.code y bytes maxL ret).before a0 Z = true) (wz : (Cond.initialized y.cls).before a0 Z = true)
    (eT : T.heap = h) (E : Exa Z h a C)
    (hM : MetFree l y (head1 [Cond.code y bytes maxL ret] rm) (fun a' U => a' = (Value.ref a :: argsL).toArray ∧ Z.Warmed39 U.vm ∧ U.heap = h) (fun _ _ _ _ _ => True) (fun _ U o U' => ∃ v L, o = .returned v ∧ Q v U'.heap L ∧ FrameEnd U o U' L rm.cells rm.slots))
    (hg : g.method = m) (hml : g.locals.size = c.maxLocals) (hs : g.stack = argsL.reverse ++ .ref a :: rest) (hd : decode c.code g.pc = .ok (.invokevirtual index, 3)) (hlen : ∀ sig, parseMethodDescriptor y.desc = some sig → argsL.length = sig.parameters.length)
    {W : Nat} {c1 s1 : Nat} (h1 : cells + rm.cells = c1 := by rfl) (h2 : slots + rm.slots = s1 := by rfl) (hW : 2 * g.monitorRoom + (rest.map fun v => v.category).sum ≤ W := by show 2 * 0 + _ ≤ _; exact Nat.le_of_eq rfl) (hf : rm.frames + 1 ≤ R.frames := by decide) (hl : W + (maxL + 11) + rm.locals ≤ R.locals := by decide) (hc : c1 ≤ R.cells := by decide) (hsl : s1 ≤ R.slots := by decide) (hy : y.cls ≠ "java/lang/invoke/MethodHandle" ∧ y.cls ≠ "java/lang/invoke/VarHandle" := by decide) :
    ∃ v T' L, Stand p l e R s m args below meth c T' (locs ++ L) c1 s1 ∧ Q v T'.heap L ∧ ∀ target, Steps p.tables e below (T'.setTop { g with pc := g.pc + 3, stack := v.toList ++ rest }) target → Steps p.tables e below (T.setTop g) target := by
  subst h1 h2
  obtain ⟨cB, kB, q1, q2, q3⟩ := isOf hZ eT E
  obtain ⟨v, _, ⟨T', L', k', n'⟩, -, X', ⟨L, hQ, l1, y1, z1⟩, st⟩ := X.virtualBack hx (y := y) (z := y) hown (mvT hZ w1) (mvT hZ w2) (notFace_of_selects (args := #[]) (mvT hZ w3)) (mvT hZ w3) (mvT hZ w4) hy (backOf (W := W) hM hZ wc wz hf hl) q1 q3 hg hml (Steps.refl _) hlen hs hW hd (fun _ _ => ⟨rfl, eT, hc, hsl⟩)
  dsimp only [Pt.U, Pt.locs, Pt.cells, Pt.slots] at X' l1 y1 z1 st hQ
  subst l1 y1 z1
  exact ⟨v, T', L, X', hQ, fun t k => st.trans k⟩
theorem own_vu {owner : String} (X : Stand p l e R s m args below meth c T locs cells slots) (hx : p.tables.exec = Jvm.exec) (hZ : Z.Warmed39 s.vm) (hown : s.vm.findClass own = some m.cls)
    (w1 : (Cond.methodLink own index z).before a0 Z = true) (w2 : (Cond.sameMethod z.cls owner z.name z.desc).before a0 Z = true) (w2' : (Cond.declares ⟨owner, z.name, z.desc⟩).before a0 Z = true) (w3 : (Cond.selects C z y).before a0 Z = true) (w4 : (Cond.instanceMethod y).before a0 Z = true) (wc : (Cond.code y bytes maxL ret).before a0 Z = true) (wz : (Cond.initialized y.cls).before a0 Z = true)
    (eT : T.heap = h) (E : Exa Z h a C)
    (hM : MetFree l y (head1 [Cond.code y bytes maxL ret] rm) (fun a' U => a' = (Value.ref a :: argsL).toArray ∧ Z.Warmed39 U.vm ∧ U.heap = h) (fun _ _ _ _ _ => True) (fun _ U o U' => ∃ v L, o = .returned v ∧ Q v U'.heap L ∧ FrameEnd U o U' L rm.cells rm.slots))
    (hg : g.method = m) (hml : g.locals.size = c.maxLocals) (hs : g.stack = argsL.reverse ++ .ref a :: rest) (hd : decode c.code g.pc = .ok (.invokevirtual index, 3)) (hlen : ∀ sig, parseMethodDescriptor z.desc = some sig → argsL.length = sig.parameters.length)
    {W : Nat} {c1 s1 : Nat} (h1 : cells + rm.cells = c1 := by rfl) (h2 : slots + rm.slots = s1 := by rfl) (hW : 2 * g.monitorRoom + (rest.map fun v => v.category).sum ≤ W := by show 2 * 0 + _ ≤ _; exact Nat.le_of_eq rfl) (hf : rm.frames + 1 ≤ R.frames := by decide) (hl : W + (maxL + 11) + rm.locals ≤ R.locals := by decide) (hc : c1 ≤ R.cells := by decide) (hsl : s1 ≤ R.slots := by decide) (hy : owner ≠ "java/lang/invoke/MethodHandle" ∧ owner ≠ "java/lang/invoke/VarHandle" := by decide) :
    ∃ v T' L, Stand p l e R s m args below meth c T' (locs ++ L) c1 s1 ∧ Q v T'.heap L ∧ ∀ target, Steps p.tables e below (T'.setTop { g with pc := g.pc + 3, stack := v.toList ++ rest }) target → Steps p.tables e below (T.setTop g) target := by
  subst h1 h2
  obtain ⟨cB, kB, q1, q2, q3⟩ := isOf hZ eT E
  obtain ⟨v, _, ⟨T', L', k', n'⟩, -, X', ⟨L, hQ, l1, y1, z1⟩, st⟩ := X.virtualBackUp hx (x := z) (y := y) (owner := owner) hown (mvT hZ w1) (mvT hZ w2) (mvT hZ w2') hy (mvT hZ w3) (mvT hZ w4) (backOf (W := W) hM hZ wc wz hf hl) q1 q3 hg hml (Steps.refl _) hlen hs hW hd (fun _ _ => ⟨rfl, eT, hc, hsl⟩)
  dsimp only [Pt.U, Pt.locs, Pt.cells, Pt.slots] at X' l1 y1 z1 st hQ
  subst l1 y1 z1
  exact ⟨v, T', L, X', hQ, fun t k => st.trans k⟩
theorem own_sb (X : Stand p l e R s m args below meth c T locs cells slots) (hx : p.tables.exec = Jvm.exec) (hZ : Z.Warmed39 s.vm) (hown : s.vm.findClass own = some m.cls)
    (w1 : (Cond.methodLink own index y).before a0 Z = true) (w4 : (Cond.instanceMethod y).before a0 Z = true) (wc : (Cond.code y bytes maxL none).before a0 Z = true) (wz : (Cond.initialized y.cls).before a0 Z = true)
    (eT : T.heap = h)
    (hM : MetFree l y (head1 [Cond.code y bytes maxL none] rm) (fun a' U => a' = (Value.ref a :: argsL).toArray ∧ Z.Warmed39 U.vm ∧ U.heap = h) (fun _ _ _ _ _ => True) (fun _ U o U' => ∃ v L, o = .returned v ∧ Q v U'.heap L ∧ FrameEnd U o U' L rm.cells rm.slots))
    (hg : g.method = m) (hml : g.locals.size = c.maxLocals) (hs : g.stack = argsL.reverse ++ .ref a :: rest) (hd : decode c.code g.pc = .ok (.invokespecial index, 3)) (hlen : ∀ sig, parseMethodDescriptor y.desc = some sig → argsL.length = sig.parameters.length)
    {W : Nat} {c1 s1 : Nat} (hn : y.name = "<init>" := by rfl) (h1 : cells + rm.cells = c1 := by rfl) (h2 : slots + rm.slots = s1 := by rfl) (hW : 2 * g.monitorRoom + (rest.map fun v => v.category).sum ≤ W := by show 2 * 0 + _ ≤ _; exact Nat.le_of_eq rfl) (hf : rm.frames + 1 ≤ R.frames := by decide) (hl : W + (maxL + 11) + rm.locals ≤ R.locals := by decide) (hc : c1 ≤ R.cells := by decide) (hsl : s1 ≤ R.slots := by decide) (hy : y.cls ≠ "java/lang/invoke/MethodHandle" ∧ y.cls ≠ "java/lang/invoke/VarHandle" := by decide) :
    ∃ v T' L, Stand p l e R s m args below meth c T' (locs ++ L) c1 s1 ∧ Q v T'.heap L ∧ ∀ target, Steps p.tables e below (T'.setTop { g with pc := g.pc + 3, stack := v.toList ++ rest }) target → Steps p.tables e below (T.setTop g) target := by
  subst h1 h2
  obtain ⟨v, _, ⟨T', L', k', n'⟩, -, X', ⟨L, hQ, l1, y1, z1⟩, st⟩ := X.specialBack hx (y := y) hn hown (mvT hZ w1) (mvT hZ w4) (mvT hZ wc) hy (backOf (W := W) hM hZ wc wz hf hl) hg hml (Steps.refl _) hlen hs hW hd (fun _ _ => ⟨rfl, eT, hc, hsl⟩)
  dsimp only [Pt.U, Pt.locs, Pt.cells, Pt.slots] at X' l1 y1 z1 st hQ
  subst l1 y1 z1
  exact ⟨v, T', L, X', hQ, fun t k => st.trans k⟩
theorem own_cs (X : Stand p l e R s m args below meth c T locs cells slots) (hx : p.tables.exec = Jvm.exec) (hZ : Z.Warmed39 s.vm) (hown : s.vm.findClass own = some m.cls)
    (w1 : (Cond.methodLink own index y).before a0 Z = true) (w4 : (Cond.static y).before a0 Z = true) (wc : (Cond.code y bytes maxL ret).before a0 Z = true) (wz : (Cond.initialized y.cls).before a0 Z = true)
    (eT : T.heap = h)
    (hM : MetFree l y (head1 [Cond.code y bytes maxL ret] rm) (fun a' U => a' = argsL.toArray ∧ Z.Warmed39 U.vm ∧ U.heap = h) (fun _ _ _ _ _ => True) (fun _ U o U' => ∃ v L, o = .returned v ∧ Q v U'.heap L ∧ FrameEnd U o U' L rm.cells rm.slots))
    (hg : g.method = m) (hml : g.locals.size = c.maxLocals) (hs : g.stack = argsL.reverse ++ rest) (hd : decode c.code g.pc = .ok (.invokestatic index, 3)) (hlen : ∀ sig, parseMethodDescriptor y.desc = some sig → argsL.length = sig.parameters.length)
    {W : Nat} {c1 s1 : Nat} (h1 : cells + rm.cells = c1 := by rfl) (h2 : slots + rm.slots = s1 := by rfl) (hW : 2 * g.monitorRoom + (rest.map fun v => v.category).sum ≤ W := by show 2 * 0 + _ ≤ _; exact Nat.le_of_eq rfl) (hf : rm.frames + 1 ≤ R.frames := by decide) (hl : W + (maxL + 11) + rm.locals ≤ R.locals := by decide) (hc : c1 ≤ R.cells := by decide) (hsl : s1 ≤ R.slots := by decide) (hy : y.cls ≠ "java/lang/invoke/MethodHandle" ∧ y.cls ≠ "java/lang/invoke/VarHandle" := by decide) :
    ∃ v T' L, Stand p l e R s m args below meth c T' (locs ++ L) c1 s1 ∧ Q v T'.heap L ∧ ∀ target, Steps p.tables e below (T'.setTop { g with pc := g.pc + 3, stack := v.toList ++ rest }) target → Steps p.tables e below (T.setTop g) target := by
  subst h1 h2
  obtain ⟨v, _, ⟨T', L', k', n'⟩, -, X', ⟨L, hQ, l1, y1, z1⟩, st⟩ := Jvm.LawKit.callS X hx (y := y) hown (mvT hZ w1) (mvT hZ w4) (mvT hZ wz) (mvT hZ wc) hy (backOf (W := W) hM hZ wc wz hf hl) hg hml hlen hs hW hd (fun _ _ => ⟨rfl, eT, hc, hsl⟩)
  dsimp only [Pt.U, Pt.locs, Pt.cells, Pt.slots] at X' l1 y1 z1 st hQ
  subst l1 y1 z1
  exact ⟨v, T', L, X', hQ, st⟩
theorem own_pb (X : Stand p l e R s m args below meth c T locs cells slots) (hx : p.tables.exec = Jvm.exec) (hZ : Z.Warmed39 s.vm) (hown : s.vm.findClass own = some m.cls)
    (w1 : (Cond.methodLink own index y).before a0 Z = true) (w4 : (Cond.instanceMethod y).before a0 Z = true) (w3 : (Cond.selects y.cls y y).before args s = true) (wp : (Cond.privateMethod y).before a0 Z = true) (wc : (Cond.code y bytes maxL ret).before a0 Z = true) (wz : (Cond.initialized y.cls).before a0 Z = true)
    (eT : T.heap = h) (E : Exa Z h a C)
    (hM : MetFree l y (head1 [Cond.code y bytes maxL ret] rm) (fun a' U => a' = (Value.ref a :: argsL).toArray ∧ Z.Warmed39 U.vm ∧ U.heap = h) (fun _ _ _ _ _ => True) (fun _ U o U' => ∃ v L, o = .returned v ∧ Q v U'.heap L ∧ FrameEnd U o U' L rm.cells rm.slots))
    (hg : g.method = m) (hml : g.locals.size = c.maxLocals) (hs : g.stack = argsL.reverse ++ .ref a :: rest) (hd : decode c.code g.pc = .ok (.invokevirtual index, 3)) (hlen : ∀ sig, parseMethodDescriptor y.desc = some sig → argsL.length = sig.parameters.length)
    {W : Nat} {c1 s1 : Nat} (h1 : cells + rm.cells = c1 := by rfl) (h2 : slots + rm.slots = s1 := by rfl) (hW : 2 * g.monitorRoom + (rest.map fun v => v.category).sum ≤ W := by show 2 * 0 + _ ≤ _; exact Nat.le_of_eq rfl) (hf : rm.frames + 1 ≤ R.frames := by decide) (hl : W + (maxL + 11) + rm.locals ≤ R.locals := by decide) (hc : c1 ≤ R.cells := by decide) (hsl : s1 ≤ R.slots := by decide) (hy : y.cls ≠ "java/lang/invoke/MethodHandle" ∧ y.cls ≠ "java/lang/invoke/VarHandle" := by decide) :
    ∃ v T' L, Stand p l e R s m args below meth c T' (locs ++ L) c1 s1 ∧ Q v T'.heap L ∧ ∀ target, Steps p.tables e below (T'.setTop { g with pc := g.pc + 3, stack := v.toList ++ rest }) target → Steps p.tables e below (T.setTop g) target := by
  subst h1 h2
  obtain ⟨cq, q1, q2⟩ := E.cell
  obtain ⟨v, _, ⟨T', L', k', n'⟩, -, X', ⟨L, hQ, l1, y1, z1⟩, st⟩ := X.privateBack hx (y := y) hown (mvT hZ w1) (mvT hZ w4) w3 (Cond.privateMethod_at (mvP hZ wp (args := #[]))) (mvT hZ wc) hy (backOf (W := W) hM hZ wc wz hf hl) hg hml (Steps.refl _) (a := a) (by rw [eT]; exact q1) q2 hlen hs hW hd (fun _ _ => ⟨rfl, eT, hc, hsl⟩)
  dsimp only [Pt.U, Pt.locs, Pt.cells, Pt.slots] at X' l1 y1 z1 st hQ
  subst l1 y1 z1
  exact ⟨v, T', L, X', hQ, fun t k => st.trans k⟩
theorem own_sr (X : Stand p l e R s m args below meth c T locs cells slots) (hx : p.tables.exec = Jvm.exec) (hZ : Z.Warmed39 s.vm) (hown : s.vm.findClass own = some m.cls)
    (w1 : (Cond.methodRef own index y).before a0 Z = true) (w4 : (Cond.instanceMethod y).before a0 Z = true) (wc : (Cond.code y bytes maxL none).before a0 Z = true) (wz : (Cond.initialized y.cls).before a0 Z = true)
    (eT : T.heap = h)
    (hM : MetFree l y (head1 [Cond.code y bytes maxL none] rm) (fun a' U => a' = (Value.ref a :: argsL).toArray ∧ Z.Warmed39 U.vm ∧ U.heap = h) (fun _ _ _ _ _ => True) (fun _ U o U' => ∃ v L, o = .returned v ∧ Q v U'.heap L ∧ FrameEnd U o U' L rm.cells rm.slots))
    (hg : g.method = m) (hml : g.locals.size = c.maxLocals) (hs : g.stack = argsL.reverse ++ .ref a :: rest) (hd : decode c.code g.pc = .ok (.invokespecial index, 3)) (hlen : ∀ sig, parseMethodDescriptor y.desc = some sig → argsL.length = sig.parameters.length)
    {W : Nat} {c1 s1 : Nat} (hn : y.name = "<init>" := by rfl) (h1 : cells + rm.cells = c1 := by rfl) (h2 : slots + rm.slots = s1 := by rfl) (hW : 2 * g.monitorRoom + (rest.map fun v => v.category).sum ≤ W := by show 2 * 0 + _ ≤ _; exact Nat.le_of_eq rfl) (hf : rm.frames + 1 ≤ R.frames := by decide) (hl : W + (maxL + 11) + rm.locals ≤ R.locals := by decide) (hc : c1 ≤ R.cells := by decide) (hsl : s1 ≤ R.slots := by decide) (hy : y.cls ≠ "java/lang/invoke/MethodHandle" ∧ y.cls ≠ "java/lang/invoke/VarHandle" := by decide) :
    ∃ v T' L, Stand p l e R s m args below meth c T' (locs ++ L) c1 s1 ∧ Q v T'.heap L ∧ ∀ target, Steps p.tables e below (T'.setTop { g with pc := g.pc + 3, stack := v.toList ++ rest }) target → Steps p.tables e below (T.setTop g) target := by
  subst h1 h2
  have hZT : Z.Warmed39 T.vm := wtrans hZ X.warmed
  obtain ⟨oz, mz, nz, -⟩ := Cond.instanceMethod_spec w4
  have r1 : (Cond.methodRef own index y).before a0 (Z.setVm T.vm) = true := Cond.methodRef_warmed39 hZT nz hy w1
  have fT : (Z.setVm T.vm).vm.findClass own = some m.cls := by show T.vm.findClass own = _; rw [X.warmed.alike.findClass]; exact hown
  obtain ⟨m1, c', hm1, hready, hfind, hnames⟩ := Cond.methodRef_named e fT r1
  obtain ⟨obj, methO, hnO, hmO, hstO, habO⟩ := Cond.instanceMethod_spec (mvT (args := args) hZ w4)
  obtain ⟨methO', cO, hmO', hcO, hbO, hlO, -, hlockO, -, hsigO⟩ := Cond.code_spec hnO (mvT (args := args) hZ wc)
  cases hmO.symm.trans hmO'
  have nT : (Z.setVm T.vm).methodNamed? y = some obj := X.named hnO
  obtain rfl : m1 = obj := (Option.some.inj ((State.methodFound?_of_named nT hy).symm.trans hm1)).symm
  have cT : (Z.setVm T.vm).vm.findClass y.cls = some m1.cls := findClass_of_methodNamed nT
  obtain rfl : c' = m1.cls := (Option.some.inj (cT.symm.trans hfind)).symm
  obtain ⟨kO, hkO, hnameO⟩ := className_of_methodNamed nT
  obtain ⟨hnameMO, hdescO⟩ := name_of_methodNamed hnO hmO
  have hmT : T.vm.method? m1 = some methO := by rw [X.warmed.alike.method?]; exact hmO
  have hfound : lookupSpecial T.vm m1.cls "<init>" methO.desc = .method m1 := by
    rw [X.warmed.alike.lookupSpecial, hdescO, ← hn]; exact lookupSpecial_of_named hnO hmO hstO
  have hstep : ∀ target, (∀ acts, Steps p.tables e below (doInvoke e (T.setTop { g with stack := rest }) acts m1 (.ref a :: argsL).toArray).1 target) → Steps p.tables e below (T.setTop g) target := by
    intro target hrest
    subst hg
    jvm_step X.here [hx, hd, invokespecial.wp_init (e := e) (s := T) (k := kO) (meth := methO) (m := m1) (a := a) (args := argsL) (rest := rest) (f := g) X.here.top hnames hready hkO hmT (by rw [hnameMO]; exact hn) hstO habO hfound (hlen _ hsigO) hs]
    exact hrest
  obtain ⟨v, ⟨T', L', k', n'⟩, X', ⟨L, hQ, l1, y1, z1⟩, st⟩ := backOf (len := 3) (W := W) (p := p) (e := e) (below := below) (args := args) (R := R) hM hZ wc wz hf hl m meth c ⟨T, locs, cells, slots⟩ { g with stack := rest } (.invokespecial index) m1 (.ref a :: argsL).toArray X hg hml hd hW (X.named hnO) ⟨rfl, eT, hc, hsl⟩
  dsimp only [Pt.U, Pt.locs, Pt.cells, Pt.slots] at X' l1 y1 z1 st hQ
  subst l1 y1 z1
  exact ⟨v, T', L, X', hQ, fun t k => (hstep _ fun acts => by rw [doInvoke_state]; exact Steps.refl _).trans (st.trans k)⟩
theorem own_ib {count : Nat} (X : Stand p l e R s m args below meth c T locs cells slots) (hx : p.tables.exec = Jvm.exec) (hZ : Z.Warmed39 s.vm) (hown : s.vm.findClass own = some m.cls)
    (w1 : (Cond.methodLink own index z).before a0 Z = true) (w2 : (Cond.declares z).before a0 Z = true) (w5 : (Cond.interfaceMethod z.cls z.cls z.name z.desc).before args s = true) (w3 : (Cond.selects C z y).before a0 Z = true) (w4 : (Cond.instanceMethod y).before a0 Z = true) (w6 : (Cond.publicMethod y).before a0 Z = true) (w7 : (Cond.unhidden C z.name z.desc).before args s = true) (w8 : (Cond.castable C z.cls).before a0 Z = true) (wc : (Cond.code y bytes maxL ret).before a0 Z = true) (wz : (Cond.initialized y.cls).before a0 Z = true)
    (eT : T.heap = h) (E : Exa Z h a C)
    (hM : MetFree l y (head1 [Cond.code y bytes maxL ret] rm) (fun a' U => a' = (Value.ref a :: argsL).toArray ∧ Z.Warmed39 U.vm ∧ U.heap = h) (fun _ _ _ _ _ => True) (fun _ U o U' => ∃ v L, o = .returned v ∧ Q v U'.heap L ∧ FrameEnd U o U' L rm.cells rm.slots))
    (hg : g.method = m) (hml : g.locals.size = c.maxLocals) (hs : g.stack = argsL.reverse ++ .ref a :: rest) (hd : decode c.code g.pc = .ok (.invokeinterface index count, 5)) (hlen : ∀ sig, parseMethodDescriptor z.desc = some sig → argsL.length = sig.parameters.length)
    {W : Nat} {c1 s1 : Nat} (h1 : cells + rm.cells = c1 := by rfl) (h2 : slots + rm.slots = s1 := by rfl) (hW : 2 * g.monitorRoom + (rest.map fun v => v.category).sum ≤ W := by show 2 * 0 + _ ≤ _; exact Nat.le_of_eq rfl) (hf : rm.frames + 1 ≤ R.frames := by decide) (hl : W + (maxL + 11) + rm.locals ≤ R.locals := by decide) (hc : c1 ≤ R.cells := by decide) (hsl : s1 ≤ R.slots := by decide) (hy : z.cls ≠ "java/lang/invoke/MethodHandle" ∧ z.cls ≠ "java/lang/invoke/VarHandle" := by decide) :
    ∃ v T' L, Stand p l e R s m args below meth c T' (locs ++ L) c1 s1 ∧ Q v T'.heap L ∧ ∀ target, Steps p.tables e below (T'.setTop { g with pc := g.pc + 5, stack := v.toList ++ rest }) target → Steps p.tables e below (T.setTop g) target := by
  subst h1 h2
  obtain ⟨cB, kB, q1, q2, q3⟩ := isOf hZ eT E
  obtain ⟨v, _, ⟨T', L', k', n'⟩, -, X', ⟨L, hQ, l1, y1, z1⟩, st⟩ := X.interfaceBack hx (xi := z) (y := y) hown (mvT hZ w1) (mvT hZ w2) w5 (mvT hZ w3) (mvT hZ w4) (mvT hZ w6) w7 (mvT hZ w8) hy (backOf (W := W) hM hZ wc wz hf hl) q1 q2 q3 hg hml (Steps.refl _) hlen hs hW hd (fun _ _ => ⟨rfl, eT, hc, hsl⟩)
  dsimp only [Pt.U, Pt.locs, Pt.cells, Pt.slots] at X' l1 y1 z1 st hQ
  subst l1 y1 z1
  exact ⟨v, T', L, X', hQ, fun t k => st.trans k⟩
end Calls
theorem own_oz {Z : State} {n0 : Nat} {h : Heap} (O : Old Z n0 h) : n0 ≤ h.size := by
  rw [← O.1]; exact O.2.1
theorem own_lsw {tb : Tables} [Ours tb] {e : Env} {below : List Frame} {T target : State} {m : MethodId} {c : Code} {g : JFrame} (h : At T m c below) (hx : tb.exec = Jvm.exec) (hg : g.method = m) {dflt : Int} {prs : Array (Int × Int)} {len : Nat} {o : Int} {pc0 pc' : Nat} (hpc : g.pc = pc0) (hd : decode c.code g.pc = .ok (.lookupswitch dflt prs, len)) {i : Int32} {rest : List Value} (hs : g.stack = .int i :: rest)
    (hsort : (prs.toList.zip (prs.toList.drop 1)).all (fun (a, next) => a.1 < next.1) = true) (hoff : lookupswitch.offset prs.toList dflt i.toInt = o) (ho : 0 ≤ (pc0 : Int) + o) (hp : ((pc0 : Int) + o).toNat = pc')
    (hr : Steps tb e below (T.setTop { g with pc := pc', stack := rest }) target) : Steps tb e below (T.setTop g) target := by
  subst hg hpc hp
  jvm_step h [h.top, hx, hd, hs, hoff, ho, lookupswitch.wp_chain]
  exact ⟨by simpa using hsort, hr⟩
section Nums
variable {x k : Int32} {n : Int}
theorem own_lt1 (hk : k.toInt = n) (h : x < k) : x.toInt < n := by rw [← hk]; exact Int32.lt_iff_toInt_lt.mp h
theorem own_lt2 (hk : k.toInt = n) (h : k < x) : n < x.toInt := by rw [← hk]; exact Int32.lt_iff_toInt_lt.mp h
theorem own_nlt1 (hk : k.toInt = n) (h : ¬ x < k) : n ≤ x.toInt := by rw [Int32.lt_iff_toInt_lt, hk] at h; omega
theorem own_nlt2 (hk : k.toInt = n) (h : ¬ k < x) : x.toInt ≤ n := by rw [Int32.lt_iff_toInt_lt, hk] at h; omega
theorem own_eq (hk : k.toInt = n) (h : x = k) : x.toInt = n := by rw [← hk, h]
theorem own_neq (hk : k.toInt = n) (h : ¬ x = k) : x.toInt ≠ n := fun q => h (Int32.toInt_inj.mp (by rw [hk, q]))
theorem own_glt1 (hk : k.toInt = n) (h : x.toInt < n) : x < k := Int32.lt_iff_toInt_lt.mpr (by rw [hk]; exact h)
theorem own_glt2 (hk : k.toInt = n) (h : n < x.toInt) : k < x := Int32.lt_iff_toInt_lt.mpr (by rw [hk]; exact h)
theorem own_gnlt1 (hk : k.toInt = n) (h : n ≤ x.toInt) : ¬ x < k := fun q => by have := own_lt1 hk q; omega
theorem own_gnlt2 (hk : k.toInt = n) (h : x.toInt ≤ n) : ¬ k < x := fun q => by have := own_lt2 hk q; omega
theorem own_geq (hk : k.toInt = n) (h : x.toInt = n) : x = k := Int32.toInt_inj.mp (by rw [hk, h])
theorem own_gneq (hk : k.toInt = n) (h : x.toInt ≠ n) : ¬ x = k := fun q => h (own_eq hk q)
theorem own_and (hk : k.toInt = n) (h0 : 0 ≤ n) : 0 ≤ (x &&& k).toInt ∧ (x &&& k).toInt ≤ n := by have := c_and x k (by rw [hk]; exact h0); rw [hk] at this; exact this
theorem own_and2 (hk : k.toInt = n) (h0 : 0 ≤ n) : 0 ≤ (k &&& x).toInt ∧ (k &&& x).toInt ≤ n := by have := c_and' k x (by rw [hk]; exact h0); rw [hk] at this; exact this
theorem own_rem (hk : k.toInt = n) (h0 : 0 < n) (hx : 0 ≤ x.toInt) : 0 ≤ (x % k).toInt ∧ (x % k).toInt < n ∧ (x % k).toInt ≤ x.toInt := by
  have := (c_iremV x k).1 hx (by rw [hk]; exact h0); rw [hk] at this; exact ⟨this.1, this.2.1, this.2.2.1⟩
theorem own_add {lo hi : Int} (hk : k.toInt = n) (hx : lo ≤ x.toInt ∧ x.toInt ≤ hi) (h1 : -2147483648 ≤ lo + n) (h2 : hi + n < 2147483648) : lo + n ≤ (x + k).toInt ∧ (x + k).toInt ≤ hi + n := by
  have := c_iadd x k; have := rng32 (x + k); rw [hk] at *; omega
theorem own_add2 {lo hi : Int} (hk : k.toInt = n) (hx : lo ≤ x.toInt ∧ x.toInt ≤ hi) (h1 : -2147483648 ≤ lo + n) (h2 : hi + n < 2147483648) : lo + n ≤ (k + x).toInt ∧ (k + x).toInt ≤ hi + n := by
  have := c_iadd k x; have := rng32 (k + x); rw [hk] at *; omega
end Nums
theorem own_len {Z : State} {args : Array Value} {t : Term} {a : Addr} {c : Cell} {ty : FieldType} {n : Int32} (A : Arr Z Z.heap a c ty) (ev : t.eval args Z none [] Z = some (.ref a)) (h : (Term.length t).eval args Z none [] Z = some (.int n)) : c.slots.size < 2 ^ 31 ∧ c.slots.size.toInt32 = n := by
  have q := A.fin (Vm.Alike.refl _)
  by_cases z : c.slots.size < 2 ^ 31
  · rw [len_f ev q z] at h; exact ⟨z, Value.int.inj (Option.some.inj h)⟩
  · simp [Term.eval, ev, q, z] at h
theorem own_selp {s : State} {args : Array Value} {y z : MethodName} {C : String} (w : (Cond.selects C z z).before args s = true) (hc : z.cls = y.cls) (hp : s.PrivateAt y) (hi : (Cond.instanceMethod y).before args s = true) (hy : y.cls ≠ "java/lang/invoke/MethodHandle" ∧ y.cls ≠ "java/lang/invoke/VarHandle") : (Cond.selects y.cls y y).before args s = true := by
  obtain ⟨c2, r2, m2, -, -, q3, -, kP, hkP, hkPi⟩ := Cond.selects_spec w
  exact selects_self_of_private (by rw [← hc]; exact findClass_of_methodNamed q3) hkP hkPi hp hi hy
theorem own_max64 (x : Int64) : ¬ (9223372036854775807 : Int64) < x := fun h => by have := rng64 x; rw [Int64.lt_iff_toInt_lt, show (9223372036854775807 : Int64).toInt = 9223372036854775807 by decide] at h; omega
theorem own_min64 (x : Int64) : ¬ x < (-9223372036854775808 : Int64) := fun h => by have := rng64 x; rw [Int64.lt_iff_toInt_lt, show (-9223372036854775808 : Int64).toInt = -9223372036854775808 by decide] at h; omega
theorem own_root {Z : State} {a0 : Array Value} {O K : String} {n : Nat} (w : (Cond.noSuperclass O).before a0 Z = true) (wk : (Cond.instantiable K n).before a0 Z = true) (hn : O ≠ K) : NS Z O K := by
  obtain ⟨c, k, h1, h2, h3, -, -⟩ := Cond.noSuperclass_spec w
  obtain ⟨t, kt, g1, -⟩ := Cond.instantiable_spec wk
  have ne := ids_ne h1 g1 hn
  refine ⟨c, t, h1, g1, fun fuel => ?_⟩
  cases fuel with
  | zero => rfl
  | succ f => simp [Vm.isSubclassAux, ne, h2, h3]
theorem own_no {Z : State} {a0 : Array Value} {C S K : String} {n : Nat} (w : (Cond.superclass C S).before a0 Z = true) (wk : (Cond.instantiable K n).before a0 Z = true) (q : NS Z C K) (hn : C ≠ K) : ∃ c t, Z.vm.findClass C = some c ∧ Z.vm.findClass K = some t ∧ Z.vm.assignable c t = false := by
  obtain ⟨c, t, h0, g0, n3⟩ := q
  obtain ⟨p, k, kp, h1, h2, h3, h4, h5, -, h7⟩ := Cond.superclass_spec h0 w
  obtain ⟨t', k', g1, g2, g3, g4, -⟩ := Cond.instantiable_spec wk
  cases g0.symm.trans g1
  have ne := ids_ne h0 g0 hn
  have g5 : k'.isInterface = false := by simp only [Bool.or_eq_false_iff] at g4; exact g4.1
  refine ⟨c, t, h0, g0, ?_⟩
  show Z.vm.assignableAux (255 + 1) c t = false
  simp [Vm.assignableAux, ne, h2, g2, h5, g3, g5, Vm.isSubclass, n3]
theorem own_sub {x k : Int32} {n lo hi : Int} (hk : k.toInt = n) (hx : lo ≤ x.toInt ∧ x.toInt ≤ hi) (h1 : -2147483648 ≤ lo - n) (h2 : hi - n < 2147483648) : lo - n ≤ (x - k).toInt ∧ (x - k).toInt ≤ hi - n := by
  have := c_isub x k; have := rng32 (x - k); rw [hk] at *; omega
theorem own_dbl {x : Int32} {lo hi : Int} (hx : lo ≤ x.toInt ∧ x.toInt ≤ hi) (h1 : -1073741824 ≤ lo) (h2 : hi < 1073741824) : 2 * lo ≤ ((2 : Int32) * x).toInt ∧ ((2 : Int32) * x).toInt ≤ 2 * hi := by
  have := c_imul 2 x; have := rng32 (2 * x); rw [show (2 : Int32).toInt = 2 by decide] at *; omega
theorem own_nz {x : Int32} (h : 0 ≤ x.toInt ∧ x.toInt ≤ 1) : nar .boolean x = x := by
  have q : x = 0 ∨ x = 1 := by
    rcases (by omega : x.toInt = 0 ∨ x.toInt = 1) with q | q
    · exact Or.inl (own_geq (by decide) q)
    · exact Or.inr (own_geq (by decide) q)
  rcases q with rfl | rfl <;> decide
theorem own_fz {x : Int32} (h : 0 ≤ x.toInt ∧ x.toInt ≤ 1) : fits .boolean (.int x) = true := by
  have q : x = 0 ∨ x = 1 := by
    rcases (by omega : x.toInt = 0 ∨ x.toInt = 1) with q | q
    · exact Or.inl (own_geq (by decide) q)
    · exact Or.inr (own_geq (by decide) q)
  rcases q with rfl | rfl <;> decide
theorem own_nb8 (x : Int32) : nar .byte (x.toInt8.toInt32) = x.toInt8.toInt32 := by
  show (x.toInt8.toInt32).toInt8.toInt32 = x.toInt8.toInt32
  simp
theorem own_ldcF {p : Program} {l : Launch} {e : Env} {R : Room} {s : State} {m : MethodId} {args : Array Value} {below : List Frame} {meth : Method} {c : Code} {T : State} {locs : List Loc} {cells slots : Nat} {Z : State} {a0 : Array Value} {own : String} {index : Nat} {b : UInt32} {g : JFrame}
    (X : Stand p l e R s m args below meth c T locs cells slots) (hx : p.tables.exec = Jvm.exec) (hZ : Z.Warmed39 s.vm) (hown : s.vm.findClass own = some m.cls) (w : (Cond.constantFloat own index b).before a0 Z = true) (hg : g.method = m) (hd : decode c.code g.pc = .ok (.ldc index, 2)) :
    ∀ target, Steps p.tables e below (T.setTop { g with pc := g.pc + 2, stack := .float b :: g.stack }) target → Steps p.tables e below (T.setTop g) target := by
  obtain ⟨k, cf, h1, h2, h3⟩ := Cond.constantFloat_spec hown (mvT (args := args) hZ w)
  exact X.ldcFloat hx h1 h2 h3 hg hd
theorem own_eqR {Z : State} {args : Array Value} {a b : Term} {idx : List Nat} {w : Addr} (hb : b.eval args Z none idx Z = some (.ref w)) (h : (Cond.eq a b).value args Z none Z idx = some true) : a.eval args Z none idx Z = some (.ref w) := by
  simp only [Cond.value, hb] at h
  cases ht : a.eval args Z none idx Z with
  | none => simp [ht] at h
  | some x => cases x <;> simp [ht] at h ⊢; exact h
theorem own_sa {a0 : Array Value} {Z : State} (hw : ∀ d ∈ tables_1, d.before a0 Z = true) : ∀ a ∈ Bundle.stringAtoms, a.before a0 Z = true := fun a ha => by
  simp only [Bundle.stringAtoms, List.mem_cons, List.not_mem_nil, or_false] at ha
  rcases ha with rfl | rfl | rfl | rfl | rfl | rfl | rfl
  · exact own_w hw 7 rfl
  · exact own_w hw 8 rfl
  · exact own_w hw 9 rfl
  · exact own_w hw 10 rfl
  · exact own_w hw 11 rfl
  · exact own_w hw 12 rfl
  · exact own_w hw 13 rfl
abbrev yn0 : MethodName := ⟨"java/util/Objects", "requireNonNull", "(Ljava/lang/Object;Ljava/lang/String;)Ljava/lang/Object;"⟩
abbrev yn1 : MethodName := ⟨"com/example/castless/castless/PrimitiveArrays", "box", "([Z)[Ljava/lang/Boolean;"⟩
abbrev yn2 : MethodName := ⟨"com/example/castless/castless/PrimitiveArrays", "unbox", "([Ljava/lang/Boolean;Z)[Z"⟩
abbrev yn3 : MethodName := ⟨"com/example/castless/castless/PrimitiveArraysBoxPinLaw", "ok", "([Z[Z[ZIIZ)Z"⟩
abbrev yn4 : MethodName := ⟨"java/lang/Boolean", "valueOf", "(Z)Ljava/lang/Boolean;"⟩
abbrev yn5 : MethodName := ⟨"java/lang/Boolean", "booleanValue", "()Z"⟩
def GW (Z : State) (w1 : Addr) (w2 : Addr) : Prop :=
  (Sta Z Z.heap "java/lang/Boolean" "FALSE" "Ljava/lang/Boolean;" (.ref w1))
  ∧ (Exa Z Z.heap w1 "java/lang/Boolean")
  ∧ (Sta Z Z.heap "java/lang/Boolean" "TRUE" "Ljava/lang/Boolean;" (.ref w2))
  ∧ (Exa Z Z.heap w2 "java/lang/Boolean")
  ∧ (Fld Z Z.heap w1 "java/lang/Boolean" "value" "Z" (.int 0))
  ∧ (Fld Z Z.heap w2 "java/lang/Boolean" "value" "Z" (.int 1))
def Q0 (n0 : Nat) (v : Option Value) (h : Heap) (L : List Loc) : Prop := v = some (.int (1 : Int32)) ∧ Fr n0 L
theorem d0_0 : decode prog_11_method_2_code 0 = .ok (.aload_n 0, 1) := by decide +kernel
theorem d0_1 : decode prog_11_method_2_code 1 = .ok (.ldc 9, 2) := by decide +kernel
theorem d0_3 : decode prog_11_method_2_code 3 = .ok (.invokestatic 11, 3) := by decide +kernel
theorem d1_0 : decode jdk_31_method_11_code 0 = .ok (.aload_n 0, 1) := by decide +kernel
theorem d1_1 : decode jdk_31_method_11_code 1 = .ok (.ifnonnull 12, 3) := by decide +kernel
theorem d1_13 : decode jdk_31_method_11_code 13 = .ok (.aload_n 0, 1) := by decide +kernel
theorem d1_14 : decode jdk_31_method_11_code 14 = .ok (.areturn, 1) := by decide +kernel
theorem pn0 : plainName "java/util/Objects" = true := by first | (simp [plainName, overriddenIn]; done) | decide +kernel
theorem ef1 (m : MethodId) (x0 : Addr) (x1 : Addr) : entryFrame m #[(.ref x0), (.ref x1)] 2 = mkF m 0 #[.val (.ref x0), .val (.ref x1)] [] := by first | (simp [entryFrame, mkF, argsToLocals, Value.category]; done) | rfl
def Q1 (Z : State) (o1 : Addr) (u2 : Addr) (h0 : Heap) (n0 : Nat) (v : Option Value) (h : Heap) (L : List Loc) : Prop :=
  (v = some (.ref o1) ∧ Fr n0 L ∧ h = h0)
set_option maxRecDepth 65536 in
set_option maxHeartbeats 40000000 in
theorem rm1 (l : Launch) (Z : State) (a0 : Array Value) (hw : ∀ d ∈ tables_1, d.before a0 Z = true) (ws : List Jvm.Cond) (o1 : Addr) (u2 : Addr) (h0 : Heap) (n0 : Nat) (O0 : Old Z n0 h0) (g_o1 : n0 ≤ o1) :
    MetFree l yn0 (head1 (Jvm.Cond.code yn0 jdk_31_method_11_code 2 (some (.object "java/lang/Object")) :: ws) ({ frames := 0, cells := 0, slots := 0, locals := 0 } : Room)) (fun a U => a = #[(.ref o1), (.ref u2)] ∧ Z.Warmed39 U.vm ∧ U.heap = h0) (fun _ _ _ _ _ => True) (fun _ U o U' => ∃ v L, o = .returned v ∧ Q1 Z o1 u2 h0 n0 v U'.heap L ∧ FrameEnd U o U' L ({ frames := 0, cells := 0, slots := 0, locals := 0 } : Room).cells ({ frames := 0, cells := 0, slots := 0, locals := 0 } : Room).slots) := by
  refine MetFree.of_bodySF (plainFor_of_name pn0) hisR ?_
  intro p e s m args below meth c s₁ Bd hml0 hP hK
  obtain ⟨rfl, hZ, hh⟩ := hP
  have hx := Bd.exec
  have hby := Bd.bytes
  have hml : c.maxLocals = 2 := hml0
  have hown : s.vm.findClass "java/util/Objects" = some m.cls := findClass_of_methodNamed Bd.named
  have hnm := (name_of_methodNamed Bd.named Bd.method).1
  have hret := Bd.returns
  have hlk : meth.locks = false := BodyLoose.notSynchronized Bd
  have X0 : Stand p l e ({ frames := 0, cells := 0, slots := 0, locals := 0 } : Room) s m #[(.ref o1), (.ref u2)] below meth c s₁ [] 0 0 := Stand.of_body Bd
  have e0 : s₁.heap = h0 := by rw [← hh, Bd.state]; rfl
  have N0 := Fr.nil n0
  have pre0 : ∀ t, Steps p.tables e below (s₁.setTop (mkF m 0 #[.val (.ref o1), .val (.ref u2)] [])) t → Steps p.tables e below (s₁.setTop (entryFrame m #[(.ref o1), (.ref u2)] 2)) t := fun t k => castTop (ef1 m o1 u2) k
  obtain ⟨fs, hr, hrun, hended, hW, hsame⟩ := X0.leave (v := some (.ref o1)) (fun h => by rw [hret] at h; cases h)
  refine ⟨_, _, pre0 _ ?_, hrun, hended, _, _, rfl, ?_, ⟨_, rfl⟩, hW, hsame.mono (by decide) (by decide)⟩
  ·
    show Steps p.tables e below (s₁.setTop (mkF m 0 #[.val (.ref o1), .val (.ref u2)] [])) _
    refine XS.aloadN X0.here hx rfl (hb hby d1_0) rfl rfl ?_
    refine XS.ifnonnullYes X0.here hx rfl (pc0 := 1) (pc' := 13) rfl (hb hby d1_1) rfl (by decide) (by decide) ?_
    refine XS.aloadN X0.here hx rfl (hb hby d1_13) rfl rfl ?_
    show Steps p.tables e below (s₁.setTop (mkF m 14 #[.val (.ref o1), .val (.ref u2)] [(.ref o1)])) _
    exact retOut X0 hx hret rfl (Or.inr (Or.inr (Or.inr (Or.inr ⟨rfl, rfl, rfl⟩)))) (hb hby d1_14) hr
  ·
    show Q1 Z o1 u2 h0 n0 _ s₁.heap _
    rw [e0]
    exact ⟨rfl, N0, rfl⟩
theorem pd0 : parseMethodDescriptor "(Ljava/lang/Object;Ljava/lang/String;)Ljava/lang/Object;" = some ⟨[(.object "java/lang/Object"), (.object "java/lang/String")], some (.object "java/lang/Object")⟩ := by decide +kernel
theorem d0_6 : decode prog_11_method_2_code 6 = .ok (.pop, 1) := by decide +kernel
theorem d0_7 : decode prog_11_method_2_code 7 = .ok (.aload_n 0, 1) := by decide +kernel
theorem d0_8 : decode prog_11_method_2_code 8 = .ok (.arraylength, 1) := by decide +kernel
theorem d0_9 : decode prog_11_method_2_code 9 = .ok (.anewarray 17, 3) := by decide +kernel
theorem d0_12 : decode prog_11_method_2_code 12 = .ok (.astore_n 1, 1) := by decide +kernel
theorem d0_13 : decode prog_11_method_2_code 13 = .ok (.iconst 0, 1) := by decide +kernel
theorem d0_14 : decode prog_11_method_2_code 14 = .ok (.istore_n 2, 1) := by decide +kernel
theorem d0_15 : decode prog_11_method_2_code 15 = .ok (.iload_n 2, 1) := by decide +kernel
theorem d0_16 : decode prog_11_method_2_code 16 = .ok (.aload_n 0, 1) := by decide +kernel
theorem d0_17 : decode prog_11_method_2_code 17 = .ok (.arraylength, 1) := by decide +kernel
theorem d0_18 : decode prog_11_method_2_code 18 = .ok (.if_icmp .ge 18, 3) := by decide +kernel
theorem d0_36 : decode prog_11_method_2_code 36 = .ok (.aload_n 1, 1) := by decide +kernel
theorem d0_37 : decode prog_11_method_2_code 37 = .ok (.areturn, 1) := by decide +kernel
theorem pn1 : plainName "com/example/castless/castless/PrimitiveArrays" = true := by first | (simp [plainName, overriddenIn]; done) | decide +kernel
theorem ef2 (m : MethodId) (x0 : Addr) : entryFrame m #[(.ref x0)] 3 = mkF m 0 #[.val (.ref x0), .unset, .unset] [] := by first | (simp [entryFrame, mkF, argsToLocals, Value.category]; done) | rfl
def Q2 (Z : State) (o1 : Addr) (kc2 : ClassId) (h0 : Heap) (n0 : Nat) (v : Option Value) (h : Heap) (L : List Loc) : Prop :=
  (∃ b8 : Addr, ∃ k8 : ClassId, v = some (.ref b8) ∧ Fr n0 L ∧ Keep h0 h [] ∧ h0.size ≤ b8 ∧ Ovr Z k8 "java/lang/Boolean" ∧ (Arv Z h b8 k8 (.object "java/lang/Boolean") (0 : Int32) [] .null) ∧ (Exa Z h b8 "[Ljava/lang/Boolean;"))
set_option maxRecDepth 65536 in
set_option maxHeartbeats 40000000 in
theorem rm2 (l : Launch) (Z : State) (a0 : Array Value) (hw : ∀ d ∈ tables_1, d.before a0 Z = true) (ws : List Jvm.Cond) (o1 : Addr) (kc2 : ClassId) (h0 : Heap) (n0 : Nat) (O0 : Old Z n0 h0) (g_o1 : n0 ≤ o1) (P0 : Arv Z h0 o1 kc2 .boolean (0 : Int32) [] (.int 0)) :
    MetFree l yn1 (head1 (Jvm.Cond.code yn1 prog_11_method_2_code 3 (some (.array (.object "java/lang/Boolean"))) :: ws) ({ frames := 1, cells := 3, slots := 56, locals := 13 } : Room)) (fun a U => a = #[(.ref o1)] ∧ Z.Warmed39 U.vm ∧ U.heap = h0) (fun _ _ _ _ _ => True) (fun _ U o U' => ∃ v L, o = .returned v ∧ Q2 Z o1 kc2 h0 n0 v U'.heap L ∧ ReturnedEndW U o U' L ({ frames := 1, cells := 3, slots := 56, locals := 13 } : Room).cells ({ frames := 1, cells := 3, slots := 56, locals := 13 } : Room).slots) := by
  refine MetFree.of_bodySF (plainFor_of_name pn1) hisR ?_
  intro p e s m args below meth c s₁ Bd hml0 hP hK
  obtain ⟨rfl, hZ, hh⟩ := hP
  have hx := Bd.exec
  have hby := Bd.bytes
  have hml : c.maxLocals = 3 := hml0
  have hown : s.vm.findClass "com/example/castless/castless/PrimitiveArrays" = some m.cls := findClass_of_methodNamed Bd.named
  have hnm := (name_of_methodNamed Bd.named Bd.method).1
  have hret := Bd.returns
  have hlk : meth.locks = false := BodyLoose.notSynchronized Bd
  have X0 : Stand p l e ({ frames := 1, cells := 3, slots := 56, locals := 13 } : Room) s m #[(.ref o1)] below meth c s₁ [] 0 0 := Stand.of_body Bd
  have e0 : s₁.heap = h0 := by rw [← hh, Bd.state]; rfl
  have N0 := Fr.nil n0
  have pre0 : ∀ t, Steps p.tables e below (s₁.setTop (mkF m 0 #[.val (.ref o1), .unset, .unset] [])) t → Steps p.tables e below (s₁.setTop (entryFrame m #[(.ref o1)] 3)) t := fun t k => castTop (ef2 m o1) k
  have pre1 : ∀ t, Steps p.tables e below (s₁.setTop (mkF m 1 #[.val (.ref o1), .unset, .unset] [(.ref o1)])) t → Steps p.tables e below (s₁.setTop (entryFrame m #[(.ref o1)] 3)) t := fun t k => by
    refine pre0 _ ?_
    show Steps p.tables e below (s₁.setTop (mkF m 0 #[.val (.ref o1), .unset, .unset] [])) _
    refine XS.aloadN X0.here hx rfl (hb hby d0_0) rfl rfl ?_
    exact k
  obtain ⟨sx2, T2, h2, ks2, X2, e2, E2, hS2, hk2, hZ, hown, st2⟩ := ldcS (s := s) (vm0 := s.vm) X0 hx hZ hown (own_w hw 6 rfl) (own_sa hw) e0 ((State.WarmedH.refl s).since h0.size) (Nat.le_refl _) (g := (mkF m 1 #[.val (.ref o1), .unset, .unset] [(.ref o1)])) rfl (hb hby d0_1) (n := 52) (by decide) (by decide) (by decide) (by decide)
  have M2 : h0.size ≤ h2.size := Nat.le_trans (Nat.le_refl _) E2.1
  have O2 := Old.ext O0 E2
  obtain ⟨_, T3, L3, X3, hQ3, st3⟩ := own_cs X2 hx hZ hown (y := yn0) (own_w hw 14 rfl) (own_w hw 15 rfl) (own_w hw 17 rfl) (own_w hw 16 rfl) e2 (argsL := [(.ref o1), (.ref sx2)]) (rest := []) (rm1 l Z a0 hw [] o1 sx2 h2 n0 O2 g_o1) (g := (mkF m 3 #[.val (.ref o1), .unset, .unset] [(.ref sx2), (.ref o1)])) rfl (by rw [hml]; rfl) rfl (hb hby d0_3) (lenOf pd0 rfl) (W := 0) (c1 := 2) (s1 := 56)
  obtain ⟨rfl, Nq4, e5⟩ := hQ3
  have N3 := Fr.app N0 Nq4
  have f6 := (P0.ext E2)
  obtain ⟨cl7, Ar7, qa7, Sa7, Na7, Ha7, Ga7⟩ := id (f6)
  obtain ⟨T8, h8, k8, X8, e8, E8, A8, EX8, OV8, st8⟩ := newRE X3 hx hZ hown (own_w hw 18 rfl) (own_w hw 19 rfl) e5 (g := (mkF m 9 #[.val (.ref o1), .unset, .unset] [(.int 0)])) rfl (hb hby d0_9) rfl (by decide) (cap := 0) (by decide) (by decide) (by decide) (by decide) (ad := "[Ljava/lang/Boolean;") (by decide)
  obtain ⟨b8, g8⟩ : ∃ z, z = h2.size := ⟨_, rfl⟩
  rw [← g8] at A8 EX8 st8
  have hkk8 := Nat.le_trans hk2 E8.1
  have M8 : h0.size ≤ h8.size := Nat.le_trans M2 E8.1
  have O8 := Old.ext O2 E8
  have sz_b8 : h2.size ≤ b8 := Nat.le_of_eq g8.symm
  have g_b8 : n0 ≤ b8 := Nat.le_trans (own_oz O0) (Nat.le_trans M2 sz_b8)
  have V8_0 := Arv.new A8 (by decide)
  have V8 : Arv Z h8 b8 k8 (.object "java/lang/Boolean") (0 : Int32) [] .null := V8_0
  have f9 := (f6.ext E8)
  obtain ⟨cl10, Ar10, qa10, Sa10, Na10, Ha10, Ga10⟩ := id (f9)
  obtain ⟨fs, hr, hrun, hended, hRE⟩ := X8.leaveW hS2 (by rw [e8]; exact hkk8) (v := some (.ref b8)) (fun h => by rw [hret] at h; cases h)
  have KL : Keep h0 h8 [] := (((Keep.refl h0 []).ext E2).ext E8)
  refine ⟨_, _, pre1 _ ?_, hrun, hended, _, _, rfl, ?_, hRE.1, hRE.2.1, hRE.2.2.1, hRE.2.2.2.mono (by decide) (by decide)⟩
  ·
    show Steps p.tables e below (s₁.setTop (mkF m 1 #[.val (.ref o1), .unset, .unset] [(.ref o1)])) _
    refine st2 _ ?_
    refine st3 _ ?_
    refine XS.pop X3.here hx rfl (hb hby d0_6) rfl rfl ?_
    refine XS.aloadN X3.here hx rfl (hb hby d0_7) rfl rfl ?_
    refine X3.arraylength hx (by rw [e5]; exact Ar7.1) (State.isArrayOf_alike hZ.alike Ar7.2.1) (g := (mkF m 8 #[.val (.ref o1), .unset, .unset] [(.ref o1)])) rfl rfl (hb hby d0_8) _ ?_
    rw [len_of Sa7 Na7]
    refine st8 _ ?_
    refine XS.astoreN X8.here hx rfl (hb hby d0_12) rfl rfl (l' := #[.val (.ref o1), .val (.ref b8), .unset]) rfl ?_
    refine XS.iconst X8.here hx rfl (hb hby d0_13) ?_
    refine XS.istoreN X8.here hx rfl (hb hby d0_14) rfl (l' := #[.val (.ref o1), .val (.ref b8), .val (.int 0)]) rfl ?_
    refine XS.iloadN X8.here hx rfl (hb hby d0_15) rfl ?_
    refine XS.aloadN X8.here hx rfl (hb hby d0_16) rfl rfl ?_
    refine X8.arraylength hx (by rw [e8]; exact Ar10.1) (State.isArrayOf_alike hZ.alike Ar10.2.1) (g := (mkF m 17 #[.val (.ref o1), .val (.ref b8), .val (.int 0)] [(.ref o1), (.int 0)])) rfl rfl (hb hby d0_17) _ ?_
    rw [len_of Sa10 Na10]
    refine XS.icmpYes X8.here hx rfl (pc0 := 18) (pc' := 36) rfl (hb hby d0_18) rfl (flt (by decide : ¬ ((0 : Int32) < (0 : Int32)))).2.1 (by decide) (by decide) ?_
    refine XS.aloadN X8.here hx rfl (hb hby d0_36) rfl rfl ?_
    show Steps p.tables e below (T8.setTop (mkF m 37 #[.val (.ref o1), .val (.ref b8), .val (.int 0)] [(.ref b8)])) _
    exact retOut X8 hx hret rfl (Or.inr (Or.inr (Or.inr (Or.inr ⟨rfl, rfl, rfl⟩)))) (hb hby d0_37) hr
  ·
    show Q2 Z o1 kc2 h0 n0 _ T8.heap _
    rw [e8]
    exact ⟨b8, k8, rfl, N3, KL, (Nat.le_trans M2 sz_b8), OV8, V8, EX8⟩
theorem pd1 : parseMethodDescriptor "([Z)[Ljava/lang/Boolean;" = some ⟨[(.array .boolean)], some (.array (.object "java/lang/Boolean"))⟩ := by decide +kernel
theorem d2_0 : decode prog_11_method_4_code 0 = .ok (.aload_n 0, 1) := by decide +kernel
theorem d2_1 : decode prog_11_method_4_code 1 = .ok (.ldc 9, 2) := by decide +kernel
theorem d2_3 : decode prog_11_method_4_code 3 = .ok (.invokestatic 11, 3) := by decide +kernel
theorem ef3 (m : MethodId) (x0 : Addr) (x1 : Addr) : entryFrame m #[(.ref x0), (.ref x1)] 2 = mkF m 0 #[.val (.ref x0), .val (.ref x1)] [] := by first | (simp [entryFrame, mkF, argsToLocals, Value.category]; done) | rfl
def Q3 (Z : State) (o1 : Addr) (kc3 : ClassId) (u2 : Addr) (h0 : Heap) (n0 : Nat) (v : Option Value) (h : Heap) (L : List Loc) : Prop :=
  (v = some (.ref o1) ∧ Fr n0 L ∧ h = h0)
set_option maxRecDepth 65536 in
set_option maxHeartbeats 40000000 in
theorem rm3 (l : Launch) (Z : State) (a0 : Array Value) (hw : ∀ d ∈ tables_1, d.before a0 Z = true) (ws : List Jvm.Cond) (o1 : Addr) (kc3 : ClassId) (u2 : Addr) (h0 : Heap) (n0 : Nat) (O0 : Old Z n0 h0) (g_o1 : n0 ≤ o1) (Ov_kc3 : Ovr Z kc3 "java/lang/Boolean") :
    MetFree l yn0 (head1 (Jvm.Cond.code yn0 jdk_31_method_11_code 2 (some (.object "java/lang/Object")) :: ws) ({ frames := 0, cells := 0, slots := 0, locals := 0 } : Room)) (fun a U => a = #[(.ref o1), (.ref u2)] ∧ Z.Warmed39 U.vm ∧ U.heap = h0) (fun _ _ _ _ _ => True) (fun _ U o U' => ∃ v L, o = .returned v ∧ Q3 Z o1 kc3 u2 h0 n0 v U'.heap L ∧ FrameEnd U o U' L ({ frames := 0, cells := 0, slots := 0, locals := 0 } : Room).cells ({ frames := 0, cells := 0, slots := 0, locals := 0 } : Room).slots) := by
  refine MetFree.of_bodySF (plainFor_of_name pn0) hisR ?_
  intro p e s m args below meth c s₁ Bd hml0 hP hK
  obtain ⟨rfl, hZ, hh⟩ := hP
  have hx := Bd.exec
  have hby := Bd.bytes
  have hml : c.maxLocals = 2 := hml0
  have hown : s.vm.findClass "java/util/Objects" = some m.cls := findClass_of_methodNamed Bd.named
  have hnm := (name_of_methodNamed Bd.named Bd.method).1
  have hret := Bd.returns
  have hlk : meth.locks = false := BodyLoose.notSynchronized Bd
  have X0 : Stand p l e ({ frames := 0, cells := 0, slots := 0, locals := 0 } : Room) s m #[(.ref o1), (.ref u2)] below meth c s₁ [] 0 0 := Stand.of_body Bd
  have e0 : s₁.heap = h0 := by rw [← hh, Bd.state]; rfl
  have N0 := Fr.nil n0
  have pre0 : ∀ t, Steps p.tables e below (s₁.setTop (mkF m 0 #[.val (.ref o1), .val (.ref u2)] [])) t → Steps p.tables e below (s₁.setTop (entryFrame m #[(.ref o1), (.ref u2)] 2)) t := fun t k => castTop (ef3 m o1 u2) k
  obtain ⟨fs, hr, hrun, hended, hW, hsame⟩ := X0.leave (v := some (.ref o1)) (fun h => by rw [hret] at h; cases h)
  refine ⟨_, _, pre0 _ ?_, hrun, hended, _, _, rfl, ?_, ⟨_, rfl⟩, hW, hsame.mono (by decide) (by decide)⟩
  ·
    show Steps p.tables e below (s₁.setTop (mkF m 0 #[.val (.ref o1), .val (.ref u2)] [])) _
    refine XS.aloadN X0.here hx rfl (hb hby d1_0) rfl rfl ?_
    refine XS.ifnonnullYes X0.here hx rfl (pc0 := 1) (pc' := 13) rfl (hb hby d1_1) rfl (by decide) (by decide) ?_
    refine XS.aloadN X0.here hx rfl (hb hby d1_13) rfl rfl ?_
    show Steps p.tables e below (s₁.setTop (mkF m 14 #[.val (.ref o1), .val (.ref u2)] [(.ref o1)])) _
    exact retOut X0 hx hret rfl (Or.inr (Or.inr (Or.inr (Or.inr ⟨rfl, rfl, rfl⟩)))) (hb hby d1_14) hr
  ·
    show Q3 Z o1 kc3 u2 h0 n0 _ s₁.heap _
    rw [e0]
    exact ⟨rfl, N0, rfl⟩
theorem d2_6 : decode prog_11_method_4_code 6 = .ok (.pop, 1) := by decide +kernel
theorem d2_7 : decode prog_11_method_4_code 7 = .ok (.aload_n 0, 1) := by decide +kernel
theorem d2_8 : decode prog_11_method_4_code 8 = .ok (.arraylength, 1) := by decide +kernel
theorem d2_9 : decode prog_11_method_4_code 9 = .ok (.newarray .boolean, 2) := by decide +kernel
theorem d2_11 : decode prog_11_method_4_code 11 = .ok (.astore_n 2, 1) := by decide +kernel
theorem d2_12 : decode prog_11_method_4_code 12 = .ok (.iconst 0, 1) := by decide +kernel
theorem d2_13 : decode prog_11_method_4_code 13 = .ok (.istore_n 3, 1) := by decide +kernel
theorem d2_14 : decode prog_11_method_4_code 14 = .ok (.iload_n 3, 1) := by decide +kernel
theorem d2_15 : decode prog_11_method_4_code 15 = .ok (.aload_n 0, 1) := by decide +kernel
theorem d2_16 : decode prog_11_method_4_code 16 = .ok (.arraylength, 1) := by decide +kernel
theorem d2_17 : decode prog_11_method_4_code 17 = .ok (.if_icmp .ge 31, 3) := by decide +kernel
theorem d2_48 : decode prog_11_method_4_code 48 = .ok (.aload_n 2, 1) := by decide +kernel
theorem d2_49 : decode prog_11_method_4_code 49 = .ok (.areturn, 1) := by decide +kernel
theorem ef4 (m : MethodId) (x0 : Addr) (x1 : Int32) : entryFrame m #[(.ref x0), (.int x1)] 5 = mkF m 0 #[.val (.ref x0), .val (.int x1), .unset, .unset, .unset] [] := by first | (simp [entryFrame, mkF, argsToLocals, Value.category]; done) | rfl
def Q4 (Z : State) (o1 : Addr) (kc2 : ClassId) (h0 : Heap) (n0 : Nat) (v : Option Value) (h : Heap) (L : List Loc) : Prop :=
  (∃ b8 : Addr, ∃ k8 : ClassId, v = some (.ref b8) ∧ Fr n0 L ∧ Keep h0 h [] ∧ h0.size ≤ b8 ∧ (Arv Z h b8 k8 .boolean (0 : Int32) [] (.int 0)) ∧ (Exa Z h b8 "[Z"))
set_option maxRecDepth 65536 in
set_option maxHeartbeats 40000000 in
theorem rm4 (l : Launch) (Z : State) (a0 : Array Value) (hw : ∀ d ∈ tables_1, d.before a0 Z = true) (ws : List Jvm.Cond) (o1 : Addr) (kc2 : ClassId) (h0 : Heap) (n0 : Nat) (O0 : Old Z n0 h0) (g_o1 : n0 ≤ o1) (Ov_kc2 : Ovr Z kc2 "java/lang/Boolean") (P0 : Arv Z h0 o1 kc2 (.object "java/lang/Boolean") (0 : Int32) [] .null) :
    MetFree l yn2 (head1 (Jvm.Cond.code yn2 prog_11_method_4_code 5 (some (.array .boolean)) :: ws) ({ frames := 1, cells := 3, slots := 56, locals := 13 } : Room)) (fun a U => a = #[(.ref o1), (.int 0)] ∧ Z.Warmed39 U.vm ∧ U.heap = h0) (fun _ _ _ _ _ => True) (fun _ U o U' => ∃ v L, o = .returned v ∧ Q4 Z o1 kc2 h0 n0 v U'.heap L ∧ ReturnedEndW U o U' L ({ frames := 1, cells := 3, slots := 56, locals := 13 } : Room).cells ({ frames := 1, cells := 3, slots := 56, locals := 13 } : Room).slots) := by
  refine MetFree.of_bodySF (plainFor_of_name pn1) hisR ?_
  intro p e s m args below meth c s₁ Bd hml0 hP hK
  obtain ⟨rfl, hZ, hh⟩ := hP
  have hx := Bd.exec
  have hby := Bd.bytes
  have hml : c.maxLocals = 5 := hml0
  have hown : s.vm.findClass "com/example/castless/castless/PrimitiveArrays" = some m.cls := findClass_of_methodNamed Bd.named
  have hnm := (name_of_methodNamed Bd.named Bd.method).1
  have hret := Bd.returns
  have hlk : meth.locks = false := BodyLoose.notSynchronized Bd
  have X0 : Stand p l e ({ frames := 1, cells := 3, slots := 56, locals := 13 } : Room) s m #[(.ref o1), (.int 0)] below meth c s₁ [] 0 0 := Stand.of_body Bd
  have e0 : s₁.heap = h0 := by rw [← hh, Bd.state]; rfl
  have N0 := Fr.nil n0
  have pre0 : ∀ t, Steps p.tables e below (s₁.setTop (mkF m 0 #[.val (.ref o1), .val (.int 0), .unset, .unset, .unset] [])) t → Steps p.tables e below (s₁.setTop (entryFrame m #[(.ref o1), (.int 0)] 5)) t := fun t k => castTop (ef4 m o1 (0 : Int32)) k
  have pre1 : ∀ t, Steps p.tables e below (s₁.setTop (mkF m 1 #[.val (.ref o1), .val (.int 0), .unset, .unset, .unset] [(.ref o1)])) t → Steps p.tables e below (s₁.setTop (entryFrame m #[(.ref o1), (.int 0)] 5)) t := fun t k => by
    refine pre0 _ ?_
    show Steps p.tables e below (s₁.setTop (mkF m 0 #[.val (.ref o1), .val (.int 0), .unset, .unset, .unset] [])) _
    refine XS.aloadN X0.here hx rfl (hb hby d2_0) rfl rfl ?_
    exact k
  obtain ⟨sx2, T2, h2, ks2, X2, e2, E2, hS2, hk2, hZ, hown, st2⟩ := ldcS (s := s) (vm0 := s.vm) X0 hx hZ hown (own_w hw 6 rfl) (own_sa hw) e0 ((State.WarmedH.refl s).since h0.size) (Nat.le_refl _) (g := (mkF m 1 #[.val (.ref o1), .val (.int 0), .unset, .unset, .unset] [(.ref o1)])) rfl (hb hby d2_1) (n := 52) (by decide) (by decide) (by decide) (by decide)
  have M2 : h0.size ≤ h2.size := Nat.le_trans (Nat.le_refl _) E2.1
  have O2 := Old.ext O0 E2
  obtain ⟨_, T3, L3, X3, hQ3, st3⟩ := own_cs X2 hx hZ hown (y := yn0) (own_w hw 14 rfl) (own_w hw 15 rfl) (own_w hw 17 rfl) (own_w hw 16 rfl) e2 (argsL := [(.ref o1), (.ref sx2)]) (rest := []) (rm3 l Z a0 hw [] o1 kc2 sx2 h2 n0 O2 g_o1 Ov_kc2) (g := (mkF m 3 #[.val (.ref o1), .val (.int 0), .unset, .unset, .unset] [(.ref sx2), (.ref o1)])) rfl (by rw [hml]; rfl) rfl (hb hby d2_3) (lenOf pd0 rfl) (W := 0) (c1 := 2) (s1 := 56)
  obtain ⟨rfl, Nq4, e5⟩ := hQ3
  have N3 := Fr.app N0 Nq4
  have f6 := (P0.ext E2)
  obtain ⟨cl7, Ar7, qa7, Sa7, Na7, Ha7, Ga7⟩ := id (f6)
  obtain ⟨T8, h8, k8, X8, e8, E8, A8, EX8, st8⟩ := newPE X3 hx hZ (own_w hw 1 rfl) e5 (g := (mkF m 9 #[.val (.ref o1), .val (.int 0), .unset, .unset, .unset] [(.int 0)])) rfl (hb hby d2_9) rfl (by decide) (cap := 0) (by decide) (by decide) (by decide) (by decide) (ad := "[Z") (by decide)
  obtain ⟨b8, g8⟩ : ∃ z, z = h2.size := ⟨_, rfl⟩
  rw [← g8] at A8 EX8 st8
  have hkk8 := Nat.le_trans hk2 E8.1
  have M8 : h0.size ≤ h8.size := Nat.le_trans M2 E8.1
  have O8 := Old.ext O2 E8
  have sz_b8 : h2.size ≤ b8 := Nat.le_of_eq g8.symm
  have g_b8 : n0 ≤ b8 := Nat.le_trans (own_oz O0) (Nat.le_trans M2 sz_b8)
  have V8_0 := Arv.new A8 (by decide)
  have V8 : Arv Z h8 b8 k8 .boolean (0 : Int32) [] (.int 0) := V8_0
  have f9 := (f6.ext E8)
  obtain ⟨cl10, Ar10, qa10, Sa10, Na10, Ha10, Ga10⟩ := id (f9)
  obtain ⟨fs, hr, hrun, hended, hRE⟩ := X8.leaveW hS2 (by rw [e8]; exact hkk8) (v := some (.ref b8)) (fun h => by rw [hret] at h; cases h)
  have KL : Keep h0 h8 [] := (((Keep.refl h0 []).ext E2).ext E8)
  refine ⟨_, _, pre1 _ ?_, hrun, hended, _, _, rfl, ?_, hRE.1, hRE.2.1, hRE.2.2.1, hRE.2.2.2.mono (by decide) (by decide)⟩
  ·
    show Steps p.tables e below (s₁.setTop (mkF m 1 #[.val (.ref o1), .val (.int 0), .unset, .unset, .unset] [(.ref o1)])) _
    refine st2 _ ?_
    refine st3 _ ?_
    refine XS.pop X3.here hx rfl (hb hby d2_6) rfl rfl ?_
    refine XS.aloadN X3.here hx rfl (hb hby d2_7) rfl rfl ?_
    refine X3.arraylength hx (by rw [e5]; exact Ar7.1) (State.isArrayOf_alike hZ.alike Ar7.2.1) (g := (mkF m 8 #[.val (.ref o1), .val (.int 0), .unset, .unset, .unset] [(.ref o1)])) rfl rfl (hb hby d2_8) _ ?_
    rw [len_of Sa7 Na7]
    refine st8 _ ?_
    refine XS.astoreN X8.here hx rfl (hb hby d2_11) rfl rfl (l' := #[.val (.ref o1), .val (.int 0), .val (.ref b8), .unset, .unset]) rfl ?_
    refine XS.iconst X8.here hx rfl (hb hby d2_12) ?_
    refine XS.istoreN X8.here hx rfl (hb hby d2_13) rfl (l' := #[.val (.ref o1), .val (.int 0), .val (.ref b8), .val (.int 0), .unset]) rfl ?_
    refine XS.iloadN X8.here hx rfl (hb hby d2_14) rfl ?_
    refine XS.aloadN X8.here hx rfl (hb hby d2_15) rfl rfl ?_
    refine X8.arraylength hx (by rw [e8]; exact Ar10.1) (State.isArrayOf_alike hZ.alike Ar10.2.1) (g := (mkF m 16 #[.val (.ref o1), .val (.int 0), .val (.ref b8), .val (.int 0), .unset] [(.ref o1), (.int 0)])) rfl rfl (hb hby d2_16) _ ?_
    rw [len_of Sa10 Na10]
    refine XS.icmpYes X8.here hx rfl (pc0 := 17) (pc' := 48) rfl (hb hby d2_17) rfl (flt (by decide : ¬ ((0 : Int32) < (0 : Int32)))).2.1 (by decide) (by decide) ?_
    refine XS.aloadN X8.here hx rfl (hb hby d2_48) rfl rfl ?_
    show Steps p.tables e below (T8.setTop (mkF m 49 #[.val (.ref o1), .val (.int 0), .val (.ref b8), .val (.int 0), .unset] [(.ref b8)])) _
    exact retOut X8 hx hret rfl (Or.inr (Or.inr (Or.inr (Or.inr ⟨rfl, rfl, rfl⟩)))) (hb hby d2_49) hr
  ·
    show Q4 Z o1 kc2 h0 n0 _ T8.heap _
    rw [e8]
    exact ⟨b8, k8, rfl, N3, KL, (Nat.le_trans M2 sz_b8), V8, EX8⟩
theorem pd2 : parseMethodDescriptor "([Ljava/lang/Boolean;Z)[Z" = some ⟨[(.array (.object "java/lang/Boolean")), .boolean], some (.array .boolean)⟩ := by decide +kernel
theorem ef5 (m : MethodId) (x0 : Addr) (x1 : Int32) : entryFrame m #[(.ref x0), (.int x1)] 5 = mkF m 0 #[.val (.ref x0), .val (.int x1), .unset, .unset, .unset] [] := by first | (simp [entryFrame, mkF, argsToLocals, Value.category]; done) | rfl
def Q5 (Z : State) (o1 : Addr) (kc2 : ClassId) (h0 : Heap) (n0 : Nat) (v : Option Value) (h : Heap) (L : List Loc) : Prop :=
  (∃ b8 : Addr, ∃ k8 : ClassId, v = some (.ref b8) ∧ Fr n0 L ∧ Keep h0 h [] ∧ h0.size ≤ b8 ∧ (Arv Z h b8 k8 .boolean (0 : Int32) [] (.int 0)) ∧ (Exa Z h b8 "[Z"))
set_option maxRecDepth 65536 in
set_option maxHeartbeats 40000000 in
theorem rm5 (l : Launch) (Z : State) (a0 : Array Value) (hw : ∀ d ∈ tables_1, d.before a0 Z = true) (ws : List Jvm.Cond) (o1 : Addr) (kc2 : ClassId) (h0 : Heap) (n0 : Nat) (O0 : Old Z n0 h0) (g_o1 : n0 ≤ o1) (Ov_kc2 : Ovr Z kc2 "java/lang/Boolean") (P0 : Arv Z h0 o1 kc2 (.object "java/lang/Boolean") (0 : Int32) [] .null) :
    MetFree l yn2 (head1 (Jvm.Cond.code yn2 prog_11_method_4_code 5 (some (.array .boolean)) :: ws) ({ frames := 1, cells := 3, slots := 56, locals := 13 } : Room)) (fun a U => a = #[(.ref o1), (.int 1)] ∧ Z.Warmed39 U.vm ∧ U.heap = h0) (fun _ _ _ _ _ => True) (fun _ U o U' => ∃ v L, o = .returned v ∧ Q5 Z o1 kc2 h0 n0 v U'.heap L ∧ ReturnedEndW U o U' L ({ frames := 1, cells := 3, slots := 56, locals := 13 } : Room).cells ({ frames := 1, cells := 3, slots := 56, locals := 13 } : Room).slots) := by
  refine MetFree.of_bodySF (plainFor_of_name pn1) hisR ?_
  intro p e s m args below meth c s₁ Bd hml0 hP hK
  obtain ⟨rfl, hZ, hh⟩ := hP
  have hx := Bd.exec
  have hby := Bd.bytes
  have hml : c.maxLocals = 5 := hml0
  have hown : s.vm.findClass "com/example/castless/castless/PrimitiveArrays" = some m.cls := findClass_of_methodNamed Bd.named
  have hnm := (name_of_methodNamed Bd.named Bd.method).1
  have hret := Bd.returns
  have hlk : meth.locks = false := BodyLoose.notSynchronized Bd
  have X0 : Stand p l e ({ frames := 1, cells := 3, slots := 56, locals := 13 } : Room) s m #[(.ref o1), (.int 1)] below meth c s₁ [] 0 0 := Stand.of_body Bd
  have e0 : s₁.heap = h0 := by rw [← hh, Bd.state]; rfl
  have N0 := Fr.nil n0
  have pre0 : ∀ t, Steps p.tables e below (s₁.setTop (mkF m 0 #[.val (.ref o1), .val (.int 1), .unset, .unset, .unset] [])) t → Steps p.tables e below (s₁.setTop (entryFrame m #[(.ref o1), (.int 1)] 5)) t := fun t k => castTop (ef5 m o1 (1 : Int32)) k
  have pre1 : ∀ t, Steps p.tables e below (s₁.setTop (mkF m 1 #[.val (.ref o1), .val (.int 1), .unset, .unset, .unset] [(.ref o1)])) t → Steps p.tables e below (s₁.setTop (entryFrame m #[(.ref o1), (.int 1)] 5)) t := fun t k => by
    refine pre0 _ ?_
    show Steps p.tables e below (s₁.setTop (mkF m 0 #[.val (.ref o1), .val (.int 1), .unset, .unset, .unset] [])) _
    refine XS.aloadN X0.here hx rfl (hb hby d2_0) rfl rfl ?_
    exact k
  obtain ⟨sx2, T2, h2, ks2, X2, e2, E2, hS2, hk2, hZ, hown, st2⟩ := ldcS (s := s) (vm0 := s.vm) X0 hx hZ hown (own_w hw 6 rfl) (own_sa hw) e0 ((State.WarmedH.refl s).since h0.size) (Nat.le_refl _) (g := (mkF m 1 #[.val (.ref o1), .val (.int 1), .unset, .unset, .unset] [(.ref o1)])) rfl (hb hby d2_1) (n := 52) (by decide) (by decide) (by decide) (by decide)
  have M2 : h0.size ≤ h2.size := Nat.le_trans (Nat.le_refl _) E2.1
  have O2 := Old.ext O0 E2
  obtain ⟨_, T3, L3, X3, hQ3, st3⟩ := own_cs X2 hx hZ hown (y := yn0) (own_w hw 14 rfl) (own_w hw 15 rfl) (own_w hw 17 rfl) (own_w hw 16 rfl) e2 (argsL := [(.ref o1), (.ref sx2)]) (rest := []) (rm3 l Z a0 hw [] o1 kc2 sx2 h2 n0 O2 g_o1 Ov_kc2) (g := (mkF m 3 #[.val (.ref o1), .val (.int 1), .unset, .unset, .unset] [(.ref sx2), (.ref o1)])) rfl (by rw [hml]; rfl) rfl (hb hby d2_3) (lenOf pd0 rfl) (W := 0) (c1 := 2) (s1 := 56)
  obtain ⟨rfl, Nq4, e5⟩ := hQ3
  have N3 := Fr.app N0 Nq4
  have f6 := (P0.ext E2)
  obtain ⟨cl7, Ar7, qa7, Sa7, Na7, Ha7, Ga7⟩ := id (f6)
  obtain ⟨T8, h8, k8, X8, e8, E8, A8, EX8, st8⟩ := newPE X3 hx hZ (own_w hw 1 rfl) e5 (g := (mkF m 9 #[.val (.ref o1), .val (.int 1), .unset, .unset, .unset] [(.int 0)])) rfl (hb hby d2_9) rfl (by decide) (cap := 0) (by decide) (by decide) (by decide) (by decide) (ad := "[Z") (by decide)
  obtain ⟨b8, g8⟩ : ∃ z, z = h2.size := ⟨_, rfl⟩
  rw [← g8] at A8 EX8 st8
  have hkk8 := Nat.le_trans hk2 E8.1
  have M8 : h0.size ≤ h8.size := Nat.le_trans M2 E8.1
  have O8 := Old.ext O2 E8
  have sz_b8 : h2.size ≤ b8 := Nat.le_of_eq g8.symm
  have g_b8 : n0 ≤ b8 := Nat.le_trans (own_oz O0) (Nat.le_trans M2 sz_b8)
  have V8_0 := Arv.new A8 (by decide)
  have V8 : Arv Z h8 b8 k8 .boolean (0 : Int32) [] (.int 0) := V8_0
  have f9 := (f6.ext E8)
  obtain ⟨cl10, Ar10, qa10, Sa10, Na10, Ha10, Ga10⟩ := id (f9)
  obtain ⟨fs, hr, hrun, hended, hRE⟩ := X8.leaveW hS2 (by rw [e8]; exact hkk8) (v := some (.ref b8)) (fun h => by rw [hret] at h; cases h)
  have KL : Keep h0 h8 [] := (((Keep.refl h0 []).ext E2).ext E8)
  refine ⟨_, _, pre1 _ ?_, hrun, hended, _, _, rfl, ?_, hRE.1, hRE.2.1, hRE.2.2.1, hRE.2.2.2.mono (by decide) (by decide)⟩
  ·
    show Steps p.tables e below (s₁.setTop (mkF m 1 #[.val (.ref o1), .val (.int 1), .unset, .unset, .unset] [(.ref o1)])) _
    refine st2 _ ?_
    refine st3 _ ?_
    refine XS.pop X3.here hx rfl (hb hby d2_6) rfl rfl ?_
    refine XS.aloadN X3.here hx rfl (hb hby d2_7) rfl rfl ?_
    refine X3.arraylength hx (by rw [e5]; exact Ar7.1) (State.isArrayOf_alike hZ.alike Ar7.2.1) (g := (mkF m 8 #[.val (.ref o1), .val (.int 1), .unset, .unset, .unset] [(.ref o1)])) rfl rfl (hb hby d2_8) _ ?_
    rw [len_of Sa7 Na7]
    refine st8 _ ?_
    refine XS.astoreN X8.here hx rfl (hb hby d2_11) rfl rfl (l' := #[.val (.ref o1), .val (.int 1), .val (.ref b8), .unset, .unset]) rfl ?_
    refine XS.iconst X8.here hx rfl (hb hby d2_12) ?_
    refine XS.istoreN X8.here hx rfl (hb hby d2_13) rfl (l' := #[.val (.ref o1), .val (.int 1), .val (.ref b8), .val (.int 0), .unset]) rfl ?_
    refine XS.iloadN X8.here hx rfl (hb hby d2_14) rfl ?_
    refine XS.aloadN X8.here hx rfl (hb hby d2_15) rfl rfl ?_
    refine X8.arraylength hx (by rw [e8]; exact Ar10.1) (State.isArrayOf_alike hZ.alike Ar10.2.1) (g := (mkF m 16 #[.val (.ref o1), .val (.int 1), .val (.ref b8), .val (.int 0), .unset] [(.ref o1), (.int 0)])) rfl rfl (hb hby d2_16) _ ?_
    rw [len_of Sa10 Na10]
    refine XS.icmpYes X8.here hx rfl (pc0 := 17) (pc' := 48) rfl (hb hby d2_17) rfl (flt (by decide : ¬ ((0 : Int32) < (0 : Int32)))).2.1 (by decide) (by decide) ?_
    refine XS.aloadN X8.here hx rfl (hb hby d2_48) rfl rfl ?_
    show Steps p.tables e below (T8.setTop (mkF m 49 #[.val (.ref o1), .val (.int 1), .val (.ref b8), .val (.int 0), .unset] [(.ref b8)])) _
    exact retOut X8 hx hret rfl (Or.inr (Or.inr (Or.inr (Or.inr ⟨rfl, rfl, rfl⟩)))) (hb hby d2_49) hr
  ·
    show Q5 Z o1 kc2 h0 n0 _ T8.heap _
    rw [e8]
    exact ⟨b8, k8, rfl, N3, KL, (Nat.le_trans M2 sz_b8), V8, EX8⟩
theorem d3_0 : decode method_3_code 0 = .ok (.iload_n 3, 1) := by decide +kernel
theorem d3_1 : decode method_3_code 1 = .ok (.iload 4, 2) := by decide +kernel
theorem d3_3 : decode method_3_code 3 = .ok (.if_icmp .lt 5, 3) := by decide +kernel
theorem d3_6 : decode method_3_code 6 = .ok (.iconst 1, 1) := by decide +kernel
theorem d3_7 : decode method_3_code 7 = .ok (.ireturn, 1) := by decide +kernel
theorem pn2 : plainName "com/example/castless/castless/PrimitiveArraysBoxPinLaw" = true := by first | (simp [plainName, overriddenIn]; done) | decide +kernel
theorem ef6 (m : MethodId) (x0 : Addr) (x1 : Addr) (x2 : Addr) (x3 : Int32) (x4 : Int32) (x5 : Int32) : entryFrame m #[(.ref x0), (.ref x1), (.ref x2), (.int x3), (.int x4), (.int x5)] 6 = mkF m 0 #[.val (.ref x0), .val (.ref x1), .val (.ref x2), .val (.int x3), .val (.int x4), .val (.int x5)] [] := by first | (simp [entryFrame, mkF, argsToLocals, Value.category]; done) | rfl
def Q6 (Z : State) (o1 : Addr) (o2 : Addr) (o3 : Addr) (p4 : Int32) (h0 : Heap) (n0 : Nat) (v : Option Value) (h : Heap) (L : List Loc) : Prop :=
  (v = some (.int 1) ∧ Fr n0 L ∧ h = h0)
set_option maxRecDepth 65536 in
set_option maxHeartbeats 40000000 in
theorem rm6 (l : Launch) (Z : State) (a0 : Array Value) (hw : ∀ d ∈ tables_1, d.before a0 Z = true) (ws : List Jvm.Cond) (o1 : Addr) (o2 : Addr) (o3 : Addr) (p4 : Int32) (h0 : Heap) (n0 : Nat) (O0 : Old Z n0 h0) (g_o1 : n0 ≤ o1) (g_o2 : n0 ≤ o2) (g_o3 : n0 ≤ o3) (bd_p4 : 0 ≤ p4.toInt ∧ p4.toInt ≤ 1) :
    MetFree l yn3 (head1 (Jvm.Cond.code yn3 method_3_code 6 (some .boolean) :: ws) ({ frames := 0, cells := 0, slots := 0, locals := 0 } : Room)) (fun a U => a = #[(.ref o1), (.ref o2), (.ref o3), (.int 0), (.int 0), (.int p4)] ∧ Z.Warmed39 U.vm ∧ U.heap = h0) (fun _ _ _ _ _ => True) (fun _ U o U' => ∃ v L, o = .returned v ∧ Q6 Z o1 o2 o3 p4 h0 n0 v U'.heap L ∧ FrameEnd U o U' L ({ frames := 0, cells := 0, slots := 0, locals := 0 } : Room).cells ({ frames := 0, cells := 0, slots := 0, locals := 0 } : Room).slots) := by
  refine MetFree.of_bodySF (plainFor_of_name pn2) hisR ?_
  intro p e s m args below meth c s₁ Bd hml0 hP hK
  obtain ⟨rfl, hZ, hh⟩ := hP
  have hx := Bd.exec
  have hby := Bd.bytes
  have hml : c.maxLocals = 6 := hml0
  have hown : s.vm.findClass "com/example/castless/castless/PrimitiveArraysBoxPinLaw" = some m.cls := findClass_of_methodNamed Bd.named
  have hnm := (name_of_methodNamed Bd.named Bd.method).1
  have hret := Bd.returns
  have hlk : meth.locks = false := BodyLoose.notSynchronized Bd
  have X0 : Stand p l e ({ frames := 0, cells := 0, slots := 0, locals := 0 } : Room) s m #[(.ref o1), (.ref o2), (.ref o3), (.int 0), (.int 0), (.int p4)] below meth c s₁ [] 0 0 := Stand.of_body Bd
  have e0 : s₁.heap = h0 := by rw [← hh, Bd.state]; rfl
  have N0 := Fr.nil n0
  have pre0 : ∀ t, Steps p.tables e below (s₁.setTop (mkF m 0 #[.val (.ref o1), .val (.ref o2), .val (.ref o3), .val (.int 0), .val (.int 0), .val (.int p4)] [])) t → Steps p.tables e below (s₁.setTop (entryFrame m #[(.ref o1), (.ref o2), (.ref o3), (.int 0), (.int 0), (.int p4)] 6)) t := fun t k => castTop (ef6 m o1 o2 o3 (0 : Int32) (0 : Int32) p4) k
  obtain ⟨fs, hr, hrun, hended, hW, hsame⟩ := X0.leave (v := some (.int 1)) (fun h => by rw [hret] at h; cases h)
  refine ⟨_, _, pre0 _ ?_, hrun, hended, _, _, rfl, ?_, ⟨_, rfl⟩, hW, hsame.mono (by decide) (by decide)⟩
  ·
    show Steps p.tables e below (s₁.setTop (mkF m 0 #[.val (.ref o1), .val (.ref o2), .val (.ref o3), .val (.int 0), .val (.int 0), .val (.int p4)] [])) _
    refine XS.iloadN X0.here hx rfl (hb hby d3_0) rfl ?_
    refine XS.iload X0.here hx rfl (hb hby d3_1) rfl ?_
    refine XS.icmpNo X0.here hx rfl (hb hby d3_3) rfl (flt (by decide : ¬ ((0 : Int32) < (0 : Int32)))).1 ?_
    refine XS.iconst X0.here hx rfl (hb hby d3_6) ?_
    show Steps p.tables e below (s₁.setTop (mkF m 7 #[.val (.ref o1), .val (.ref o2), .val (.ref o3), .val (.int 0), .val (.int 0), .val (.int p4)] [(.int 1)])) _
    exact retN X0 hx (t := .boolean) hret (by simp) (hb hby d3_7) hr
  ·
    show Q6 Z o1 o2 o3 p4 h0 n0 _ s₁.heap _
    rw [e0]
    exact ⟨rfl, N0, rfl⟩
theorem pd3 : parseMethodDescriptor "([Z[Z[ZIIZ)Z" = some ⟨[(.array .boolean), (.array .boolean), (.array .boolean), .int, .int, .boolean], some .boolean⟩ := by decide +kernel
theorem ef7 (m : MethodId) (x0 : Addr) (x1 : Addr) (x2 : Addr) (x3 : Int32) (x4 : Int32) (x5 : Int32) : entryFrame m #[(.ref x0), (.ref x1), (.ref x2), (.int x3), (.int x4), (.int x5)] 6 = mkF m 0 #[.val (.ref x0), .val (.ref x1), .val (.ref x2), .val (.int x3), .val (.int x4), .val (.int x5)] [] := by first | (simp [entryFrame, mkF, argsToLocals, Value.category]; done) | rfl
def Q7 (Z : State) (o1 : Addr) (o2 : Addr) (o3 : Addr) (p4 : Int32) (h0 : Heap) (n0 : Nat) (v : Option Value) (h : Heap) (L : List Loc) : Prop :=
  (v = some (.int 1) ∧ Fr n0 L ∧ h = h0)
set_option maxRecDepth 65536 in
set_option maxHeartbeats 40000000 in
theorem rm7 (l : Launch) (Z : State) (a0 : Array Value) (hw : ∀ d ∈ tables_1, d.before a0 Z = true) (ws : List Jvm.Cond) (o1 : Addr) (o2 : Addr) (o3 : Addr) (p4 : Int32) (h0 : Heap) (n0 : Nat) (O0 : Old Z n0 h0) (g_o1 : n0 ≤ o1) (g_o2 : n0 ≤ o2) (g_o3 : n0 ≤ o3) (bd_p4 : 0 ≤ p4.toInt ∧ p4.toInt ≤ 1) :
    MetFree l yn3 (head1 (Jvm.Cond.code yn3 method_3_code 6 (some .boolean) :: ws) ({ frames := 0, cells := 0, slots := 0, locals := 0 } : Room)) (fun a U => a = #[(.ref o1), (.ref o2), (.ref o3), (.int 1), (.int 0), (.int p4)] ∧ Z.Warmed39 U.vm ∧ U.heap = h0) (fun _ _ _ _ _ => True) (fun _ U o U' => ∃ v L, o = .returned v ∧ Q7 Z o1 o2 o3 p4 h0 n0 v U'.heap L ∧ FrameEnd U o U' L ({ frames := 0, cells := 0, slots := 0, locals := 0 } : Room).cells ({ frames := 0, cells := 0, slots := 0, locals := 0 } : Room).slots) := by
  refine MetFree.of_bodySF (plainFor_of_name pn2) hisR ?_
  intro p e s m args below meth c s₁ Bd hml0 hP hK
  obtain ⟨rfl, hZ, hh⟩ := hP
  have hx := Bd.exec
  have hby := Bd.bytes
  have hml : c.maxLocals = 6 := hml0
  have hown : s.vm.findClass "com/example/castless/castless/PrimitiveArraysBoxPinLaw" = some m.cls := findClass_of_methodNamed Bd.named
  have hnm := (name_of_methodNamed Bd.named Bd.method).1
  have hret := Bd.returns
  have hlk : meth.locks = false := BodyLoose.notSynchronized Bd
  have X0 : Stand p l e ({ frames := 0, cells := 0, slots := 0, locals := 0 } : Room) s m #[(.ref o1), (.ref o2), (.ref o3), (.int 1), (.int 0), (.int p4)] below meth c s₁ [] 0 0 := Stand.of_body Bd
  have e0 : s₁.heap = h0 := by rw [← hh, Bd.state]; rfl
  have N0 := Fr.nil n0
  have pre0 : ∀ t, Steps p.tables e below (s₁.setTop (mkF m 0 #[.val (.ref o1), .val (.ref o2), .val (.ref o3), .val (.int 1), .val (.int 0), .val (.int p4)] [])) t → Steps p.tables e below (s₁.setTop (entryFrame m #[(.ref o1), (.ref o2), (.ref o3), (.int 1), (.int 0), (.int p4)] 6)) t := fun t k => castTop (ef7 m o1 o2 o3 (1 : Int32) (0 : Int32) p4) k
  obtain ⟨fs, hr, hrun, hended, hW, hsame⟩ := X0.leave (v := some (.int 1)) (fun h => by rw [hret] at h; cases h)
  refine ⟨_, _, pre0 _ ?_, hrun, hended, _, _, rfl, ?_, ⟨_, rfl⟩, hW, hsame.mono (by decide) (by decide)⟩
  ·
    show Steps p.tables e below (s₁.setTop (mkF m 0 #[.val (.ref o1), .val (.ref o2), .val (.ref o3), .val (.int 1), .val (.int 0), .val (.int p4)] [])) _
    refine XS.iloadN X0.here hx rfl (hb hby d3_0) rfl ?_
    refine XS.iload X0.here hx rfl (hb hby d3_1) rfl ?_
    refine XS.icmpNo X0.here hx rfl (hb hby d3_3) rfl (flt (by decide : ¬ ((1 : Int32) < (0 : Int32)))).1 ?_
    refine XS.iconst X0.here hx rfl (hb hby d3_6) ?_
    show Steps p.tables e below (s₁.setTop (mkF m 7 #[.val (.ref o1), .val (.ref o2), .val (.ref o3), .val (.int 1), .val (.int 0), .val (.int p4)] [(.int 1)])) _
    exact retN X0 hx (t := .boolean) hret (by simp) (hb hby d3_7) hr
  ·
    show Q7 Z o1 o2 o3 p4 h0 n0 _ s₁.heap _
    rw [e0]
    exact ⟨rfl, N0, rfl⟩
theorem ef8 (m : MethodId) (x0 : Addr) (x1 : Addr) (x2 : Addr) (x3 : Int32) (x4 : Int32) (x5 : Int32) : entryFrame m #[(.ref x0), (.ref x1), (.ref x2), (.int x3), (.int x4), (.int x5)] 6 = mkF m 0 #[.val (.ref x0), .val (.ref x1), .val (.ref x2), .val (.int x3), .val (.int x4), .val (.int x5)] [] := by first | (simp [entryFrame, mkF, argsToLocals, Value.category]; done) | rfl
def Q8 (Z : State) (o1 : Addr) (o2 : Addr) (o3 : Addr) (p4 : Int32) (h0 : Heap) (n0 : Nat) (v : Option Value) (h : Heap) (L : List Loc) : Prop :=
  (v = some (.int 1) ∧ Fr n0 L ∧ h = h0)
set_option maxRecDepth 65536 in
set_option maxHeartbeats 40000000 in
theorem rm8 (l : Launch) (Z : State) (a0 : Array Value) (hw : ∀ d ∈ tables_1, d.before a0 Z = true) (ws : List Jvm.Cond) (o1 : Addr) (o2 : Addr) (o3 : Addr) (p4 : Int32) (h0 : Heap) (n0 : Nat) (O0 : Old Z n0 h0) (g_o1 : n0 ≤ o1) (g_o2 : n0 ≤ o2) (g_o3 : n0 ≤ o3) (bd_p4 : 0 ≤ p4.toInt ∧ p4.toInt ≤ 1) :
    MetFree l yn3 (head1 (Jvm.Cond.code yn3 method_3_code 6 (some .boolean) :: ws) ({ frames := 0, cells := 0, slots := 0, locals := 0 } : Room)) (fun a U => a = #[(.ref o1), (.ref o2), (.ref o3), (.int 2), (.int 0), (.int p4)] ∧ Z.Warmed39 U.vm ∧ U.heap = h0) (fun _ _ _ _ _ => True) (fun _ U o U' => ∃ v L, o = .returned v ∧ Q8 Z o1 o2 o3 p4 h0 n0 v U'.heap L ∧ FrameEnd U o U' L ({ frames := 0, cells := 0, slots := 0, locals := 0 } : Room).cells ({ frames := 0, cells := 0, slots := 0, locals := 0 } : Room).slots) := by
  refine MetFree.of_bodySF (plainFor_of_name pn2) hisR ?_
  intro p e s m args below meth c s₁ Bd hml0 hP hK
  obtain ⟨rfl, hZ, hh⟩ := hP
  have hx := Bd.exec
  have hby := Bd.bytes
  have hml : c.maxLocals = 6 := hml0
  have hown : s.vm.findClass "com/example/castless/castless/PrimitiveArraysBoxPinLaw" = some m.cls := findClass_of_methodNamed Bd.named
  have hnm := (name_of_methodNamed Bd.named Bd.method).1
  have hret := Bd.returns
  have hlk : meth.locks = false := BodyLoose.notSynchronized Bd
  have X0 : Stand p l e ({ frames := 0, cells := 0, slots := 0, locals := 0 } : Room) s m #[(.ref o1), (.ref o2), (.ref o3), (.int 2), (.int 0), (.int p4)] below meth c s₁ [] 0 0 := Stand.of_body Bd
  have e0 : s₁.heap = h0 := by rw [← hh, Bd.state]; rfl
  have N0 := Fr.nil n0
  have pre0 : ∀ t, Steps p.tables e below (s₁.setTop (mkF m 0 #[.val (.ref o1), .val (.ref o2), .val (.ref o3), .val (.int 2), .val (.int 0), .val (.int p4)] [])) t → Steps p.tables e below (s₁.setTop (entryFrame m #[(.ref o1), (.ref o2), (.ref o3), (.int 2), (.int 0), (.int p4)] 6)) t := fun t k => castTop (ef8 m o1 o2 o3 (2 : Int32) (0 : Int32) p4) k
  obtain ⟨fs, hr, hrun, hended, hW, hsame⟩ := X0.leave (v := some (.int 1)) (fun h => by rw [hret] at h; cases h)
  refine ⟨_, _, pre0 _ ?_, hrun, hended, _, _, rfl, ?_, ⟨_, rfl⟩, hW, hsame.mono (by decide) (by decide)⟩
  ·
    show Steps p.tables e below (s₁.setTop (mkF m 0 #[.val (.ref o1), .val (.ref o2), .val (.ref o3), .val (.int 2), .val (.int 0), .val (.int p4)] [])) _
    refine XS.iloadN X0.here hx rfl (hb hby d3_0) rfl ?_
    refine XS.iload X0.here hx rfl (hb hby d3_1) rfl ?_
    refine XS.icmpNo X0.here hx rfl (hb hby d3_3) rfl (flt (by decide : ¬ ((2 : Int32) < (0 : Int32)))).1 ?_
    refine XS.iconst X0.here hx rfl (hb hby d3_6) ?_
    show Steps p.tables e below (s₁.setTop (mkF m 7 #[.val (.ref o1), .val (.ref o2), .val (.ref o3), .val (.int 2), .val (.int 0), .val (.int p4)] [(.int 1)])) _
    exact retN X0 hx (t := .boolean) hret (by simp) (hb hby d3_7) hr
  ·
    show Q8 Z o1 o2 o3 p4 h0 n0 _ s₁.heap _
    rw [e0]
    exact ⟨rfl, N0, rfl⟩
theorem ef9 (m : MethodId) (x0 : Addr) (x1 : Addr) (x2 : Addr) (x3 : Int32) (x4 : Int32) (x5 : Int32) : entryFrame m #[(.ref x0), (.ref x1), (.ref x2), (.int x3), (.int x4), (.int x5)] 6 = mkF m 0 #[.val (.ref x0), .val (.ref x1), .val (.ref x2), .val (.int x3), .val (.int x4), .val (.int x5)] [] := by first | (simp [entryFrame, mkF, argsToLocals, Value.category]; done) | rfl
def Q9 (Z : State) (o1 : Addr) (o2 : Addr) (o3 : Addr) (p4 : Int32) (h0 : Heap) (n0 : Nat) (v : Option Value) (h : Heap) (L : List Loc) : Prop :=
  (v = some (.int 1) ∧ Fr n0 L ∧ h = h0)
set_option maxRecDepth 65536 in
set_option maxHeartbeats 40000000 in
theorem rm9 (l : Launch) (Z : State) (a0 : Array Value) (hw : ∀ d ∈ tables_1, d.before a0 Z = true) (ws : List Jvm.Cond) (o1 : Addr) (o2 : Addr) (o3 : Addr) (p4 : Int32) (h0 : Heap) (n0 : Nat) (O0 : Old Z n0 h0) (g_o1 : n0 ≤ o1) (g_o2 : n0 ≤ o2) (g_o3 : n0 ≤ o3) (bd_p4 : 0 ≤ p4.toInt ∧ p4.toInt ≤ 1) :
    MetFree l yn3 (head1 (Jvm.Cond.code yn3 method_3_code 6 (some .boolean) :: ws) ({ frames := 0, cells := 0, slots := 0, locals := 0 } : Room)) (fun a U => a = #[(.ref o1), (.ref o2), (.ref o3), (.int 3), (.int 0), (.int p4)] ∧ Z.Warmed39 U.vm ∧ U.heap = h0) (fun _ _ _ _ _ => True) (fun _ U o U' => ∃ v L, o = .returned v ∧ Q9 Z o1 o2 o3 p4 h0 n0 v U'.heap L ∧ FrameEnd U o U' L ({ frames := 0, cells := 0, slots := 0, locals := 0 } : Room).cells ({ frames := 0, cells := 0, slots := 0, locals := 0 } : Room).slots) := by
  refine MetFree.of_bodySF (plainFor_of_name pn2) hisR ?_
  intro p e s m args below meth c s₁ Bd hml0 hP hK
  obtain ⟨rfl, hZ, hh⟩ := hP
  have hx := Bd.exec
  have hby := Bd.bytes
  have hml : c.maxLocals = 6 := hml0
  have hown : s.vm.findClass "com/example/castless/castless/PrimitiveArraysBoxPinLaw" = some m.cls := findClass_of_methodNamed Bd.named
  have hnm := (name_of_methodNamed Bd.named Bd.method).1
  have hret := Bd.returns
  have hlk : meth.locks = false := BodyLoose.notSynchronized Bd
  have X0 : Stand p l e ({ frames := 0, cells := 0, slots := 0, locals := 0 } : Room) s m #[(.ref o1), (.ref o2), (.ref o3), (.int 3), (.int 0), (.int p4)] below meth c s₁ [] 0 0 := Stand.of_body Bd
  have e0 : s₁.heap = h0 := by rw [← hh, Bd.state]; rfl
  have N0 := Fr.nil n0
  have pre0 : ∀ t, Steps p.tables e below (s₁.setTop (mkF m 0 #[.val (.ref o1), .val (.ref o2), .val (.ref o3), .val (.int 3), .val (.int 0), .val (.int p4)] [])) t → Steps p.tables e below (s₁.setTop (entryFrame m #[(.ref o1), (.ref o2), (.ref o3), (.int 3), (.int 0), (.int p4)] 6)) t := fun t k => castTop (ef9 m o1 o2 o3 (3 : Int32) (0 : Int32) p4) k
  obtain ⟨fs, hr, hrun, hended, hW, hsame⟩ := X0.leave (v := some (.int 1)) (fun h => by rw [hret] at h; cases h)
  refine ⟨_, _, pre0 _ ?_, hrun, hended, _, _, rfl, ?_, ⟨_, rfl⟩, hW, hsame.mono (by decide) (by decide)⟩
  ·
    show Steps p.tables e below (s₁.setTop (mkF m 0 #[.val (.ref o1), .val (.ref o2), .val (.ref o3), .val (.int 3), .val (.int 0), .val (.int p4)] [])) _
    refine XS.iloadN X0.here hx rfl (hb hby d3_0) rfl ?_
    refine XS.iload X0.here hx rfl (hb hby d3_1) rfl ?_
    refine XS.icmpNo X0.here hx rfl (hb hby d3_3) rfl (flt (by decide : ¬ ((3 : Int32) < (0 : Int32)))).1 ?_
    refine XS.iconst X0.here hx rfl (hb hby d3_6) ?_
    show Steps p.tables e below (s₁.setTop (mkF m 7 #[.val (.ref o1), .val (.ref o2), .val (.ref o3), .val (.int 3), .val (.int 0), .val (.int p4)] [(.int 1)])) _
    exact retN X0 hx (t := .boolean) hret (by simp) (hb hby d3_7) hr
  ·
    show Q9 Z o1 o2 o3 p4 h0 n0 _ s₁.heap _
    rw [e0]
    exact ⟨rfl, N0, rfl⟩
theorem ef10 (m : MethodId) (x0 : Addr) (x1 : Addr) : entryFrame m #[(.ref x0), (.ref x1)] 2 = mkF m 0 #[.val (.ref x0), .val (.ref x1)] [] := by first | (simp [entryFrame, mkF, argsToLocals, Value.category]; done) | rfl
def Q10 (Z : State) (o1 : Addr) (u2 : Addr) (h0 : Heap) (n0 : Nat) (v : Option Value) (h : Heap) (L : List Loc) : Prop :=
  (v = some (.ref o1) ∧ Fr n0 L ∧ h = h0)
set_option maxRecDepth 65536 in
set_option maxHeartbeats 40000000 in
theorem rm10 (l : Launch) (Z : State) (a0 : Array Value) (hw : ∀ d ∈ tables_1, d.before a0 Z = true) (ws : List Jvm.Cond) (o1 : Addr) (u2 : Addr) (h0 : Heap) (n0 : Nat) (O0 : Old Z n0 h0) (g_o1 : n0 ≤ o1) :
    MetFree l yn0 (head1 (Jvm.Cond.code yn0 jdk_31_method_11_code 2 (some (.object "java/lang/Object")) :: ws) ({ frames := 0, cells := 0, slots := 0, locals := 0 } : Room)) (fun a U => a = #[(.ref o1), (.ref u2)] ∧ Z.Warmed39 U.vm ∧ U.heap = h0) (fun _ _ _ _ _ => True) (fun _ U o U' => ∃ v L, o = .returned v ∧ Q10 Z o1 u2 h0 n0 v U'.heap L ∧ FrameEnd U o U' L ({ frames := 0, cells := 0, slots := 0, locals := 0 } : Room).cells ({ frames := 0, cells := 0, slots := 0, locals := 0 } : Room).slots) := by
  refine MetFree.of_bodySF (plainFor_of_name pn0) hisR ?_
  intro p e s m args below meth c s₁ Bd hml0 hP hK
  obtain ⟨rfl, hZ, hh⟩ := hP
  have hx := Bd.exec
  have hby := Bd.bytes
  have hml : c.maxLocals = 2 := hml0
  have hown : s.vm.findClass "java/util/Objects" = some m.cls := findClass_of_methodNamed Bd.named
  have hnm := (name_of_methodNamed Bd.named Bd.method).1
  have hret := Bd.returns
  have hlk : meth.locks = false := BodyLoose.notSynchronized Bd
  have X0 : Stand p l e ({ frames := 0, cells := 0, slots := 0, locals := 0 } : Room) s m #[(.ref o1), (.ref u2)] below meth c s₁ [] 0 0 := Stand.of_body Bd
  have e0 : s₁.heap = h0 := by rw [← hh, Bd.state]; rfl
  have N0 := Fr.nil n0
  have pre0 : ∀ t, Steps p.tables e below (s₁.setTop (mkF m 0 #[.val (.ref o1), .val (.ref u2)] [])) t → Steps p.tables e below (s₁.setTop (entryFrame m #[(.ref o1), (.ref u2)] 2)) t := fun t k => castTop (ef10 m o1 u2) k
  obtain ⟨fs, hr, hrun, hended, hW, hsame⟩ := X0.leave (v := some (.ref o1)) (fun h => by rw [hret] at h; cases h)
  refine ⟨_, _, pre0 _ ?_, hrun, hended, _, _, rfl, ?_, ⟨_, rfl⟩, hW, hsame.mono (by decide) (by decide)⟩
  ·
    show Steps p.tables e below (s₁.setTop (mkF m 0 #[.val (.ref o1), .val (.ref u2)] [])) _
    refine XS.aloadN X0.here hx rfl (hb hby d1_0) rfl rfl ?_
    refine XS.ifnonnullYes X0.here hx rfl (pc0 := 1) (pc' := 13) rfl (hb hby d1_1) rfl (by decide) (by decide) ?_
    refine XS.aloadN X0.here hx rfl (hb hby d1_13) rfl rfl ?_
    show Steps p.tables e below (s₁.setTop (mkF m 14 #[.val (.ref o1), .val (.ref u2)] [(.ref o1)])) _
    exact retOut X0 hx hret rfl (Or.inr (Or.inr (Or.inr (Or.inr ⟨rfl, rfl, rfl⟩)))) (hb hby d1_14) hr
  ·
    show Q10 Z o1 u2 h0 n0 _ s₁.heap _
    rw [e0]
    exact ⟨rfl, N0, rfl⟩
theorem d0_21 : decode prog_11_method_2_code 21 = .ok (.aload_n 1, 1) := by decide +kernel
theorem d0_22 : decode prog_11_method_2_code 22 = .ok (.iload_n 2, 1) := by decide +kernel
theorem d0_23 : decode prog_11_method_2_code 23 = .ok (.aload_n 0, 1) := by decide +kernel
theorem d0_24 : decode prog_11_method_2_code 24 = .ok (.iload_n 2, 1) := by decide +kernel
theorem d0_25 : decode prog_11_method_2_code 25 = .ok (.baload, 1) := by decide +kernel
theorem d0_26 : decode prog_11_method_2_code 26 = .ok (.invokestatic 19, 3) := by decide +kernel
theorem d4_0 : decode jdk_2055_method_5_code 0 = .ok (.iload_n 0, 1) := by decide +kernel
theorem d4_1 : decode jdk_2055_method_5_code 1 = .ok (.ifCond .eq 9, 3) := by decide +kernel
theorem d4_10 : decode jdk_2055_method_5_code 10 = .ok (.getstatic 31, 3) := by decide +kernel
theorem d4_13 : decode jdk_2055_method_5_code 13 = .ok (.areturn, 1) := by decide +kernel
theorem d4_4 : decode jdk_2055_method_5_code 4 = .ok (.getstatic 27, 3) := by decide +kernel
theorem d4_7 : decode jdk_2055_method_5_code 7 = .ok (.goto 6, 3) := by decide +kernel
theorem pn3 : plainName "java/lang/Boolean" = true := by first | (simp [plainName, overriddenIn]; done) | decide +kernel
theorem ef11 (m : MethodId) (x0 : Int32) : entryFrame m #[(.int x0)] 1 = mkF m 0 #[.val (.int x0)] [] := by first | (simp [entryFrame, mkF, argsToLocals, Value.category]; done) | rfl
def Q11 (Z : State) (w1 : Addr) (w2 : Addr) (p1 : Int32) (h0 : Heap) (n0 : Nat) (v : Option Value) (h : Heap) (L : List Loc) : Prop :=
  (∃ v1 : Addr, v = some (.ref v1) ∧ Fr n0 L ∧ h = h0 ∧ (Exa Z Z.heap v1 "java/lang/Boolean") ∧ (Fld Z Z.heap v1 "java/lang/Boolean" "value" "Z" (.int p1)))
set_option maxRecDepth 65536 in
set_option maxHeartbeats 40000000 in
theorem rm11 (l : Launch) (Z : State) (a0 : Array Value) (hw : ∀ d ∈ tables_1, d.before a0 Z = true) (w1 : Addr) (w2 : Addr) (G : GW Z w1 w2) (ws : List Jvm.Cond) (p1 : Int32) (h0 : Heap) (n0 : Nat) (O0 : Old Z n0 h0) (bd_p1 : 0 ≤ p1.toInt ∧ p1.toInt ≤ 1) :
    MetFree l yn4 (head1 (Jvm.Cond.code yn4 jdk_2055_method_5_code 1 (some (.object "java/lang/Boolean")) :: ws) ({ frames := 0, cells := 0, slots := 0, locals := 0 } : Room)) (fun a U => a = #[(.int p1)] ∧ Z.Warmed39 U.vm ∧ U.heap = h0) (fun _ _ _ _ _ => True) (fun _ U o U' => ∃ v L, o = .returned v ∧ Q11 Z w1 w2 p1 h0 n0 v U'.heap L ∧ FrameEnd U o U' L ({ frames := 0, cells := 0, slots := 0, locals := 0 } : Room).cells ({ frames := 0, cells := 0, slots := 0, locals := 0 } : Room).slots) := by
  obtain ⟨S_w1, E_w1, S_w2, E_w2, F_w1_value, F_w2_value⟩ := id G
  refine MetFree.of_bodySF (plainFor_of_name pn3) hisR ?_
  intro p e s m args below meth c s₁ Bd hml0 hP hK
  obtain ⟨rfl, hZ, hh⟩ := hP
  have hx := Bd.exec
  have hby := Bd.bytes
  have hml : c.maxLocals = 1 := hml0
  have hown : s.vm.findClass "java/lang/Boolean" = some m.cls := findClass_of_methodNamed Bd.named
  have hnm := (name_of_methodNamed Bd.named Bd.method).1
  have hret := Bd.returns
  have hlk : meth.locks = false := BodyLoose.notSynchronized Bd
  have X0 : Stand p l e ({ frames := 0, cells := 0, slots := 0, locals := 0 } : Room) s m #[(.int p1)] below meth c s₁ [] 0 0 := Stand.of_body Bd
  have e0 : s₁.heap = h0 := by rw [← hh, Bd.state]; rfl
  have N0 := Fr.nil n0
  have pre0 : ∀ t, Steps p.tables e below (s₁.setTop (mkF m 0 #[.val (.int p1)] [])) t → Steps p.tables e below (s₁.setTop (entryFrame m #[(.int p1)] 1)) t := fun t k => castTop (ef11 m p1) k
  have pre1 : ∀ t, Steps p.tables e below (s₁.setTop (mkF m 1 #[.val (.int p1)] [(.int p1)])) t → Steps p.tables e below (s₁.setTop (entryFrame m #[(.int p1)] 1)) t := fun t k => by
    refine pre0 _ ?_
    show Steps p.tables e below (s₁.setTop (mkF m 0 #[.val (.int p1)] [])) _
    refine XS.iloadN X0.here hx rfl (hb hby d4_0) rfl ?_
    exact k
  by_cases hc2 : p1 = (0 : Int32)
  ·
    have pre3 : ∀ t, Steps p.tables e below (s₁.setTop (mkF m 1 #[.val (.int 0)] [(.int 0)])) t → Steps p.tables e below (s₁.setTop (entryFrame m #[(.int p1)] 1)) t := fun t k => pre1 t (by rw [hc2]; exact k)
    obtain ⟨T4, X4, e4, st4⟩ := getS2 X0 hx hZ hown (host := "") (Or.inl (own_w hw 24 rfl)) Via.refl e0 (S_w1.ext O0.2) (g := (mkF m 10 #[.val (.int 0)] [])) rfl (hb hby d4_10)
    obtain ⟨fs, hr, hrun, hended, hW, hsame⟩ := X4.leave (v := some (.ref w1)) (fun h => by rw [hret] at h; cases h)
    refine ⟨_, _, pre3 _ ?_, hrun, hended, _, _, rfl, ?_, ⟨_, rfl⟩, hW, hsame.mono (by decide) (by decide)⟩
    ·
      show Steps p.tables e below (s₁.setTop (mkF m 1 #[.val (.int 0)] [(.int 0)])) _
      refine XS.ifYes X0.here hx rfl (pc0 := 1) (pc' := 10) rfl (hb hby d4_1) rfl ((if0 _ _).trans (teq (by decide : (0 : Int32) = (0 : Int32))).1) (by decide) (by decide) ?_
      refine st4 _ ?_
      show Steps p.tables e below (T4.setTop (mkF m 13 #[.val (.int 0)] [(.ref w1)])) _
      exact retOut X4 hx hret rfl (Or.inr (Or.inr (Or.inr (Or.inr ⟨rfl, rfl, rfl⟩)))) (hb hby d4_13) hr
    ·
      show Q11 Z w1 w2 p1 h0 n0 _ T4.heap _
      rw [e4]
      exact ⟨w1, rfl, N0, rfl, E_w1, (by rw [hc2]; exact F_w1_value)⟩
  ·
    have hq5 : p1 = (1 : Int32) := (own_geq (n := 1) (k := (1 : Int32)) (by decide) (by have q0 := bd_p1; have q1 := own_neq (n := 0) (k := (0 : Int32)) (by decide) hc2; omega))
    have pre6 : ∀ t, Steps p.tables e below (s₁.setTop (mkF m 1 #[.val (.int 1)] [(.int 1)])) t → Steps p.tables e below (s₁.setTop (entryFrame m #[(.int p1)] 1)) t := fun t k => pre1 t (by rw [hq5]; exact k)
    obtain ⟨T7, X7, e7, st7⟩ := getS2 X0 hx hZ hown (host := "") (Or.inl (own_w hw 40 rfl)) Via.refl e0 (S_w2.ext O0.2) (g := (mkF m 4 #[.val (.int 1)] [])) rfl (hb hby d4_4)
    obtain ⟨fs, hr, hrun, hended, hW, hsame⟩ := X7.leave (v := some (.ref w2)) (fun h => by rw [hret] at h; cases h)
    refine ⟨_, _, pre6 _ ?_, hrun, hended, _, _, rfl, ?_, ⟨_, rfl⟩, hW, hsame.mono (by decide) (by decide)⟩
    ·
      show Steps p.tables e below (s₁.setTop (mkF m 1 #[.val (.int 1)] [(.int 1)])) _
      refine XS.ifNo X0.here hx rfl (hb hby d4_1) rfl ((if0 _ _).trans (feq (by decide : ¬ ((1 : Int32) = (0 : Int32)))).1) ?_
      refine st7 _ ?_
      refine XS.goto X7.here hx rfl (pc0 := 7) (pc' := 13) rfl (hb hby d4_7) (by decide) (by decide) ?_
      show Steps p.tables e below (T7.setTop (mkF m 13 #[.val (.int 1)] [(.ref w2)])) _
      exact retOut X7 hx hret rfl (Or.inr (Or.inr (Or.inr (Or.inr ⟨rfl, rfl, rfl⟩)))) (hb hby d4_13) hr
    ·
      show Q11 Z w1 w2 p1 h0 n0 _ T7.heap _
      rw [e7]
      exact ⟨w2, rfl, N0, rfl, E_w2, (by rw [hq5]; exact F_w2_value)⟩
theorem pd4 : parseMethodDescriptor "(Z)Ljava/lang/Boolean;" = some ⟨[.boolean], some (.object "java/lang/Boolean")⟩ := by decide +kernel
theorem d0_29 : decode prog_11_method_2_code 29 = .ok (.aastore, 1) := by decide +kernel
theorem d0_30 : decode prog_11_method_2_code 30 = .ok (.iinc 2 1, 3) := by decide +kernel
theorem d0_33 : decode prog_11_method_2_code 33 = .ok (.goto (-18), 3) := by decide +kernel
theorem ef12 (m : MethodId) (x0 : Addr) : entryFrame m #[(.ref x0)] 3 = mkF m 0 #[.val (.ref x0), .unset, .unset] [] := by first | (simp [entryFrame, mkF, argsToLocals, Value.category]; done) | rfl
def Q12 (Z : State) (w1 : Addr) (w2 : Addr) (o1 : Addr) (p3 : Int32) (kc2 : ClassId) (h0 : Heap) (n0 : Nat) (v : Option Value) (h : Heap) (L : List Loc) : Prop :=
  (∃ b8 : Addr, ∃ k8 : ClassId, ∃ v13 : Addr, v = some (.ref b8) ∧ Fr n0 L ∧ Keep h0 h [] ∧ h0.size ≤ b8 ∧ Ovr Z k8 "java/lang/Boolean" ∧ (Arv Z h b8 k8 (.object "java/lang/Boolean") (1 : Int32) [(.ref v13)] .null) ∧ (Exa Z h b8 "[Ljava/lang/Boolean;") ∧ (Exa Z Z.heap v13 "java/lang/Boolean") ∧ (Fld Z Z.heap v13 "java/lang/Boolean" "value" "Z" (.int p3)))
set_option maxRecDepth 65536 in
set_option maxHeartbeats 40000000 in
theorem rm12 (l : Launch) (Z : State) (a0 : Array Value) (hw : ∀ d ∈ tables_1, d.before a0 Z = true) (w1 : Addr) (w2 : Addr) (G : GW Z w1 w2) (ws : List Jvm.Cond) (o1 : Addr) (p3 : Int32) (kc2 : ClassId) (h0 : Heap) (n0 : Nat) (O0 : Old Z n0 h0) (g_o1 : n0 ≤ o1) (bd_p3 : 0 ≤ p3.toInt ∧ p3.toInt ≤ 1) (P0 : Arv Z h0 o1 kc2 .boolean (1 : Int32) [(.int p3)] (.int 0)) :
    MetFree l yn1 (head1 (Jvm.Cond.code yn1 prog_11_method_2_code 3 (some (.array (.object "java/lang/Boolean"))) :: ws) ({ frames := 1, cells := 3, slots := 57, locals := 14 } : Room)) (fun a U => a = #[(.ref o1)] ∧ Z.Warmed39 U.vm ∧ U.heap = h0) (fun _ _ _ _ _ => True) (fun _ U o U' => ∃ v L, o = .returned v ∧ Q12 Z w1 w2 o1 p3 kc2 h0 n0 v U'.heap L ∧ ReturnedEndW U o U' L ({ frames := 1, cells := 3, slots := 57, locals := 14 } : Room).cells ({ frames := 1, cells := 3, slots := 57, locals := 14 } : Room).slots) := by
  obtain ⟨S_w1, E_w1, S_w2, E_w2, F_w1_value, F_w2_value⟩ := id G
  refine MetFree.of_bodySF (plainFor_of_name pn1) hisR ?_
  intro p e s m args below meth c s₁ Bd hml0 hP hK
  obtain ⟨rfl, hZ, hh⟩ := hP
  have hx := Bd.exec
  have hby := Bd.bytes
  have hml : c.maxLocals = 3 := hml0
  have hown : s.vm.findClass "com/example/castless/castless/PrimitiveArrays" = some m.cls := findClass_of_methodNamed Bd.named
  have hnm := (name_of_methodNamed Bd.named Bd.method).1
  have hret := Bd.returns
  have hlk : meth.locks = false := BodyLoose.notSynchronized Bd
  have X0 : Stand p l e ({ frames := 1, cells := 3, slots := 57, locals := 14 } : Room) s m #[(.ref o1)] below meth c s₁ [] 0 0 := Stand.of_body Bd
  have e0 : s₁.heap = h0 := by rw [← hh, Bd.state]; rfl
  have N0 := Fr.nil n0
  have pre0 : ∀ t, Steps p.tables e below (s₁.setTop (mkF m 0 #[.val (.ref o1), .unset, .unset] [])) t → Steps p.tables e below (s₁.setTop (entryFrame m #[(.ref o1)] 3)) t := fun t k => castTop (ef12 m o1) k
  have pre1 : ∀ t, Steps p.tables e below (s₁.setTop (mkF m 1 #[.val (.ref o1), .unset, .unset] [(.ref o1)])) t → Steps p.tables e below (s₁.setTop (entryFrame m #[(.ref o1)] 3)) t := fun t k => by
    refine pre0 _ ?_
    show Steps p.tables e below (s₁.setTop (mkF m 0 #[.val (.ref o1), .unset, .unset] [])) _
    refine XS.aloadN X0.here hx rfl (hb hby d0_0) rfl rfl ?_
    exact k
  obtain ⟨sx2, T2, h2, ks2, X2, e2, E2, hS2, hk2, hZ, hown, st2⟩ := ldcS (s := s) (vm0 := s.vm) X0 hx hZ hown (own_w hw 6 rfl) (own_sa hw) e0 ((State.WarmedH.refl s).since h0.size) (Nat.le_refl _) (g := (mkF m 1 #[.val (.ref o1), .unset, .unset] [(.ref o1)])) rfl (hb hby d0_1) (n := 52) (by decide) (by decide) (by decide) (by decide)
  have M2 : h0.size ≤ h2.size := Nat.le_trans (Nat.le_refl _) E2.1
  have O2 := Old.ext O0 E2
  obtain ⟨_, T3, L3, X3, hQ3, st3⟩ := own_cs X2 hx hZ hown (y := yn0) (own_w hw 14 rfl) (own_w hw 15 rfl) (own_w hw 17 rfl) (own_w hw 16 rfl) e2 (argsL := [(.ref o1), (.ref sx2)]) (rest := []) (rm10 l Z a0 hw [] o1 sx2 h2 n0 O2 g_o1) (g := (mkF m 3 #[.val (.ref o1), .unset, .unset] [(.ref sx2), (.ref o1)])) rfl (by rw [hml]; rfl) rfl (hb hby d0_3) (lenOf pd0 rfl) (W := 0) (c1 := 2) (s1 := 56)
  obtain ⟨rfl, Nq4, e5⟩ := hQ3
  have N3 := Fr.app N0 Nq4
  have f6 := (P0.ext E2)
  obtain ⟨cl7, Ar7, qa7, Sa7, Na7, Ha7, Ga7⟩ := id (f6)
  obtain ⟨T8, h8, k8, X8, e8, E8, A8, EX8, OV8, st8⟩ := newRE X3 hx hZ hown (own_w hw 18 rfl) (own_w hw 19 rfl) e5 (g := (mkF m 9 #[.val (.ref o1), .unset, .unset] [(.int 1)])) rfl (hb hby d0_9) rfl (by decide) (cap := 1) (by decide) (by decide) (by decide) (by decide) (ad := "[Ljava/lang/Boolean;") (by decide)
  obtain ⟨b8, g8⟩ : ∃ z, z = h2.size := ⟨_, rfl⟩
  rw [← g8] at A8 EX8 st8
  have hkk8 := Nat.le_trans hk2 E8.1
  have M8 : h0.size ≤ h8.size := Nat.le_trans M2 E8.1
  have O8 := Old.ext O2 E8
  have sz_b8 : h2.size ≤ b8 := Nat.le_of_eq g8.symm
  have g_b8 : n0 ≤ b8 := Nat.le_trans (own_oz O0) (Nat.le_trans M2 sz_b8)
  have V8_0 := Arv.new A8 (by decide)
  have V8 : Arv Z h8 b8 k8 (.object "java/lang/Boolean") (1 : Int32) [.null] .null := V8_0.pad (pad_rep [] .null 1)
  have f9 := (f6.ext E8)
  obtain ⟨cl10, Ar10, qa10, Sa10, Na10, Ha10, Ga10⟩ := id (f9)
  obtain ⟨cl11, Ar11, qa11, Sa11, Na11, Ha11, Ga11⟩ := id (f9)
  have hin11 : ¬ ((0 : Int32) < 0 ∨ cl11.slots.size ≤ ((0 : Int32)).toNatClampNeg) := inb_of Sa11 ⟨by decide, by decide⟩
  have hat11 : cl11.slots[((0 : Int32)).toNatClampNeg]? = some (.int p3) := Has.at Ha11 hin11 rfl
  obtain ⟨_, T12, L12, X12, hQ12, st12⟩ := own_cs X8 hx hZ hown (y := yn4) (own_w hw 20 rfl) (own_w hw 21 rfl) (own_w hw 23 rfl) (own_w hw 22 rfl) e8 (argsL := [(.int p3)]) (rest := [(.int 0), (.ref b8)]) (rm11 l Z a0 hw w1 w2 G [] p3 h8 n0 O8 (by have q0 := bd_p3; omega)) (g := (mkF m 26 #[.val (.ref o1), .val (.ref b8), .val (.int 0)] [(.int p3), (.int 0), (.ref b8)])) rfl (by rw [hml]; rfl) rfl (hb hby d0_26) (lenOf pd4 rfl) (W := 2) (c1 := 3) (s1 := 57)
  obtain ⟨v13, rfl, Nq14, e15, f16, f17⟩ := hQ12
  have N12 := Fr.app N3 Nq14
  obtain ⟨cl18, Ar18, qa18, Sa18, Na18, Ha18, Ga18⟩ := id (V8)
  have hin18 : ¬ ((0 : Int32) < 0 ∨ cl18.slots.size ≤ ((0 : Int32)).toNatClampNeg) := inb_of Sa18 ⟨by decide, by decide⟩
  obtain ⟨T19, h19, X19, e19, W19, st19⟩ := stR X12 hx hZ e15 Ar18 (j := (0 : Int32)) hin18 rfl (Sto.ofV Ar18 qa18 OV8 (Ins.self (f16.ext O8.2))) (g := (mkF m 29 #[.val (.ref o1), .val (.ref b8), .val (.int 0)] [(.ref v13), (.int 0), (.ref b8)])) rfl rfl (hb hby d0_29)
  have V19 : Arv Z h19 b8 k8 (.object "java/lang/Boolean") (1 : Int32) [(.ref v13)] .null := Arv.set Ar18 qa18 Sa18 Na18 Ha18 Ga18 rfl W19 0 rfl (Nat.le_of_ble_eq_true rfl)
  have N19 := Fr.snoc X19 N12 g_b8
  have hkk19 := Nat.le_trans hkk8 (Nat.le_of_eq W19.size.symm)
  have M19 : h0.size ≤ h19.size := Nat.le_trans M8 (Nat.le_of_eq W19.size.symm)
  have O19 := Old.wr O8 W19 g_b8
  have lt20 : o1 < h2.size := (Nat.lt_of_lt_of_le P0.lt E2.1)
  have ne21 : o1 ≠ b8 := Nat.ne_of_lt (Nat.lt_of_lt_of_le lt20 sz_b8)
  have f22 := (f9.other W19 ne21)
  obtain ⟨cl23, Ar23, qa23, Sa23, Na23, Ha23, Ga23⟩ := id (f22)
  obtain ⟨fs, hr, hrun, hended, hRE⟩ := X19.leaveW hS2 (by rw [e19]; exact hkk19) (v := some (.ref b8)) (fun h => by rw [hret] at h; cases h)
  have KL : Keep h0 h19 [] := ((((Keep.refl h0 []).ext E2).ext E8).wr W19 (Or.inr (Nat.le_trans M2 sz_b8)))
  have f24 := (EX8.wr W19)
  refine ⟨_, _, pre1 _ ?_, hrun, hended, _, _, rfl, ?_, hRE.1, hRE.2.1, hRE.2.2.1, hRE.2.2.2.mono (by decide) (by decide)⟩
  ·
    show Steps p.tables e below (s₁.setTop (mkF m 1 #[.val (.ref o1), .unset, .unset] [(.ref o1)])) _
    refine st2 _ ?_
    refine st3 _ ?_
    refine XS.pop X3.here hx rfl (hb hby d0_6) rfl rfl ?_
    refine XS.aloadN X3.here hx rfl (hb hby d0_7) rfl rfl ?_
    refine X3.arraylength hx (by rw [e5]; exact Ar7.1) (State.isArrayOf_alike hZ.alike Ar7.2.1) (g := (mkF m 8 #[.val (.ref o1), .unset, .unset] [(.ref o1)])) rfl rfl (hb hby d0_8) _ ?_
    rw [len_of Sa7 Na7]
    refine st8 _ ?_
    refine XS.astoreN X8.here hx rfl (hb hby d0_12) rfl rfl (l' := #[.val (.ref o1), .val (.ref b8), .unset]) rfl ?_
    refine XS.iconst X8.here hx rfl (hb hby d0_13) ?_
    refine XS.istoreN X8.here hx rfl (hb hby d0_14) rfl (l' := #[.val (.ref o1), .val (.ref b8), .val (.int 0)]) rfl ?_
    refine XS.iloadN X8.here hx rfl (hb hby d0_15) rfl ?_
    refine XS.aloadN X8.here hx rfl (hb hby d0_16) rfl rfl ?_
    refine X8.arraylength hx (by rw [e8]; exact Ar10.1) (State.isArrayOf_alike hZ.alike Ar10.2.1) (g := (mkF m 17 #[.val (.ref o1), .val (.ref b8), .val (.int 0)] [(.ref o1), (.int 0)])) rfl rfl (hb hby d0_17) _ ?_
    rw [len_of Sa10 Na10]
    refine XS.icmpNo X8.here hx rfl (hb hby d0_18) rfl (tlt (by decide : (0 : Int32) < (1 : Int32))).2.1 ?_
    refine XS.aloadN X8.here hx rfl (hb hby d0_21) rfl rfl ?_
    refine XS.iloadN X8.here hx rfl (hb hby d0_22) rfl ?_
    refine XS.aloadN X8.here hx rfl (hb hby d0_23) rfl rfl ?_
    refine XS.iloadN X8.here hx rfl (hb hby d0_24) rfl ?_
    refine X8.baloadBooleans hx (j := (0 : Int32)) (v := (.int p3)) (by rw [e8]; exact Ar11.1) (State.isArrayOf_alike hZ.alike Ar11.2.1) Ar11.2.2 hin11 hat11 (g := (mkF m 25 #[.val (.ref o1), .val (.ref b8), .val (.int 0)] [(.int 0), (.ref o1), (.int 0), (.ref b8)])) rfl rfl (hb hby d0_25) _ ?_
    refine st12 _ ?_
    refine st19 _ ?_
    refine XS.iinc X19.here hx rfl (hb hby d0_30) rfl (l' := #[.val (.ref o1), .val (.ref b8), .val (.int 1)]) rfl ?_
    refine XS.goto X19.here hx rfl (pc0 := 33) (pc' := 15) rfl (hb hby d0_33) (by decide) (by decide) ?_
    refine XS.iloadN X19.here hx rfl (hb hby d0_15) rfl ?_
    refine XS.aloadN X19.here hx rfl (hb hby d0_16) rfl rfl ?_
    refine X19.arraylength hx (by rw [e19]; exact Ar23.1) (State.isArrayOf_alike hZ.alike Ar23.2.1) (g := (mkF m 17 #[.val (.ref o1), .val (.ref b8), .val (.int 1)] [(.ref o1), (.int 1)])) rfl rfl (hb hby d0_17) _ ?_
    rw [len_of Sa23 Na23]
    refine XS.icmpYes X19.here hx rfl (pc0 := 18) (pc' := 36) rfl (hb hby d0_18) rfl (flt (by decide : ¬ ((1 : Int32) < (1 : Int32)))).2.1 (by decide) (by decide) ?_
    refine XS.aloadN X19.here hx rfl (hb hby d0_36) rfl rfl ?_
    show Steps p.tables e below (T19.setTop (mkF m 37 #[.val (.ref o1), .val (.ref b8), .val (.int 1)] [(.ref b8)])) _
    exact retOut X19 hx hret rfl (Or.inr (Or.inr (Or.inr (Or.inr ⟨rfl, rfl, rfl⟩)))) (hb hby d0_37) hr
  ·
    show Q12 Z w1 w2 o1 p3 kc2 h0 n0 _ T19.heap _
    rw [e19]
    exact ⟨b8, k8, v13, rfl, N19, KL, (Nat.le_trans M2 sz_b8), OV8, V19, f24, f16, f17⟩
theorem ef13 (m : MethodId) (x0 : Addr) (x1 : Addr) : entryFrame m #[(.ref x0), (.ref x1)] 2 = mkF m 0 #[.val (.ref x0), .val (.ref x1)] [] := by first | (simp [entryFrame, mkF, argsToLocals, Value.category]; done) | rfl
def Q13 (Z : State) (o1 : Addr) (kc3 : ClassId) (u2 : Addr) (h0 : Heap) (n0 : Nat) (v : Option Value) (h : Heap) (L : List Loc) : Prop :=
  (v = some (.ref o1) ∧ Fr n0 L ∧ h = h0)
set_option maxRecDepth 65536 in
set_option maxHeartbeats 40000000 in
theorem rm13 (l : Launch) (Z : State) (a0 : Array Value) (hw : ∀ d ∈ tables_1, d.before a0 Z = true) (ws : List Jvm.Cond) (o1 : Addr) (kc3 : ClassId) (u2 : Addr) (h0 : Heap) (n0 : Nat) (O0 : Old Z n0 h0) (g_o1 : n0 ≤ o1) (Ov_kc3 : Ovr Z kc3 "java/lang/Boolean") :
    MetFree l yn0 (head1 (Jvm.Cond.code yn0 jdk_31_method_11_code 2 (some (.object "java/lang/Object")) :: ws) ({ frames := 0, cells := 0, slots := 0, locals := 0 } : Room)) (fun a U => a = #[(.ref o1), (.ref u2)] ∧ Z.Warmed39 U.vm ∧ U.heap = h0) (fun _ _ _ _ _ => True) (fun _ U o U' => ∃ v L, o = .returned v ∧ Q13 Z o1 kc3 u2 h0 n0 v U'.heap L ∧ FrameEnd U o U' L ({ frames := 0, cells := 0, slots := 0, locals := 0 } : Room).cells ({ frames := 0, cells := 0, slots := 0, locals := 0 } : Room).slots) := by
  refine MetFree.of_bodySF (plainFor_of_name pn0) hisR ?_
  intro p e s m args below meth c s₁ Bd hml0 hP hK
  obtain ⟨rfl, hZ, hh⟩ := hP
  have hx := Bd.exec
  have hby := Bd.bytes
  have hml : c.maxLocals = 2 := hml0
  have hown : s.vm.findClass "java/util/Objects" = some m.cls := findClass_of_methodNamed Bd.named
  have hnm := (name_of_methodNamed Bd.named Bd.method).1
  have hret := Bd.returns
  have hlk : meth.locks = false := BodyLoose.notSynchronized Bd
  have X0 : Stand p l e ({ frames := 0, cells := 0, slots := 0, locals := 0 } : Room) s m #[(.ref o1), (.ref u2)] below meth c s₁ [] 0 0 := Stand.of_body Bd
  have e0 : s₁.heap = h0 := by rw [← hh, Bd.state]; rfl
  have N0 := Fr.nil n0
  have pre0 : ∀ t, Steps p.tables e below (s₁.setTop (mkF m 0 #[.val (.ref o1), .val (.ref u2)] [])) t → Steps p.tables e below (s₁.setTop (entryFrame m #[(.ref o1), (.ref u2)] 2)) t := fun t k => castTop (ef13 m o1 u2) k
  obtain ⟨fs, hr, hrun, hended, hW, hsame⟩ := X0.leave (v := some (.ref o1)) (fun h => by rw [hret] at h; cases h)
  refine ⟨_, _, pre0 _ ?_, hrun, hended, _, _, rfl, ?_, ⟨_, rfl⟩, hW, hsame.mono (by decide) (by decide)⟩
  ·
    show Steps p.tables e below (s₁.setTop (mkF m 0 #[.val (.ref o1), .val (.ref u2)] [])) _
    refine XS.aloadN X0.here hx rfl (hb hby d1_0) rfl rfl ?_
    refine XS.ifnonnullYes X0.here hx rfl (pc0 := 1) (pc' := 13) rfl (hb hby d1_1) rfl (by decide) (by decide) ?_
    refine XS.aloadN X0.here hx rfl (hb hby d1_13) rfl rfl ?_
    show Steps p.tables e below (s₁.setTop (mkF m 14 #[.val (.ref o1), .val (.ref u2)] [(.ref o1)])) _
    exact retOut X0 hx hret rfl (Or.inr (Or.inr (Or.inr (Or.inr ⟨rfl, rfl, rfl⟩)))) (hb hby d1_14) hr
  ·
    show Q13 Z o1 kc3 u2 h0 n0 _ s₁.heap _
    rw [e0]
    exact ⟨rfl, N0, rfl⟩
theorem d2_20 : decode prog_11_method_4_code 20 = .ok (.aload_n 0, 1) := by decide +kernel
theorem d2_21 : decode prog_11_method_4_code 21 = .ok (.iload_n 3, 1) := by decide +kernel
theorem d2_22 : decode prog_11_method_4_code 22 = .ok (.aaload, 1) := by decide +kernel
theorem d2_23 : decode prog_11_method_4_code 23 = .ok (.astore 4, 2) := by decide +kernel
theorem d2_25 : decode prog_11_method_4_code 25 = .ok (.aload_n 2, 1) := by decide +kernel
theorem d2_26 : decode prog_11_method_4_code 26 = .ok (.iload_n 3, 1) := by decide +kernel
theorem d2_27 : decode prog_11_method_4_code 27 = .ok (.aload 4, 2) := by decide +kernel
theorem d2_29 : decode prog_11_method_4_code 29 = .ok (.ifnonnull 7, 3) := by decide +kernel
theorem d2_36 : decode prog_11_method_4_code 36 = .ok (.aload 4, 2) := by decide +kernel
theorem d2_38 : decode prog_11_method_4_code 38 = .ok (.invokevirtual 27, 3) := by decide +kernel
theorem d5_0 : decode jdk_2055_method_4_code 0 = .ok (.aload_n 0, 1) := by decide +kernel
theorem d5_1 : decode jdk_2055_method_4_code 1 = .ok (.getfield 7, 3) := by decide +kernel
theorem d5_4 : decode jdk_2055_method_4_code 4 = .ok (.ireturn, 1) := by decide +kernel
theorem ef14 (m : MethodId) (x0 : Addr) : entryFrame m #[(.ref x0)] 1 = mkF m 0 #[.val (.ref x0)] [] := by first | (simp [entryFrame, mkF, argsToLocals, Value.category]; done) | rfl
def Q14 (Z : State) (p2 : Int32) (v1 : Addr) (h0 : Heap) (n0 : Nat) (v : Option Value) (h : Heap) (L : List Loc) : Prop :=
  (v = some (.int p2) ∧ Fr n0 L ∧ h = h0)
set_option maxRecDepth 65536 in
set_option maxHeartbeats 40000000 in
theorem rm14 (l : Launch) (Z : State) (a0 : Array Value) (hw : ∀ d ∈ tables_1, d.before a0 Z = true) (ws : List Jvm.Cond) (p2 : Int32) (v1 : Addr) (h0 : Heap) (n0 : Nat) (O0 : Old Z n0 h0) (bd_p2 : 0 ≤ p2.toInt ∧ p2.toInt ≤ 1) (P1 : Fld Z Z.heap v1 "java/lang/Boolean" "value" "Z" (.int p2)) :
    MetFree l yn5 (head1 (Jvm.Cond.code yn5 jdk_2055_method_4_code 1 (some .boolean) :: ws) ({ frames := 0, cells := 0, slots := 0, locals := 0 } : Room)) (fun a U => a = #[(.ref v1)] ∧ Z.Warmed39 U.vm ∧ U.heap = h0) (fun _ _ _ _ _ => True) (fun _ U o U' => ∃ v L, o = .returned v ∧ Q14 Z p2 v1 h0 n0 v U'.heap L ∧ FrameEnd U o U' L ({ frames := 0, cells := 0, slots := 0, locals := 0 } : Room).cells ({ frames := 0, cells := 0, slots := 0, locals := 0 } : Room).slots) := by
  refine MetFree.of_bodySF (plainFor_of_name pn3) hisR ?_
  intro p e s m args below meth c s₁ Bd hml0 hP hK
  obtain ⟨rfl, hZ, hh⟩ := hP
  have hx := Bd.exec
  have hby := Bd.bytes
  have hml : c.maxLocals = 1 := hml0
  have hown : s.vm.findClass "java/lang/Boolean" = some m.cls := findClass_of_methodNamed Bd.named
  have hnm := (name_of_methodNamed Bd.named Bd.method).1
  have hret := Bd.returns
  have hlk : meth.locks = false := BodyLoose.notSynchronized Bd
  have X0 : Stand p l e ({ frames := 0, cells := 0, slots := 0, locals := 0 } : Room) s m #[(.ref v1)] below meth c s₁ [] 0 0 := Stand.of_body Bd
  have e0 : s₁.heap = h0 := by rw [← hh, Bd.state]; rfl
  have N0 := Fr.nil n0
  have pre0 : ∀ t, Steps p.tables e below (s₁.setTop (mkF m 0 #[.val (.ref v1)] [])) t → Steps p.tables e below (s₁.setTop (entryFrame m #[(.ref v1)] 1)) t := fun t k => castTop (ef14 m v1) k
  obtain ⟨T1, X1, e1, st1⟩ := getF X0 hx hZ hown (host := "") (Or.inl (own_w hw 34 rfl)) Via.refl e0 (P1.ext O0.2) (g := (mkF m 1 #[.val (.ref v1)] [(.ref v1)])) rfl rfl (hb hby d5_1)
  obtain ⟨fs, hr, hrun, hended, hW, hsame⟩ := X1.leave (v := some (.int p2)) (fun h => by rw [hret] at h; cases h)
  have hnr := own_nz (x := p2) (by have q0 := bd_p2; omega)
  refine ⟨_, _, pre0 _ ?_, hrun, hended, _, _, rfl, ?_, ⟨_, rfl⟩, hW, hsame.mono (by decide) (by decide)⟩
  ·
    show Steps p.tables e below (s₁.setTop (mkF m 0 #[.val (.ref v1)] [])) _
    refine XS.aloadN X0.here hx rfl (hb hby d5_0) rfl rfl ?_
    refine st1 _ ?_
    show Steps p.tables e below (T1.setTop (mkF m 4 #[.val (.ref v1)] [(.int p2)])) _
    exact retN X1 hx (t := .boolean) hret (by simp) (hb hby d5_4) (by rw [hnr]; exact hr)
  ·
    show Q14 Z p2 v1 h0 n0 _ T1.heap _
    rw [e1]
    exact ⟨rfl, N0, rfl⟩
theorem pd5 : parseMethodDescriptor "()Z" = some ⟨[], some .boolean⟩ := by decide +kernel
theorem d2_41 : decode prog_11_method_4_code 41 = .ok (.bastore, 1) := by decide +kernel
theorem d2_42 : decode prog_11_method_4_code 42 = .ok (.iinc 3 1, 3) := by decide +kernel
theorem d2_45 : decode prog_11_method_4_code 45 = .ok (.goto (-31), 3) := by decide +kernel
theorem ef15 (m : MethodId) (x0 : Addr) (x1 : Int32) : entryFrame m #[(.ref x0), (.int x1)] 5 = mkF m 0 #[.val (.ref x0), .val (.int x1), .unset, .unset, .unset] [] := by first | (simp [entryFrame, mkF, argsToLocals, Value.category]; done) | rfl
def Q15 (Z : State) (o1 : Addr) (kc2 : ClassId) (p4 : Int32) (v3 : Addr) (h0 : Heap) (n0 : Nat) (v : Option Value) (h : Heap) (L : List Loc) : Prop :=
  (∃ b8 : Addr, ∃ k8 : ClassId, v = some (.ref b8) ∧ Fr n0 L ∧ Keep h0 h [] ∧ h0.size ≤ b8 ∧ (Arv Z h b8 k8 .boolean (1 : Int32) [(.int p4)] (.int 0)) ∧ (Exa Z h b8 "[Z"))
set_option maxRecDepth 65536 in
set_option maxHeartbeats 40000000 in
theorem rm15 (l : Launch) (Z : State) (a0 : Array Value) (hw : ∀ d ∈ tables_1, d.before a0 Z = true) (ws : List Jvm.Cond) (o1 : Addr) (kc2 : ClassId) (p4 : Int32) (v3 : Addr) (h0 : Heap) (n0 : Nat) (O0 : Old Z n0 h0) (g_o1 : n0 ≤ o1) (Ov_kc2 : Ovr Z kc2 "java/lang/Boolean") (bd_p4 : 0 ≤ p4.toInt ∧ p4.toInt ≤ 1) (P0 : Arv Z h0 o1 kc2 (.object "java/lang/Boolean") (1 : Int32) [(.ref v3)] .null) (P2 : Exa Z Z.heap v3 "java/lang/Boolean") (P3 : Fld Z Z.heap v3 "java/lang/Boolean" "value" "Z" (.int p4)) :
    MetFree l yn2 (head1 (Jvm.Cond.code yn2 prog_11_method_4_code 5 (some (.array .boolean)) :: ws) ({ frames := 1, cells := 3, slots := 57, locals := 14 } : Room)) (fun a U => a = #[(.ref o1), (.int 0)] ∧ Z.Warmed39 U.vm ∧ U.heap = h0) (fun _ _ _ _ _ => True) (fun _ U o U' => ∃ v L, o = .returned v ∧ Q15 Z o1 kc2 p4 v3 h0 n0 v U'.heap L ∧ ReturnedEndW U o U' L ({ frames := 1, cells := 3, slots := 57, locals := 14 } : Room).cells ({ frames := 1, cells := 3, slots := 57, locals := 14 } : Room).slots) := by
  refine MetFree.of_bodySF (plainFor_of_name pn1) hisR ?_
  intro p e s m args below meth c s₁ Bd hml0 hP hK
  obtain ⟨rfl, hZ, hh⟩ := hP
  have hx := Bd.exec
  have hby := Bd.bytes
  have hml : c.maxLocals = 5 := hml0
  have hown : s.vm.findClass "com/example/castless/castless/PrimitiveArrays" = some m.cls := findClass_of_methodNamed Bd.named
  have hnm := (name_of_methodNamed Bd.named Bd.method).1
  have hret := Bd.returns
  have hlk : meth.locks = false := BodyLoose.notSynchronized Bd
  have X0 : Stand p l e ({ frames := 1, cells := 3, slots := 57, locals := 14 } : Room) s m #[(.ref o1), (.int 0)] below meth c s₁ [] 0 0 := Stand.of_body Bd
  have e0 : s₁.heap = h0 := by rw [← hh, Bd.state]; rfl
  have N0 := Fr.nil n0
  have pre0 : ∀ t, Steps p.tables e below (s₁.setTop (mkF m 0 #[.val (.ref o1), .val (.int 0), .unset, .unset, .unset] [])) t → Steps p.tables e below (s₁.setTop (entryFrame m #[(.ref o1), (.int 0)] 5)) t := fun t k => castTop (ef15 m o1 (0 : Int32)) k
  have pre1 : ∀ t, Steps p.tables e below (s₁.setTop (mkF m 1 #[.val (.ref o1), .val (.int 0), .unset, .unset, .unset] [(.ref o1)])) t → Steps p.tables e below (s₁.setTop (entryFrame m #[(.ref o1), (.int 0)] 5)) t := fun t k => by
    refine pre0 _ ?_
    show Steps p.tables e below (s₁.setTop (mkF m 0 #[.val (.ref o1), .val (.int 0), .unset, .unset, .unset] [])) _
    refine XS.aloadN X0.here hx rfl (hb hby d2_0) rfl rfl ?_
    exact k
  obtain ⟨sx2, T2, h2, ks2, X2, e2, E2, hS2, hk2, hZ, hown, st2⟩ := ldcS (s := s) (vm0 := s.vm) X0 hx hZ hown (own_w hw 6 rfl) (own_sa hw) e0 ((State.WarmedH.refl s).since h0.size) (Nat.le_refl _) (g := (mkF m 1 #[.val (.ref o1), .val (.int 0), .unset, .unset, .unset] [(.ref o1)])) rfl (hb hby d2_1) (n := 52) (by decide) (by decide) (by decide) (by decide)
  have M2 : h0.size ≤ h2.size := Nat.le_trans (Nat.le_refl _) E2.1
  have O2 := Old.ext O0 E2
  obtain ⟨_, T3, L3, X3, hQ3, st3⟩ := own_cs X2 hx hZ hown (y := yn0) (own_w hw 14 rfl) (own_w hw 15 rfl) (own_w hw 17 rfl) (own_w hw 16 rfl) e2 (argsL := [(.ref o1), (.ref sx2)]) (rest := []) (rm13 l Z a0 hw [] o1 kc2 sx2 h2 n0 O2 g_o1 Ov_kc2) (g := (mkF m 3 #[.val (.ref o1), .val (.int 0), .unset, .unset, .unset] [(.ref sx2), (.ref o1)])) rfl (by rw [hml]; rfl) rfl (hb hby d2_3) (lenOf pd0 rfl) (W := 0) (c1 := 2) (s1 := 56)
  obtain ⟨rfl, Nq4, e5⟩ := hQ3
  have N3 := Fr.app N0 Nq4
  have f6 := (P0.ext E2)
  obtain ⟨cl7, Ar7, qa7, Sa7, Na7, Ha7, Ga7⟩ := id (f6)
  obtain ⟨T8, h8, k8, X8, e8, E8, A8, EX8, st8⟩ := newPE X3 hx hZ (own_w hw 1 rfl) e5 (g := (mkF m 9 #[.val (.ref o1), .val (.int 0), .unset, .unset, .unset] [(.int 1)])) rfl (hb hby d2_9) rfl (by decide) (cap := 1) (by decide) (by decide) (by decide) (by decide) (ad := "[Z") (by decide)
  obtain ⟨b8, g8⟩ : ∃ z, z = h2.size := ⟨_, rfl⟩
  rw [← g8] at A8 EX8 st8
  have hkk8 := Nat.le_trans hk2 E8.1
  have M8 : h0.size ≤ h8.size := Nat.le_trans M2 E8.1
  have O8 := Old.ext O2 E8
  have sz_b8 : h2.size ≤ b8 := Nat.le_of_eq g8.symm
  have g_b8 : n0 ≤ b8 := Nat.le_trans (own_oz O0) (Nat.le_trans M2 sz_b8)
  have V8_0 := Arv.new A8 (by decide)
  have V8 : Arv Z h8 b8 k8 .boolean (1 : Int32) [(.int 0)] (.int 0) := V8_0.pad (pad_rep [] (.int 0) 1)
  have f9 := (f6.ext E8)
  obtain ⟨cl10, Ar10, qa10, Sa10, Na10, Ha10, Ga10⟩ := id (f9)
  obtain ⟨cl11, Ar11, qa11, Sa11, Na11, Ha11, Ga11⟩ := id (f9)
  have hin11 : ¬ ((0 : Int32) < 0 ∨ cl11.slots.size ≤ ((0 : Int32)).toNatClampNeg) := inb_of Sa11 ⟨by decide, by decide⟩
  have hat11 : cl11.slots[((0 : Int32)).toNatClampNeg]? = some (.ref v3) := Has.at Ha11 hin11 rfl
  obtain ⟨_, T12, L12, X12, hQ12, st12⟩ := own_vb X8 hx hZ hown (y := yn5) (own_w hw 29 rfl) (own_w hw 30 rfl) (own_w hw 32 rfl) (own_w hw 31 rfl) (own_w hw 33 rfl) (own_w hw 22 rfl) e8 (P2.ext O8.2) (argsL := []) (rest := [(.int 0), (.ref b8)]) (rm14 l Z a0 hw [] p4 v3 h8 n0 O8 (by have q0 := bd_p4; omega) P3) (g := (mkF m 38 #[.val (.ref o1), .val (.int 0), .val (.ref b8), .val (.int 0), .val (.ref v3)] [(.ref v3), (.int 0), (.ref b8)])) rfl (by rw [hml]; rfl) rfl (hb hby d2_38) (lenOf pd5 rfl) (W := 2) (c1 := 3) (s1 := 57)
  obtain ⟨rfl, Nq13, e14⟩ := hQ12
  have N12 := Fr.app N3 Nq13
  obtain ⟨cl15, Ar15, qa15, Sa15, Na15, Ha15, Ga15⟩ := id (V8)
  have hin15 : ¬ ((0 : Int32) < 0 ∨ cl15.slots.size ≤ ((0 : Int32)).toNatClampNeg) := inb_of Sa15 ⟨by decide, by decide⟩
  have hbz16 : 0 ≤ p4.toInt ∧ p4.toInt ≤ 1 := by have q0 := bd_p4; omega
  obtain ⟨T17, h17, X17, e17, W17, st17⟩ := stZ X12 hx hZ e14 Ar15 (j := (0 : Int32)) hin15 (g := (mkF m 41 #[.val (.ref o1), .val (.int 0), .val (.ref b8), .val (.int 0), .val (.ref v3)] [(.int p4), (.int 0), (.ref b8)])) rfl rfl (hb hby d2_41)
  rw [own_nz hbz16] at W17
  have V17 : Arv Z h17 b8 k8 .boolean (1 : Int32) [(.int p4)] (.int 0) := Arv.set Ar15 qa15 Sa15 Na15 Ha15 Ga15 (own_fz hbz16) W17 0 rfl (Nat.le_of_ble_eq_true rfl)
  have N17 := Fr.snoc X17 N12 g_b8
  have hkk17 := Nat.le_trans hkk8 (Nat.le_of_eq W17.size.symm)
  have M17 : h0.size ≤ h17.size := Nat.le_trans M8 (Nat.le_of_eq W17.size.symm)
  have O17 := Old.wr O8 W17 g_b8
  have lt18 : o1 < h2.size := (Nat.lt_of_lt_of_le P0.lt E2.1)
  have ne19 : o1 ≠ b8 := Nat.ne_of_lt (Nat.lt_of_lt_of_le lt18 sz_b8)
  have f20 := (f9.other W17 ne19)
  obtain ⟨cl21, Ar21, qa21, Sa21, Na21, Ha21, Ga21⟩ := id (f20)
  obtain ⟨fs, hr, hrun, hended, hRE⟩ := X17.leaveW hS2 (by rw [e17]; exact hkk17) (v := some (.ref b8)) (fun h => by rw [hret] at h; cases h)
  have KL : Keep h0 h17 [] := ((((Keep.refl h0 []).ext E2).ext E8).wr W17 (Or.inr (Nat.le_trans M2 sz_b8)))
  have f22 := (EX8.wr W17)
  refine ⟨_, _, pre1 _ ?_, hrun, hended, _, _, rfl, ?_, hRE.1, hRE.2.1, hRE.2.2.1, hRE.2.2.2.mono (by decide) (by decide)⟩
  ·
    show Steps p.tables e below (s₁.setTop (mkF m 1 #[.val (.ref o1), .val (.int 0), .unset, .unset, .unset] [(.ref o1)])) _
    refine st2 _ ?_
    refine st3 _ ?_
    refine XS.pop X3.here hx rfl (hb hby d2_6) rfl rfl ?_
    refine XS.aloadN X3.here hx rfl (hb hby d2_7) rfl rfl ?_
    refine X3.arraylength hx (by rw [e5]; exact Ar7.1) (State.isArrayOf_alike hZ.alike Ar7.2.1) (g := (mkF m 8 #[.val (.ref o1), .val (.int 0), .unset, .unset, .unset] [(.ref o1)])) rfl rfl (hb hby d2_8) _ ?_
    rw [len_of Sa7 Na7]
    refine st8 _ ?_
    refine XS.astoreN X8.here hx rfl (hb hby d2_11) rfl rfl (l' := #[.val (.ref o1), .val (.int 0), .val (.ref b8), .unset, .unset]) rfl ?_
    refine XS.iconst X8.here hx rfl (hb hby d2_12) ?_
    refine XS.istoreN X8.here hx rfl (hb hby d2_13) rfl (l' := #[.val (.ref o1), .val (.int 0), .val (.ref b8), .val (.int 0), .unset]) rfl ?_
    refine XS.iloadN X8.here hx rfl (hb hby d2_14) rfl ?_
    refine XS.aloadN X8.here hx rfl (hb hby d2_15) rfl rfl ?_
    refine X8.arraylength hx (by rw [e8]; exact Ar10.1) (State.isArrayOf_alike hZ.alike Ar10.2.1) (g := (mkF m 16 #[.val (.ref o1), .val (.int 0), .val (.ref b8), .val (.int 0), .unset] [(.ref o1), (.int 0)])) rfl rfl (hb hby d2_16) _ ?_
    rw [len_of Sa10 Na10]
    refine XS.icmpNo X8.here hx rfl (hb hby d2_17) rfl (tlt (by decide : (0 : Int32) < (1 : Int32))).2.1 ?_
    refine XS.aloadN X8.here hx rfl (hb hby d2_20) rfl rfl ?_
    refine XS.iloadN X8.here hx rfl (hb hby d2_21) rfl ?_
    refine X8.aaload hx (j := (0 : Int32)) (v := (.ref v3)) (by rw [e8]; exact Ar11.1) (State.isArrayOf_alike hZ.alike Ar11.2.1) rfl Ar11.2.2 hin11 hat11 (g := (mkF m 22 #[.val (.ref o1), .val (.int 0), .val (.ref b8), .val (.int 0), .unset] [(.int 0), (.ref o1)])) rfl rfl (hb hby d2_22) _ ?_
    refine XS.astore X8.here hx rfl (hb hby d2_23) rfl rfl (l' := #[.val (.ref o1), .val (.int 0), .val (.ref b8), .val (.int 0), .val (.ref v3)]) rfl ?_
    refine XS.aloadN X8.here hx rfl (hb hby d2_25) rfl rfl ?_
    refine XS.iloadN X8.here hx rfl (hb hby d2_26) rfl ?_
    refine XS.aload X8.here hx rfl (hb hby d2_27) rfl rfl ?_
    refine XS.ifnonnullYes X8.here hx rfl (pc0 := 29) (pc' := 36) rfl (hb hby d2_29) rfl (by decide) (by decide) ?_
    refine XS.aload X8.here hx rfl (hb hby d2_36) rfl rfl ?_
    refine st12 _ ?_
    refine st17 _ ?_
    refine XS.iinc X17.here hx rfl (hb hby d2_42) rfl (l' := #[.val (.ref o1), .val (.int 0), .val (.ref b8), .val (.int 1), .val (.ref v3)]) rfl ?_
    refine XS.goto X17.here hx rfl (pc0 := 45) (pc' := 14) rfl (hb hby d2_45) (by decide) (by decide) ?_
    refine XS.iloadN X17.here hx rfl (hb hby d2_14) rfl ?_
    refine XS.aloadN X17.here hx rfl (hb hby d2_15) rfl rfl ?_
    refine X17.arraylength hx (by rw [e17]; exact Ar21.1) (State.isArrayOf_alike hZ.alike Ar21.2.1) (g := (mkF m 16 #[.val (.ref o1), .val (.int 0), .val (.ref b8), .val (.int 1), .val (.ref v3)] [(.ref o1), (.int 1)])) rfl rfl (hb hby d2_16) _ ?_
    rw [len_of Sa21 Na21]
    refine XS.icmpYes X17.here hx rfl (pc0 := 17) (pc' := 48) rfl (hb hby d2_17) rfl (flt (by decide : ¬ ((1 : Int32) < (1 : Int32)))).2.1 (by decide) (by decide) ?_
    refine XS.aloadN X17.here hx rfl (hb hby d2_48) rfl rfl ?_
    show Steps p.tables e below (T17.setTop (mkF m 49 #[.val (.ref o1), .val (.int 0), .val (.ref b8), .val (.int 1), .val (.ref v3)] [(.ref b8)])) _
    exact retOut X17 hx hret rfl (Or.inr (Or.inr (Or.inr (Or.inr ⟨rfl, rfl, rfl⟩)))) (hb hby d2_49) hr
  ·
    show Q15 Z o1 kc2 p4 v3 h0 n0 _ T17.heap _
    rw [e17]
    exact ⟨b8, k8, rfl, N17, KL, (Nat.le_trans M2 sz_b8), V17, f22⟩
theorem ef16 (m : MethodId) (x0 : Addr) (x1 : Int32) : entryFrame m #[(.ref x0), (.int x1)] 5 = mkF m 0 #[.val (.ref x0), .val (.int x1), .unset, .unset, .unset] [] := by first | (simp [entryFrame, mkF, argsToLocals, Value.category]; done) | rfl
def Q16 (Z : State) (o1 : Addr) (kc2 : ClassId) (p4 : Int32) (v3 : Addr) (h0 : Heap) (n0 : Nat) (v : Option Value) (h : Heap) (L : List Loc) : Prop :=
  (∃ b8 : Addr, ∃ k8 : ClassId, v = some (.ref b8) ∧ Fr n0 L ∧ Keep h0 h [] ∧ h0.size ≤ b8 ∧ (Arv Z h b8 k8 .boolean (1 : Int32) [(.int p4)] (.int 0)) ∧ (Exa Z h b8 "[Z"))
set_option maxRecDepth 65536 in
set_option maxHeartbeats 40000000 in
theorem rm16 (l : Launch) (Z : State) (a0 : Array Value) (hw : ∀ d ∈ tables_1, d.before a0 Z = true) (ws : List Jvm.Cond) (o1 : Addr) (kc2 : ClassId) (p4 : Int32) (v3 : Addr) (h0 : Heap) (n0 : Nat) (O0 : Old Z n0 h0) (g_o1 : n0 ≤ o1) (Ov_kc2 : Ovr Z kc2 "java/lang/Boolean") (bd_p4 : 0 ≤ p4.toInt ∧ p4.toInt ≤ 1) (P0 : Arv Z h0 o1 kc2 (.object "java/lang/Boolean") (1 : Int32) [(.ref v3)] .null) (P2 : Exa Z Z.heap v3 "java/lang/Boolean") (P3 : Fld Z Z.heap v3 "java/lang/Boolean" "value" "Z" (.int p4)) :
    MetFree l yn2 (head1 (Jvm.Cond.code yn2 prog_11_method_4_code 5 (some (.array .boolean)) :: ws) ({ frames := 1, cells := 3, slots := 57, locals := 14 } : Room)) (fun a U => a = #[(.ref o1), (.int 1)] ∧ Z.Warmed39 U.vm ∧ U.heap = h0) (fun _ _ _ _ _ => True) (fun _ U o U' => ∃ v L, o = .returned v ∧ Q16 Z o1 kc2 p4 v3 h0 n0 v U'.heap L ∧ ReturnedEndW U o U' L ({ frames := 1, cells := 3, slots := 57, locals := 14 } : Room).cells ({ frames := 1, cells := 3, slots := 57, locals := 14 } : Room).slots) := by
  refine MetFree.of_bodySF (plainFor_of_name pn1) hisR ?_
  intro p e s m args below meth c s₁ Bd hml0 hP hK
  obtain ⟨rfl, hZ, hh⟩ := hP
  have hx := Bd.exec
  have hby := Bd.bytes
  have hml : c.maxLocals = 5 := hml0
  have hown : s.vm.findClass "com/example/castless/castless/PrimitiveArrays" = some m.cls := findClass_of_methodNamed Bd.named
  have hnm := (name_of_methodNamed Bd.named Bd.method).1
  have hret := Bd.returns
  have hlk : meth.locks = false := BodyLoose.notSynchronized Bd
  have X0 : Stand p l e ({ frames := 1, cells := 3, slots := 57, locals := 14 } : Room) s m #[(.ref o1), (.int 1)] below meth c s₁ [] 0 0 := Stand.of_body Bd
  have e0 : s₁.heap = h0 := by rw [← hh, Bd.state]; rfl
  have N0 := Fr.nil n0
  have pre0 : ∀ t, Steps p.tables e below (s₁.setTop (mkF m 0 #[.val (.ref o1), .val (.int 1), .unset, .unset, .unset] [])) t → Steps p.tables e below (s₁.setTop (entryFrame m #[(.ref o1), (.int 1)] 5)) t := fun t k => castTop (ef16 m o1 (1 : Int32)) k
  have pre1 : ∀ t, Steps p.tables e below (s₁.setTop (mkF m 1 #[.val (.ref o1), .val (.int 1), .unset, .unset, .unset] [(.ref o1)])) t → Steps p.tables e below (s₁.setTop (entryFrame m #[(.ref o1), (.int 1)] 5)) t := fun t k => by
    refine pre0 _ ?_
    show Steps p.tables e below (s₁.setTop (mkF m 0 #[.val (.ref o1), .val (.int 1), .unset, .unset, .unset] [])) _
    refine XS.aloadN X0.here hx rfl (hb hby d2_0) rfl rfl ?_
    exact k
  obtain ⟨sx2, T2, h2, ks2, X2, e2, E2, hS2, hk2, hZ, hown, st2⟩ := ldcS (s := s) (vm0 := s.vm) X0 hx hZ hown (own_w hw 6 rfl) (own_sa hw) e0 ((State.WarmedH.refl s).since h0.size) (Nat.le_refl _) (g := (mkF m 1 #[.val (.ref o1), .val (.int 1), .unset, .unset, .unset] [(.ref o1)])) rfl (hb hby d2_1) (n := 52) (by decide) (by decide) (by decide) (by decide)
  have M2 : h0.size ≤ h2.size := Nat.le_trans (Nat.le_refl _) E2.1
  have O2 := Old.ext O0 E2
  obtain ⟨_, T3, L3, X3, hQ3, st3⟩ := own_cs X2 hx hZ hown (y := yn0) (own_w hw 14 rfl) (own_w hw 15 rfl) (own_w hw 17 rfl) (own_w hw 16 rfl) e2 (argsL := [(.ref o1), (.ref sx2)]) (rest := []) (rm13 l Z a0 hw [] o1 kc2 sx2 h2 n0 O2 g_o1 Ov_kc2) (g := (mkF m 3 #[.val (.ref o1), .val (.int 1), .unset, .unset, .unset] [(.ref sx2), (.ref o1)])) rfl (by rw [hml]; rfl) rfl (hb hby d2_3) (lenOf pd0 rfl) (W := 0) (c1 := 2) (s1 := 56)
  obtain ⟨rfl, Nq4, e5⟩ := hQ3
  have N3 := Fr.app N0 Nq4
  have f6 := (P0.ext E2)
  obtain ⟨cl7, Ar7, qa7, Sa7, Na7, Ha7, Ga7⟩ := id (f6)
  obtain ⟨T8, h8, k8, X8, e8, E8, A8, EX8, st8⟩ := newPE X3 hx hZ (own_w hw 1 rfl) e5 (g := (mkF m 9 #[.val (.ref o1), .val (.int 1), .unset, .unset, .unset] [(.int 1)])) rfl (hb hby d2_9) rfl (by decide) (cap := 1) (by decide) (by decide) (by decide) (by decide) (ad := "[Z") (by decide)
  obtain ⟨b8, g8⟩ : ∃ z, z = h2.size := ⟨_, rfl⟩
  rw [← g8] at A8 EX8 st8
  have hkk8 := Nat.le_trans hk2 E8.1
  have M8 : h0.size ≤ h8.size := Nat.le_trans M2 E8.1
  have O8 := Old.ext O2 E8
  have sz_b8 : h2.size ≤ b8 := Nat.le_of_eq g8.symm
  have g_b8 : n0 ≤ b8 := Nat.le_trans (own_oz O0) (Nat.le_trans M2 sz_b8)
  have V8_0 := Arv.new A8 (by decide)
  have V8 : Arv Z h8 b8 k8 .boolean (1 : Int32) [(.int 0)] (.int 0) := V8_0.pad (pad_rep [] (.int 0) 1)
  have f9 := (f6.ext E8)
  obtain ⟨cl10, Ar10, qa10, Sa10, Na10, Ha10, Ga10⟩ := id (f9)
  obtain ⟨cl11, Ar11, qa11, Sa11, Na11, Ha11, Ga11⟩ := id (f9)
  have hin11 : ¬ ((0 : Int32) < 0 ∨ cl11.slots.size ≤ ((0 : Int32)).toNatClampNeg) := inb_of Sa11 ⟨by decide, by decide⟩
  have hat11 : cl11.slots[((0 : Int32)).toNatClampNeg]? = some (.ref v3) := Has.at Ha11 hin11 rfl
  obtain ⟨_, T12, L12, X12, hQ12, st12⟩ := own_vb X8 hx hZ hown (y := yn5) (own_w hw 29 rfl) (own_w hw 30 rfl) (own_w hw 32 rfl) (own_w hw 31 rfl) (own_w hw 33 rfl) (own_w hw 22 rfl) e8 (P2.ext O8.2) (argsL := []) (rest := [(.int 0), (.ref b8)]) (rm14 l Z a0 hw [] p4 v3 h8 n0 O8 (by have q0 := bd_p4; omega) P3) (g := (mkF m 38 #[.val (.ref o1), .val (.int 1), .val (.ref b8), .val (.int 0), .val (.ref v3)] [(.ref v3), (.int 0), (.ref b8)])) rfl (by rw [hml]; rfl) rfl (hb hby d2_38) (lenOf pd5 rfl) (W := 2) (c1 := 3) (s1 := 57)
  obtain ⟨rfl, Nq13, e14⟩ := hQ12
  have N12 := Fr.app N3 Nq13
  obtain ⟨cl15, Ar15, qa15, Sa15, Na15, Ha15, Ga15⟩ := id (V8)
  have hin15 : ¬ ((0 : Int32) < 0 ∨ cl15.slots.size ≤ ((0 : Int32)).toNatClampNeg) := inb_of Sa15 ⟨by decide, by decide⟩
  have hbz16 : 0 ≤ p4.toInt ∧ p4.toInt ≤ 1 := by have q0 := bd_p4; omega
  obtain ⟨T17, h17, X17, e17, W17, st17⟩ := stZ X12 hx hZ e14 Ar15 (j := (0 : Int32)) hin15 (g := (mkF m 41 #[.val (.ref o1), .val (.int 1), .val (.ref b8), .val (.int 0), .val (.ref v3)] [(.int p4), (.int 0), (.ref b8)])) rfl rfl (hb hby d2_41)
  rw [own_nz hbz16] at W17
  have V17 : Arv Z h17 b8 k8 .boolean (1 : Int32) [(.int p4)] (.int 0) := Arv.set Ar15 qa15 Sa15 Na15 Ha15 Ga15 (own_fz hbz16) W17 0 rfl (Nat.le_of_ble_eq_true rfl)
  have N17 := Fr.snoc X17 N12 g_b8
  have hkk17 := Nat.le_trans hkk8 (Nat.le_of_eq W17.size.symm)
  have M17 : h0.size ≤ h17.size := Nat.le_trans M8 (Nat.le_of_eq W17.size.symm)
  have O17 := Old.wr O8 W17 g_b8
  have lt18 : o1 < h2.size := (Nat.lt_of_lt_of_le P0.lt E2.1)
  have ne19 : o1 ≠ b8 := Nat.ne_of_lt (Nat.lt_of_lt_of_le lt18 sz_b8)
  have f20 := (f9.other W17 ne19)
  obtain ⟨cl21, Ar21, qa21, Sa21, Na21, Ha21, Ga21⟩ := id (f20)
  obtain ⟨fs, hr, hrun, hended, hRE⟩ := X17.leaveW hS2 (by rw [e17]; exact hkk17) (v := some (.ref b8)) (fun h => by rw [hret] at h; cases h)
  have KL : Keep h0 h17 [] := ((((Keep.refl h0 []).ext E2).ext E8).wr W17 (Or.inr (Nat.le_trans M2 sz_b8)))
  have f22 := (EX8.wr W17)
  refine ⟨_, _, pre1 _ ?_, hrun, hended, _, _, rfl, ?_, hRE.1, hRE.2.1, hRE.2.2.1, hRE.2.2.2.mono (by decide) (by decide)⟩
  ·
    show Steps p.tables e below (s₁.setTop (mkF m 1 #[.val (.ref o1), .val (.int 1), .unset, .unset, .unset] [(.ref o1)])) _
    refine st2 _ ?_
    refine st3 _ ?_
    refine XS.pop X3.here hx rfl (hb hby d2_6) rfl rfl ?_
    refine XS.aloadN X3.here hx rfl (hb hby d2_7) rfl rfl ?_
    refine X3.arraylength hx (by rw [e5]; exact Ar7.1) (State.isArrayOf_alike hZ.alike Ar7.2.1) (g := (mkF m 8 #[.val (.ref o1), .val (.int 1), .unset, .unset, .unset] [(.ref o1)])) rfl rfl (hb hby d2_8) _ ?_
    rw [len_of Sa7 Na7]
    refine st8 _ ?_
    refine XS.astoreN X8.here hx rfl (hb hby d2_11) rfl rfl (l' := #[.val (.ref o1), .val (.int 1), .val (.ref b8), .unset, .unset]) rfl ?_
    refine XS.iconst X8.here hx rfl (hb hby d2_12) ?_
    refine XS.istoreN X8.here hx rfl (hb hby d2_13) rfl (l' := #[.val (.ref o1), .val (.int 1), .val (.ref b8), .val (.int 0), .unset]) rfl ?_
    refine XS.iloadN X8.here hx rfl (hb hby d2_14) rfl ?_
    refine XS.aloadN X8.here hx rfl (hb hby d2_15) rfl rfl ?_
    refine X8.arraylength hx (by rw [e8]; exact Ar10.1) (State.isArrayOf_alike hZ.alike Ar10.2.1) (g := (mkF m 16 #[.val (.ref o1), .val (.int 1), .val (.ref b8), .val (.int 0), .unset] [(.ref o1), (.int 0)])) rfl rfl (hb hby d2_16) _ ?_
    rw [len_of Sa10 Na10]
    refine XS.icmpNo X8.here hx rfl (hb hby d2_17) rfl (tlt (by decide : (0 : Int32) < (1 : Int32))).2.1 ?_
    refine XS.aloadN X8.here hx rfl (hb hby d2_20) rfl rfl ?_
    refine XS.iloadN X8.here hx rfl (hb hby d2_21) rfl ?_
    refine X8.aaload hx (j := (0 : Int32)) (v := (.ref v3)) (by rw [e8]; exact Ar11.1) (State.isArrayOf_alike hZ.alike Ar11.2.1) rfl Ar11.2.2 hin11 hat11 (g := (mkF m 22 #[.val (.ref o1), .val (.int 1), .val (.ref b8), .val (.int 0), .unset] [(.int 0), (.ref o1)])) rfl rfl (hb hby d2_22) _ ?_
    refine XS.astore X8.here hx rfl (hb hby d2_23) rfl rfl (l' := #[.val (.ref o1), .val (.int 1), .val (.ref b8), .val (.int 0), .val (.ref v3)]) rfl ?_
    refine XS.aloadN X8.here hx rfl (hb hby d2_25) rfl rfl ?_
    refine XS.iloadN X8.here hx rfl (hb hby d2_26) rfl ?_
    refine XS.aload X8.here hx rfl (hb hby d2_27) rfl rfl ?_
    refine XS.ifnonnullYes X8.here hx rfl (pc0 := 29) (pc' := 36) rfl (hb hby d2_29) rfl (by decide) (by decide) ?_
    refine XS.aload X8.here hx rfl (hb hby d2_36) rfl rfl ?_
    refine st12 _ ?_
    refine st17 _ ?_
    refine XS.iinc X17.here hx rfl (hb hby d2_42) rfl (l' := #[.val (.ref o1), .val (.int 1), .val (.ref b8), .val (.int 1), .val (.ref v3)]) rfl ?_
    refine XS.goto X17.here hx rfl (pc0 := 45) (pc' := 14) rfl (hb hby d2_45) (by decide) (by decide) ?_
    refine XS.iloadN X17.here hx rfl (hb hby d2_14) rfl ?_
    refine XS.aloadN X17.here hx rfl (hb hby d2_15) rfl rfl ?_
    refine X17.arraylength hx (by rw [e17]; exact Ar21.1) (State.isArrayOf_alike hZ.alike Ar21.2.1) (g := (mkF m 16 #[.val (.ref o1), .val (.int 1), .val (.ref b8), .val (.int 1), .val (.ref v3)] [(.ref o1), (.int 1)])) rfl rfl (hb hby d2_16) _ ?_
    rw [len_of Sa21 Na21]
    refine XS.icmpYes X17.here hx rfl (pc0 := 17) (pc' := 48) rfl (hb hby d2_17) rfl (flt (by decide : ¬ ((1 : Int32) < (1 : Int32)))).2.1 (by decide) (by decide) ?_
    refine XS.aloadN X17.here hx rfl (hb hby d2_48) rfl rfl ?_
    show Steps p.tables e below (T17.setTop (mkF m 49 #[.val (.ref o1), .val (.int 1), .val (.ref b8), .val (.int 1), .val (.ref v3)] [(.ref b8)])) _
    exact retOut X17 hx hret rfl (Or.inr (Or.inr (Or.inr (Or.inr ⟨rfl, rfl, rfl⟩)))) (hb hby d2_49) hr
  ·
    show Q16 Z o1 kc2 p4 v3 h0 n0 _ T17.heap _
    rw [e17]
    exact ⟨b8, k8, rfl, N17, KL, (Nat.le_trans M2 sz_b8), V17, f22⟩
theorem d3_8 : decode method_3_code 8 = .ok (.aload_n 0, 1) := by decide +kernel
theorem d3_9 : decode method_3_code 9 = .ok (.iload_n 3, 1) := by decide +kernel
theorem d3_10 : decode method_3_code 10 = .ok (.baload, 1) := by decide +kernel
theorem d3_11 : decode method_3_code 11 = .ok (.iload 5, 2) := by decide +kernel
theorem d3_13 : decode method_3_code 13 = .ok (.if_icmp .ne 23, 3) := by decide +kernel
theorem d3_16 : decode method_3_code 16 = .ok (.aload_n 1, 1) := by decide +kernel
theorem d3_17 : decode method_3_code 17 = .ok (.iload_n 3, 1) := by decide +kernel
theorem d3_18 : decode method_3_code 18 = .ok (.baload, 1) := by decide +kernel
theorem d3_19 : decode method_3_code 19 = .ok (.iload 5, 2) := by decide +kernel
theorem d3_21 : decode method_3_code 21 = .ok (.if_icmp .ne 15, 3) := by decide +kernel
theorem d3_24 : decode method_3_code 24 = .ok (.aload_n 2, 1) := by decide +kernel
theorem d3_25 : decode method_3_code 25 = .ok (.iload_n 3, 1) := by decide +kernel
theorem d3_26 : decode method_3_code 26 = .ok (.baload, 1) := by decide +kernel
theorem d3_27 : decode method_3_code 27 = .ok (.iload 5, 2) := by decide +kernel
theorem d3_29 : decode method_3_code 29 = .ok (.if_icmp .ne 7, 3) := by decide +kernel
theorem d3_32 : decode method_3_code 32 = .ok (.iconst 1, 1) := by decide +kernel
theorem d3_33 : decode method_3_code 33 = .ok (.goto 4, 3) := by decide +kernel
theorem d3_37 : decode method_3_code 37 = .ok (.ireturn, 1) := by decide +kernel
theorem d3_36 : decode method_3_code 36 = .ok (.iconst 0, 1) := by decide +kernel
theorem ef17 (m : MethodId) (x0 : Addr) (x1 : Addr) (x2 : Addr) (x3 : Int32) (x4 : Int32) (x5 : Int32) : entryFrame m #[(.ref x0), (.ref x1), (.ref x2), (.int x3), (.int x4), (.int x5)] 6 = mkF m 0 #[.val (.ref x0), .val (.ref x1), .val (.ref x2), .val (.int x3), .val (.int x4), .val (.int x5)] [] := by first | (simp [entryFrame, mkF, argsToLocals, Value.category]; done) | rfl
def Q17 (Z : State) (o1 : Addr) (o2 : Addr) (o3 : Addr) (p4 : Int32) (p6 : Int32) (p8 : Int32) (p10 : Int32) (kc5 : ClassId) (kc7 : ClassId) (kc9 : ClassId) (h0 : Heap) (n0 : Nat) (v : Option Value) (h : Heap) (L : List Loc) : Prop :=
  ((p6 = p4) ∧ (p8 = p4) ∧ (p10 = p4) ∧ v = some (.int 1) ∧ Fr n0 L ∧ h = h0)
  ∨ ((p6 = p4) ∧ (p8 = p4) ∧ (¬ (p10 = p4)) ∧ v = some (.int 0) ∧ Fr n0 L ∧ h = h0)
  ∨ ((p6 = p4) ∧ (¬ (p8 = p4)) ∧ v = some (.int 0) ∧ Fr n0 L ∧ h = h0)
  ∨ ((¬ (p6 = p4)) ∧ v = some (.int 0) ∧ Fr n0 L ∧ h = h0)
set_option maxRecDepth 65536 in
set_option maxHeartbeats 40000000 in
theorem rm17 (l : Launch) (Z : State) (a0 : Array Value) (hw : ∀ d ∈ tables_1, d.before a0 Z = true) (ws : List Jvm.Cond) (o1 : Addr) (o2 : Addr) (o3 : Addr) (p4 : Int32) (p6 : Int32) (p8 : Int32) (p10 : Int32) (kc5 : ClassId) (kc7 : ClassId) (kc9 : ClassId) (h0 : Heap) (n0 : Nat) (O0 : Old Z n0 h0) (g_o1 : n0 ≤ o1) (g_o2 : n0 ≤ o2) (g_o3 : n0 ≤ o3) (bd_p4 : 0 ≤ p4.toInt ∧ p4.toInt ≤ 1) (bd_p6 : 0 ≤ p6.toInt ∧ p6.toInt ≤ 1) (bd_p8 : 0 ≤ p8.toInt ∧ p8.toInt ≤ 1) (bd_p10 : 0 ≤ p10.toInt ∧ p10.toInt ≤ 1) (P0 : Arv Z h0 o1 kc5 .boolean (1 : Int32) [(.int p6)] (.int 0)) (P2 : Arv Z h0 o2 kc7 .boolean (1 : Int32) [(.int p8)] (.int 0)) (P4 : Arv Z h0 o3 kc9 .boolean (1 : Int32) [(.int p10)] (.int 0)) :
    MetFree l yn3 (head1 (Jvm.Cond.code yn3 method_3_code 6 (some .boolean) :: ws) ({ frames := 0, cells := 0, slots := 0, locals := 0 } : Room)) (fun a U => a = #[(.ref o1), (.ref o2), (.ref o3), (.int 0), (.int 1), (.int p4)] ∧ Z.Warmed39 U.vm ∧ U.heap = h0) (fun _ _ _ _ _ => True) (fun _ U o U' => ∃ v L, o = .returned v ∧ Q17 Z o1 o2 o3 p4 p6 p8 p10 kc5 kc7 kc9 h0 n0 v U'.heap L ∧ FrameEnd U o U' L ({ frames := 0, cells := 0, slots := 0, locals := 0 } : Room).cells ({ frames := 0, cells := 0, slots := 0, locals := 0 } : Room).slots) := by
  refine MetFree.of_bodySF (plainFor_of_name pn2) hisR ?_
  intro p e s m args below meth c s₁ Bd hml0 hP hK
  obtain ⟨rfl, hZ, hh⟩ := hP
  have hx := Bd.exec
  have hby := Bd.bytes
  have hml : c.maxLocals = 6 := hml0
  have hown : s.vm.findClass "com/example/castless/castless/PrimitiveArraysBoxPinLaw" = some m.cls := findClass_of_methodNamed Bd.named
  have hnm := (name_of_methodNamed Bd.named Bd.method).1
  have hret := Bd.returns
  have hlk : meth.locks = false := BodyLoose.notSynchronized Bd
  have X0 : Stand p l e ({ frames := 0, cells := 0, slots := 0, locals := 0 } : Room) s m #[(.ref o1), (.ref o2), (.ref o3), (.int 0), (.int 1), (.int p4)] below meth c s₁ [] 0 0 := Stand.of_body Bd
  have e0 : s₁.heap = h0 := by rw [← hh, Bd.state]; rfl
  have N0 := Fr.nil n0
  have pre0 : ∀ t, Steps p.tables e below (s₁.setTop (mkF m 0 #[.val (.ref o1), .val (.ref o2), .val (.ref o3), .val (.int 0), .val (.int 1), .val (.int p4)] [])) t → Steps p.tables e below (s₁.setTop (entryFrame m #[(.ref o1), (.ref o2), (.ref o3), (.int 0), (.int 1), (.int p4)] 6)) t := fun t k => castTop (ef17 m o1 o2 o3 (0 : Int32) (1 : Int32) p4) k
  obtain ⟨cl1, Ar1, qa1, Sa1, Na1, Ha1, Ga1⟩ := id (P0)
  have hin1 : ¬ ((0 : Int32) < 0 ∨ cl1.slots.size ≤ ((0 : Int32)).toNatClampNeg) := inb_of Sa1 ⟨by decide, by decide⟩
  have hat1 : cl1.slots[((0 : Int32)).toNatClampNeg]? = some (.int p6) := Has.at Ha1 hin1 rfl
  have pre2 : ∀ t, Steps p.tables e below (s₁.setTop (mkF m 13 #[.val (.ref o1), .val (.ref o2), .val (.ref o3), .val (.int 0), .val (.int 1), .val (.int p4)] [(.int p4), (.int p6)])) t → Steps p.tables e below (s₁.setTop (entryFrame m #[(.ref o1), (.ref o2), (.ref o3), (.int 0), (.int 1), (.int p4)] 6)) t := fun t k => by
    refine pre0 _ ?_
    show Steps p.tables e below (s₁.setTop (mkF m 0 #[.val (.ref o1), .val (.ref o2), .val (.ref o3), .val (.int 0), .val (.int 1), .val (.int p4)] [])) _
    refine XS.iloadN X0.here hx rfl (hb hby d3_0) rfl ?_
    refine XS.iload X0.here hx rfl (hb hby d3_1) rfl ?_
    refine XS.icmpYes X0.here hx rfl (pc0 := 3) (pc' := 8) rfl (hb hby d3_3) rfl (tlt (by decide : (0 : Int32) < (1 : Int32))).1 (by decide) (by decide) ?_
    refine XS.aloadN X0.here hx rfl (hb hby d3_8) rfl rfl ?_
    refine XS.iloadN X0.here hx rfl (hb hby d3_9) rfl ?_
    refine X0.baloadBooleans hx (j := (0 : Int32)) (v := (.int p6)) (by rw [e0]; exact Ar1.1) (State.isArrayOf_alike hZ.alike Ar1.2.1) Ar1.2.2 hin1 hat1 (g := (mkF m 10 #[.val (.ref o1), .val (.ref o2), .val (.ref o3), .val (.int 0), .val (.int 1), .val (.int p4)] [(.int 0), (.ref o1)])) rfl rfl (hb hby d3_10) _ ?_
    refine XS.iload X0.here hx rfl (hb hby d3_11) rfl ?_
    exact k
  by_cases hc3 : p6 = p4
  ·
    obtain ⟨cl4, Ar4, qa4, Sa4, Na4, Ha4, Ga4⟩ := id (P2)
    have hin4 : ¬ ((0 : Int32) < 0 ∨ cl4.slots.size ≤ ((0 : Int32)).toNatClampNeg) := inb_of Sa4 ⟨by decide, by decide⟩
    have hat4 : cl4.slots[((0 : Int32)).toNatClampNeg]? = some (.int p8) := Has.at Ha4 hin4 rfl
    have pre5 : ∀ t, Steps p.tables e below (s₁.setTop (mkF m 21 #[.val (.ref o1), .val (.ref o2), .val (.ref o3), .val (.int 0), .val (.int 1), .val (.int p4)] [(.int p4), (.int p8)])) t → Steps p.tables e below (s₁.setTop (entryFrame m #[(.ref o1), (.ref o2), (.ref o3), (.int 0), (.int 1), (.int p4)] 6)) t := fun t k => by
      refine pre2 _ ?_
      show Steps p.tables e below (s₁.setTop (mkF m 13 #[.val (.ref o1), .val (.ref o2), .val (.ref o3), .val (.int 0), .val (.int 1), .val (.int p4)] [(.int p4), (.int p6)])) _
      refine XS.icmpNo X0.here hx rfl (hb hby d3_13) rfl (teq hc3).2 ?_
      refine XS.aloadN X0.here hx rfl (hb hby d3_16) rfl rfl ?_
      refine XS.iloadN X0.here hx rfl (hb hby d3_17) rfl ?_
      refine X0.baloadBooleans hx (j := (0 : Int32)) (v := (.int p8)) (by rw [e0]; exact Ar4.1) (State.isArrayOf_alike hZ.alike Ar4.2.1) Ar4.2.2 hin4 hat4 (g := (mkF m 18 #[.val (.ref o1), .val (.ref o2), .val (.ref o3), .val (.int 0), .val (.int 1), .val (.int p4)] [(.int 0), (.ref o2)])) rfl rfl (hb hby d3_18) _ ?_
      refine XS.iload X0.here hx rfl (hb hby d3_19) rfl ?_
      exact k
    by_cases hc6 : p8 = p4
    ·
      obtain ⟨cl7, Ar7, qa7, Sa7, Na7, Ha7, Ga7⟩ := id (P4)
      have hin7 : ¬ ((0 : Int32) < 0 ∨ cl7.slots.size ≤ ((0 : Int32)).toNatClampNeg) := inb_of Sa7 ⟨by decide, by decide⟩
      have hat7 : cl7.slots[((0 : Int32)).toNatClampNeg]? = some (.int p10) := Has.at Ha7 hin7 rfl
      have pre8 : ∀ t, Steps p.tables e below (s₁.setTop (mkF m 29 #[.val (.ref o1), .val (.ref o2), .val (.ref o3), .val (.int 0), .val (.int 1), .val (.int p4)] [(.int p4), (.int p10)])) t → Steps p.tables e below (s₁.setTop (entryFrame m #[(.ref o1), (.ref o2), (.ref o3), (.int 0), (.int 1), (.int p4)] 6)) t := fun t k => by
        refine pre5 _ ?_
        show Steps p.tables e below (s₁.setTop (mkF m 21 #[.val (.ref o1), .val (.ref o2), .val (.ref o3), .val (.int 0), .val (.int 1), .val (.int p4)] [(.int p4), (.int p8)])) _
        refine XS.icmpNo X0.here hx rfl (hb hby d3_21) rfl (teq hc6).2 ?_
        refine XS.aloadN X0.here hx rfl (hb hby d3_24) rfl rfl ?_
        refine XS.iloadN X0.here hx rfl (hb hby d3_25) rfl ?_
        refine X0.baloadBooleans hx (j := (0 : Int32)) (v := (.int p10)) (by rw [e0]; exact Ar7.1) (State.isArrayOf_alike hZ.alike Ar7.2.1) Ar7.2.2 hin7 hat7 (g := (mkF m 26 #[.val (.ref o1), .val (.ref o2), .val (.ref o3), .val (.int 0), .val (.int 1), .val (.int p4)] [(.int 0), (.ref o3)])) rfl rfl (hb hby d3_26) _ ?_
        refine XS.iload X0.here hx rfl (hb hby d3_27) rfl ?_
        exact k
      by_cases hc9 : p10 = p4
      ·
        obtain ⟨fs, hr, hrun, hended, hW, hsame⟩ := X0.leave (v := some (.int 1)) (fun h => by rw [hret] at h; cases h)
        refine ⟨_, _, pre8 _ ?_, hrun, hended, _, _, rfl, ?_, ⟨_, rfl⟩, hW, hsame.mono (by decide) (by decide)⟩
        ·
          show Steps p.tables e below (s₁.setTop (mkF m 29 #[.val (.ref o1), .val (.ref o2), .val (.ref o3), .val (.int 0), .val (.int 1), .val (.int p4)] [(.int p4), (.int p10)])) _
          refine XS.icmpNo X0.here hx rfl (hb hby d3_29) rfl (teq hc9).2 ?_
          refine XS.iconst X0.here hx rfl (hb hby d3_32) ?_
          refine XS.goto X0.here hx rfl (pc0 := 33) (pc' := 37) rfl (hb hby d3_33) (by decide) (by decide) ?_
          show Steps p.tables e below (s₁.setTop (mkF m 37 #[.val (.ref o1), .val (.ref o2), .val (.ref o3), .val (.int 0), .val (.int 1), .val (.int p4)] [(.int 1)])) _
          exact retN X0 hx (t := .boolean) hret (by simp) (hb hby d3_37) hr
        ·
          show Q17 Z o1 o2 o3 p4 p6 p8 p10 kc5 kc7 kc9 h0 n0 _ s₁.heap _
          rw [e0]
          exact (Or.inl ⟨hc3, hc6, hc9, rfl, N0, rfl⟩)
      ·
        obtain ⟨fs, hr, hrun, hended, hW, hsame⟩ := X0.leave (v := some (.int 0)) (fun h => by rw [hret] at h; cases h)
        refine ⟨_, _, pre8 _ ?_, hrun, hended, _, _, rfl, ?_, ⟨_, rfl⟩, hW, hsame.mono (by decide) (by decide)⟩
        ·
          show Steps p.tables e below (s₁.setTop (mkF m 29 #[.val (.ref o1), .val (.ref o2), .val (.ref o3), .val (.int 0), .val (.int 1), .val (.int p4)] [(.int p4), (.int p10)])) _
          refine XS.icmpYes X0.here hx rfl (pc0 := 29) (pc' := 36) rfl (hb hby d3_29) rfl (feq hc9).2 (by decide) (by decide) ?_
          refine XS.iconst X0.here hx rfl (hb hby d3_36) ?_
          show Steps p.tables e below (s₁.setTop (mkF m 37 #[.val (.ref o1), .val (.ref o2), .val (.ref o3), .val (.int 0), .val (.int 1), .val (.int p4)] [(.int 0)])) _
          exact retN X0 hx (t := .boolean) hret (by simp) (hb hby d3_37) hr
        ·
          show Q17 Z o1 o2 o3 p4 p6 p8 p10 kc5 kc7 kc9 h0 n0 _ s₁.heap _
          rw [e0]
          exact (Or.inr (Or.inl ⟨hc3, hc6, hc9, rfl, N0, rfl⟩))
    ·
      obtain ⟨fs, hr, hrun, hended, hW, hsame⟩ := X0.leave (v := some (.int 0)) (fun h => by rw [hret] at h; cases h)
      refine ⟨_, _, pre5 _ ?_, hrun, hended, _, _, rfl, ?_, ⟨_, rfl⟩, hW, hsame.mono (by decide) (by decide)⟩
      ·
        show Steps p.tables e below (s₁.setTop (mkF m 21 #[.val (.ref o1), .val (.ref o2), .val (.ref o3), .val (.int 0), .val (.int 1), .val (.int p4)] [(.int p4), (.int p8)])) _
        refine XS.icmpYes X0.here hx rfl (pc0 := 21) (pc' := 36) rfl (hb hby d3_21) rfl (feq hc6).2 (by decide) (by decide) ?_
        refine XS.iconst X0.here hx rfl (hb hby d3_36) ?_
        show Steps p.tables e below (s₁.setTop (mkF m 37 #[.val (.ref o1), .val (.ref o2), .val (.ref o3), .val (.int 0), .val (.int 1), .val (.int p4)] [(.int 0)])) _
        exact retN X0 hx (t := .boolean) hret (by simp) (hb hby d3_37) hr
      ·
        show Q17 Z o1 o2 o3 p4 p6 p8 p10 kc5 kc7 kc9 h0 n0 _ s₁.heap _
        rw [e0]
        exact (Or.inr (Or.inr (Or.inl ⟨hc3, hc6, rfl, N0, rfl⟩)))
  ·
    obtain ⟨fs, hr, hrun, hended, hW, hsame⟩ := X0.leave (v := some (.int 0)) (fun h => by rw [hret] at h; cases h)
    refine ⟨_, _, pre2 _ ?_, hrun, hended, _, _, rfl, ?_, ⟨_, rfl⟩, hW, hsame.mono (by decide) (by decide)⟩
    ·
      show Steps p.tables e below (s₁.setTop (mkF m 13 #[.val (.ref o1), .val (.ref o2), .val (.ref o3), .val (.int 0), .val (.int 1), .val (.int p4)] [(.int p4), (.int p6)])) _
      refine XS.icmpYes X0.here hx rfl (pc0 := 13) (pc' := 36) rfl (hb hby d3_13) rfl (feq hc3).2 (by decide) (by decide) ?_
      refine XS.iconst X0.here hx rfl (hb hby d3_36) ?_
      show Steps p.tables e below (s₁.setTop (mkF m 37 #[.val (.ref o1), .val (.ref o2), .val (.ref o3), .val (.int 0), .val (.int 1), .val (.int p4)] [(.int 0)])) _
      exact retN X0 hx (t := .boolean) hret (by simp) (hb hby d3_37) hr
    ·
      show Q17 Z o1 o2 o3 p4 p6 p8 p10 kc5 kc7 kc9 h0 n0 _ s₁.heap _
      rw [e0]
      exact (Or.inr (Or.inr (Or.inr ⟨hc3, rfl, N0, rfl⟩)))
theorem ef18 (m : MethodId) (x0 : Addr) (x1 : Addr) (x2 : Addr) (x3 : Int32) (x4 : Int32) (x5 : Int32) : entryFrame m #[(.ref x0), (.ref x1), (.ref x2), (.int x3), (.int x4), (.int x5)] 6 = mkF m 0 #[.val (.ref x0), .val (.ref x1), .val (.ref x2), .val (.int x3), .val (.int x4), .val (.int x5)] [] := by first | (simp [entryFrame, mkF, argsToLocals, Value.category]; done) | rfl
def Q18 (Z : State) (o1 : Addr) (o2 : Addr) (o3 : Addr) (p4 : Int32) (p6 : Int32) (p8 : Int32) (p10 : Int32) (h0 : Heap) (n0 : Nat) (v : Option Value) (h : Heap) (L : List Loc) : Prop :=
  (v = some (.int 1) ∧ Fr n0 L ∧ h = h0)
set_option maxRecDepth 65536 in
set_option maxHeartbeats 40000000 in
theorem rm18 (l : Launch) (Z : State) (a0 : Array Value) (hw : ∀ d ∈ tables_1, d.before a0 Z = true) (ws : List Jvm.Cond) (o1 : Addr) (o2 : Addr) (o3 : Addr) (p4 : Int32) (p6 : Int32) (p8 : Int32) (p10 : Int32) (h0 : Heap) (n0 : Nat) (O0 : Old Z n0 h0) (g_o1 : n0 ≤ o1) (g_o2 : n0 ≤ o2) (g_o3 : n0 ≤ o3) (bd_p4 : 0 ≤ p4.toInt ∧ p4.toInt ≤ 1) (bd_p6 : 0 ≤ p6.toInt ∧ p6.toInt ≤ 1) (bd_p8 : 0 ≤ p8.toInt ∧ p8.toInt ≤ 1) (bd_p10 : 0 ≤ p10.toInt ∧ p10.toInt ≤ 1) :
    MetFree l yn3 (head1 (Jvm.Cond.code yn3 method_3_code 6 (some .boolean) :: ws) ({ frames := 0, cells := 0, slots := 0, locals := 0 } : Room)) (fun a U => a = #[(.ref o1), (.ref o2), (.ref o3), (.int 1), (.int 1), (.int p4)] ∧ Z.Warmed39 U.vm ∧ U.heap = h0) (fun _ _ _ _ _ => True) (fun _ U o U' => ∃ v L, o = .returned v ∧ Q18 Z o1 o2 o3 p4 p6 p8 p10 h0 n0 v U'.heap L ∧ FrameEnd U o U' L ({ frames := 0, cells := 0, slots := 0, locals := 0 } : Room).cells ({ frames := 0, cells := 0, slots := 0, locals := 0 } : Room).slots) := by
  refine MetFree.of_bodySF (plainFor_of_name pn2) hisR ?_
  intro p e s m args below meth c s₁ Bd hml0 hP hK
  obtain ⟨rfl, hZ, hh⟩ := hP
  have hx := Bd.exec
  have hby := Bd.bytes
  have hml : c.maxLocals = 6 := hml0
  have hown : s.vm.findClass "com/example/castless/castless/PrimitiveArraysBoxPinLaw" = some m.cls := findClass_of_methodNamed Bd.named
  have hnm := (name_of_methodNamed Bd.named Bd.method).1
  have hret := Bd.returns
  have hlk : meth.locks = false := BodyLoose.notSynchronized Bd
  have X0 : Stand p l e ({ frames := 0, cells := 0, slots := 0, locals := 0 } : Room) s m #[(.ref o1), (.ref o2), (.ref o3), (.int 1), (.int 1), (.int p4)] below meth c s₁ [] 0 0 := Stand.of_body Bd
  have e0 : s₁.heap = h0 := by rw [← hh, Bd.state]; rfl
  have N0 := Fr.nil n0
  have pre0 : ∀ t, Steps p.tables e below (s₁.setTop (mkF m 0 #[.val (.ref o1), .val (.ref o2), .val (.ref o3), .val (.int 1), .val (.int 1), .val (.int p4)] [])) t → Steps p.tables e below (s₁.setTop (entryFrame m #[(.ref o1), (.ref o2), (.ref o3), (.int 1), (.int 1), (.int p4)] 6)) t := fun t k => castTop (ef18 m o1 o2 o3 (1 : Int32) (1 : Int32) p4) k
  obtain ⟨fs, hr, hrun, hended, hW, hsame⟩ := X0.leave (v := some (.int 1)) (fun h => by rw [hret] at h; cases h)
  refine ⟨_, _, pre0 _ ?_, hrun, hended, _, _, rfl, ?_, ⟨_, rfl⟩, hW, hsame.mono (by decide) (by decide)⟩
  ·
    show Steps p.tables e below (s₁.setTop (mkF m 0 #[.val (.ref o1), .val (.ref o2), .val (.ref o3), .val (.int 1), .val (.int 1), .val (.int p4)] [])) _
    refine XS.iloadN X0.here hx rfl (hb hby d3_0) rfl ?_
    refine XS.iload X0.here hx rfl (hb hby d3_1) rfl ?_
    refine XS.icmpNo X0.here hx rfl (hb hby d3_3) rfl (flt (by decide : ¬ ((1 : Int32) < (1 : Int32)))).1 ?_
    refine XS.iconst X0.here hx rfl (hb hby d3_6) ?_
    show Steps p.tables e below (s₁.setTop (mkF m 7 #[.val (.ref o1), .val (.ref o2), .val (.ref o3), .val (.int 1), .val (.int 1), .val (.int p4)] [(.int 1)])) _
    exact retN X0 hx (t := .boolean) hret (by simp) (hb hby d3_7) hr
  ·
    show Q18 Z o1 o2 o3 p4 p6 p8 p10 h0 n0 _ s₁.heap _
    rw [e0]
    exact ⟨rfl, N0, rfl⟩
theorem ef19 (m : MethodId) (x0 : Addr) (x1 : Addr) (x2 : Addr) (x3 : Int32) (x4 : Int32) (x5 : Int32) : entryFrame m #[(.ref x0), (.ref x1), (.ref x2), (.int x3), (.int x4), (.int x5)] 6 = mkF m 0 #[.val (.ref x0), .val (.ref x1), .val (.ref x2), .val (.int x3), .val (.int x4), .val (.int x5)] [] := by first | (simp [entryFrame, mkF, argsToLocals, Value.category]; done) | rfl
def Q19 (Z : State) (o1 : Addr) (o2 : Addr) (o3 : Addr) (p4 : Int32) (p6 : Int32) (p8 : Int32) (p10 : Int32) (h0 : Heap) (n0 : Nat) (v : Option Value) (h : Heap) (L : List Loc) : Prop :=
  (v = some (.int 1) ∧ Fr n0 L ∧ h = h0)
set_option maxRecDepth 65536 in
set_option maxHeartbeats 40000000 in
theorem rm19 (l : Launch) (Z : State) (a0 : Array Value) (hw : ∀ d ∈ tables_1, d.before a0 Z = true) (ws : List Jvm.Cond) (o1 : Addr) (o2 : Addr) (o3 : Addr) (p4 : Int32) (p6 : Int32) (p8 : Int32) (p10 : Int32) (h0 : Heap) (n0 : Nat) (O0 : Old Z n0 h0) (g_o1 : n0 ≤ o1) (g_o2 : n0 ≤ o2) (g_o3 : n0 ≤ o3) (bd_p4 : 0 ≤ p4.toInt ∧ p4.toInt ≤ 1) (bd_p6 : 0 ≤ p6.toInt ∧ p6.toInt ≤ 1) (bd_p8 : 0 ≤ p8.toInt ∧ p8.toInt ≤ 1) (bd_p10 : 0 ≤ p10.toInt ∧ p10.toInt ≤ 1) :
    MetFree l yn3 (head1 (Jvm.Cond.code yn3 method_3_code 6 (some .boolean) :: ws) ({ frames := 0, cells := 0, slots := 0, locals := 0 } : Room)) (fun a U => a = #[(.ref o1), (.ref o2), (.ref o3), (.int 2), (.int 1), (.int p4)] ∧ Z.Warmed39 U.vm ∧ U.heap = h0) (fun _ _ _ _ _ => True) (fun _ U o U' => ∃ v L, o = .returned v ∧ Q19 Z o1 o2 o3 p4 p6 p8 p10 h0 n0 v U'.heap L ∧ FrameEnd U o U' L ({ frames := 0, cells := 0, slots := 0, locals := 0 } : Room).cells ({ frames := 0, cells := 0, slots := 0, locals := 0 } : Room).slots) := by
  refine MetFree.of_bodySF (plainFor_of_name pn2) hisR ?_
  intro p e s m args below meth c s₁ Bd hml0 hP hK
  obtain ⟨rfl, hZ, hh⟩ := hP
  have hx := Bd.exec
  have hby := Bd.bytes
  have hml : c.maxLocals = 6 := hml0
  have hown : s.vm.findClass "com/example/castless/castless/PrimitiveArraysBoxPinLaw" = some m.cls := findClass_of_methodNamed Bd.named
  have hnm := (name_of_methodNamed Bd.named Bd.method).1
  have hret := Bd.returns
  have hlk : meth.locks = false := BodyLoose.notSynchronized Bd
  have X0 : Stand p l e ({ frames := 0, cells := 0, slots := 0, locals := 0 } : Room) s m #[(.ref o1), (.ref o2), (.ref o3), (.int 2), (.int 1), (.int p4)] below meth c s₁ [] 0 0 := Stand.of_body Bd
  have e0 : s₁.heap = h0 := by rw [← hh, Bd.state]; rfl
  have N0 := Fr.nil n0
  have pre0 : ∀ t, Steps p.tables e below (s₁.setTop (mkF m 0 #[.val (.ref o1), .val (.ref o2), .val (.ref o3), .val (.int 2), .val (.int 1), .val (.int p4)] [])) t → Steps p.tables e below (s₁.setTop (entryFrame m #[(.ref o1), (.ref o2), (.ref o3), (.int 2), (.int 1), (.int p4)] 6)) t := fun t k => castTop (ef19 m o1 o2 o3 (2 : Int32) (1 : Int32) p4) k
  obtain ⟨fs, hr, hrun, hended, hW, hsame⟩ := X0.leave (v := some (.int 1)) (fun h => by rw [hret] at h; cases h)
  refine ⟨_, _, pre0 _ ?_, hrun, hended, _, _, rfl, ?_, ⟨_, rfl⟩, hW, hsame.mono (by decide) (by decide)⟩
  ·
    show Steps p.tables e below (s₁.setTop (mkF m 0 #[.val (.ref o1), .val (.ref o2), .val (.ref o3), .val (.int 2), .val (.int 1), .val (.int p4)] [])) _
    refine XS.iloadN X0.here hx rfl (hb hby d3_0) rfl ?_
    refine XS.iload X0.here hx rfl (hb hby d3_1) rfl ?_
    refine XS.icmpNo X0.here hx rfl (hb hby d3_3) rfl (flt (by decide : ¬ ((2 : Int32) < (1 : Int32)))).1 ?_
    refine XS.iconst X0.here hx rfl (hb hby d3_6) ?_
    show Steps p.tables e below (s₁.setTop (mkF m 7 #[.val (.ref o1), .val (.ref o2), .val (.ref o3), .val (.int 2), .val (.int 1), .val (.int p4)] [(.int 1)])) _
    exact retN X0 hx (t := .boolean) hret (by simp) (hb hby d3_7) hr
  ·
    show Q19 Z o1 o2 o3 p4 p6 p8 p10 h0 n0 _ s₁.heap _
    rw [e0]
    exact ⟨rfl, N0, rfl⟩
theorem ef20 (m : MethodId) (x0 : Addr) (x1 : Addr) (x2 : Addr) (x3 : Int32) (x4 : Int32) (x5 : Int32) : entryFrame m #[(.ref x0), (.ref x1), (.ref x2), (.int x3), (.int x4), (.int x5)] 6 = mkF m 0 #[.val (.ref x0), .val (.ref x1), .val (.ref x2), .val (.int x3), .val (.int x4), .val (.int x5)] [] := by first | (simp [entryFrame, mkF, argsToLocals, Value.category]; done) | rfl
def Q20 (Z : State) (o1 : Addr) (o2 : Addr) (o3 : Addr) (p4 : Int32) (p6 : Int32) (p8 : Int32) (p10 : Int32) (h0 : Heap) (n0 : Nat) (v : Option Value) (h : Heap) (L : List Loc) : Prop :=
  (v = some (.int 1) ∧ Fr n0 L ∧ h = h0)
set_option maxRecDepth 65536 in
set_option maxHeartbeats 40000000 in
theorem rm20 (l : Launch) (Z : State) (a0 : Array Value) (hw : ∀ d ∈ tables_1, d.before a0 Z = true) (ws : List Jvm.Cond) (o1 : Addr) (o2 : Addr) (o3 : Addr) (p4 : Int32) (p6 : Int32) (p8 : Int32) (p10 : Int32) (h0 : Heap) (n0 : Nat) (O0 : Old Z n0 h0) (g_o1 : n0 ≤ o1) (g_o2 : n0 ≤ o2) (g_o3 : n0 ≤ o3) (bd_p4 : 0 ≤ p4.toInt ∧ p4.toInt ≤ 1) (bd_p6 : 0 ≤ p6.toInt ∧ p6.toInt ≤ 1) (bd_p8 : 0 ≤ p8.toInt ∧ p8.toInt ≤ 1) (bd_p10 : 0 ≤ p10.toInt ∧ p10.toInt ≤ 1) :
    MetFree l yn3 (head1 (Jvm.Cond.code yn3 method_3_code 6 (some .boolean) :: ws) ({ frames := 0, cells := 0, slots := 0, locals := 0 } : Room)) (fun a U => a = #[(.ref o1), (.ref o2), (.ref o3), (.int 3), (.int 1), (.int p4)] ∧ Z.Warmed39 U.vm ∧ U.heap = h0) (fun _ _ _ _ _ => True) (fun _ U o U' => ∃ v L, o = .returned v ∧ Q20 Z o1 o2 o3 p4 p6 p8 p10 h0 n0 v U'.heap L ∧ FrameEnd U o U' L ({ frames := 0, cells := 0, slots := 0, locals := 0 } : Room).cells ({ frames := 0, cells := 0, slots := 0, locals := 0 } : Room).slots) := by
  refine MetFree.of_bodySF (plainFor_of_name pn2) hisR ?_
  intro p e s m args below meth c s₁ Bd hml0 hP hK
  obtain ⟨rfl, hZ, hh⟩ := hP
  have hx := Bd.exec
  have hby := Bd.bytes
  have hml : c.maxLocals = 6 := hml0
  have hown : s.vm.findClass "com/example/castless/castless/PrimitiveArraysBoxPinLaw" = some m.cls := findClass_of_methodNamed Bd.named
  have hnm := (name_of_methodNamed Bd.named Bd.method).1
  have hret := Bd.returns
  have hlk : meth.locks = false := BodyLoose.notSynchronized Bd
  have X0 : Stand p l e ({ frames := 0, cells := 0, slots := 0, locals := 0 } : Room) s m #[(.ref o1), (.ref o2), (.ref o3), (.int 3), (.int 1), (.int p4)] below meth c s₁ [] 0 0 := Stand.of_body Bd
  have e0 : s₁.heap = h0 := by rw [← hh, Bd.state]; rfl
  have N0 := Fr.nil n0
  have pre0 : ∀ t, Steps p.tables e below (s₁.setTop (mkF m 0 #[.val (.ref o1), .val (.ref o2), .val (.ref o3), .val (.int 3), .val (.int 1), .val (.int p4)] [])) t → Steps p.tables e below (s₁.setTop (entryFrame m #[(.ref o1), (.ref o2), (.ref o3), (.int 3), (.int 1), (.int p4)] 6)) t := fun t k => castTop (ef20 m o1 o2 o3 (3 : Int32) (1 : Int32) p4) k
  obtain ⟨fs, hr, hrun, hended, hW, hsame⟩ := X0.leave (v := some (.int 1)) (fun h => by rw [hret] at h; cases h)
  refine ⟨_, _, pre0 _ ?_, hrun, hended, _, _, rfl, ?_, ⟨_, rfl⟩, hW, hsame.mono (by decide) (by decide)⟩
  ·
    show Steps p.tables e below (s₁.setTop (mkF m 0 #[.val (.ref o1), .val (.ref o2), .val (.ref o3), .val (.int 3), .val (.int 1), .val (.int p4)] [])) _
    refine XS.iloadN X0.here hx rfl (hb hby d3_0) rfl ?_
    refine XS.iload X0.here hx rfl (hb hby d3_1) rfl ?_
    refine XS.icmpNo X0.here hx rfl (hb hby d3_3) rfl (flt (by decide : ¬ ((3 : Int32) < (1 : Int32)))).1 ?_
    refine XS.iconst X0.here hx rfl (hb hby d3_6) ?_
    show Steps p.tables e below (s₁.setTop (mkF m 7 #[.val (.ref o1), .val (.ref o2), .val (.ref o3), .val (.int 3), .val (.int 1), .val (.int p4)] [(.int 1)])) _
    exact retN X0 hx (t := .boolean) hret (by simp) (hb hby d3_7) hr
  ·
    show Q20 Z o1 o2 o3 p4 p6 p8 p10 h0 n0 _ s₁.heap _
    rw [e0]
    exact ⟨rfl, N0, rfl⟩
theorem ef21 (m : MethodId) (x0 : Addr) (x1 : Addr) : entryFrame m #[(.ref x0), (.ref x1)] 2 = mkF m 0 #[.val (.ref x0), .val (.ref x1)] [] := by first | (simp [entryFrame, mkF, argsToLocals, Value.category]; done) | rfl
def Q21 (Z : State) (o1 : Addr) (u2 : Addr) (h0 : Heap) (n0 : Nat) (v : Option Value) (h : Heap) (L : List Loc) : Prop :=
  (v = some (.ref o1) ∧ Fr n0 L ∧ h = h0)
set_option maxRecDepth 65536 in
set_option maxHeartbeats 40000000 in
theorem rm21 (l : Launch) (Z : State) (a0 : Array Value) (hw : ∀ d ∈ tables_1, d.before a0 Z = true) (ws : List Jvm.Cond) (o1 : Addr) (u2 : Addr) (h0 : Heap) (n0 : Nat) (O0 : Old Z n0 h0) (g_o1 : n0 ≤ o1) :
    MetFree l yn0 (head1 (Jvm.Cond.code yn0 jdk_31_method_11_code 2 (some (.object "java/lang/Object")) :: ws) ({ frames := 0, cells := 0, slots := 0, locals := 0 } : Room)) (fun a U => a = #[(.ref o1), (.ref u2)] ∧ Z.Warmed39 U.vm ∧ U.heap = h0) (fun _ _ _ _ _ => True) (fun _ U o U' => ∃ v L, o = .returned v ∧ Q21 Z o1 u2 h0 n0 v U'.heap L ∧ FrameEnd U o U' L ({ frames := 0, cells := 0, slots := 0, locals := 0 } : Room).cells ({ frames := 0, cells := 0, slots := 0, locals := 0 } : Room).slots) := by
  refine MetFree.of_bodySF (plainFor_of_name pn0) hisR ?_
  intro p e s m args below meth c s₁ Bd hml0 hP hK
  obtain ⟨rfl, hZ, hh⟩ := hP
  have hx := Bd.exec
  have hby := Bd.bytes
  have hml : c.maxLocals = 2 := hml0
  have hown : s.vm.findClass "java/util/Objects" = some m.cls := findClass_of_methodNamed Bd.named
  have hnm := (name_of_methodNamed Bd.named Bd.method).1
  have hret := Bd.returns
  have hlk : meth.locks = false := BodyLoose.notSynchronized Bd
  have X0 : Stand p l e ({ frames := 0, cells := 0, slots := 0, locals := 0 } : Room) s m #[(.ref o1), (.ref u2)] below meth c s₁ [] 0 0 := Stand.of_body Bd
  have e0 : s₁.heap = h0 := by rw [← hh, Bd.state]; rfl
  have N0 := Fr.nil n0
  have pre0 : ∀ t, Steps p.tables e below (s₁.setTop (mkF m 0 #[.val (.ref o1), .val (.ref u2)] [])) t → Steps p.tables e below (s₁.setTop (entryFrame m #[(.ref o1), (.ref u2)] 2)) t := fun t k => castTop (ef21 m o1 u2) k
  obtain ⟨fs, hr, hrun, hended, hW, hsame⟩ := X0.leave (v := some (.ref o1)) (fun h => by rw [hret] at h; cases h)
  refine ⟨_, _, pre0 _ ?_, hrun, hended, _, _, rfl, ?_, ⟨_, rfl⟩, hW, hsame.mono (by decide) (by decide)⟩
  ·
    show Steps p.tables e below (s₁.setTop (mkF m 0 #[.val (.ref o1), .val (.ref u2)] [])) _
    refine XS.aloadN X0.here hx rfl (hb hby d1_0) rfl rfl ?_
    refine XS.ifnonnullYes X0.here hx rfl (pc0 := 1) (pc' := 13) rfl (hb hby d1_1) rfl (by decide) (by decide) ?_
    refine XS.aloadN X0.here hx rfl (hb hby d1_13) rfl rfl ?_
    show Steps p.tables e below (s₁.setTop (mkF m 14 #[.val (.ref o1), .val (.ref u2)] [(.ref o1)])) _
    exact retOut X0 hx hret rfl (Or.inr (Or.inr (Or.inr (Or.inr ⟨rfl, rfl, rfl⟩)))) (hb hby d1_14) hr
  ·
    show Q21 Z o1 u2 h0 n0 _ s₁.heap _
    rw [e0]
    exact ⟨rfl, N0, rfl⟩
theorem ef22 (m : MethodId) (x0 : Addr) : entryFrame m #[(.ref x0)] 3 = mkF m 0 #[.val (.ref x0), .unset, .unset] [] := by first | (simp [entryFrame, mkF, argsToLocals, Value.category]; done) | rfl
def Q22 (Z : State) (w1 : Addr) (w2 : Addr) (o1 : Addr) (p3 : Int32) (p4 : Int32) (kc2 : ClassId) (h0 : Heap) (n0 : Nat) (v : Option Value) (h : Heap) (L : List Loc) : Prop :=
  (∃ b8 : Addr, ∃ k8 : ClassId, ∃ v13 : Addr, ∃ v26 : Addr, v = some (.ref b8) ∧ Fr n0 L ∧ Keep h0 h [] ∧ h0.size ≤ b8 ∧ Ovr Z k8 "java/lang/Boolean" ∧ (Arv Z h b8 k8 (.object "java/lang/Boolean") (2 : Int32) [(.ref v13), (.ref v26)] .null) ∧ (Exa Z h b8 "[Ljava/lang/Boolean;") ∧ (Exa Z Z.heap v13 "java/lang/Boolean") ∧ (Fld Z Z.heap v13 "java/lang/Boolean" "value" "Z" (.int p3)) ∧ (Exa Z Z.heap v26 "java/lang/Boolean") ∧ (Fld Z Z.heap v26 "java/lang/Boolean" "value" "Z" (.int p4)))
set_option maxRecDepth 65536 in
set_option maxHeartbeats 40000000 in
theorem rm22 (l : Launch) (Z : State) (a0 : Array Value) (hw : ∀ d ∈ tables_1, d.before a0 Z = true) (w1 : Addr) (w2 : Addr) (G : GW Z w1 w2) (ws : List Jvm.Cond) (o1 : Addr) (p3 : Int32) (p4 : Int32) (kc2 : ClassId) (h0 : Heap) (n0 : Nat) (O0 : Old Z n0 h0) (g_o1 : n0 ≤ o1) (bd_p3 : 0 ≤ p3.toInt ∧ p3.toInt ≤ 1) (bd_p4 : 0 ≤ p4.toInt ∧ p4.toInt ≤ 1) (P0 : Arv Z h0 o1 kc2 .boolean (2 : Int32) [(.int p3), (.int p4)] (.int 0)) :
    MetFree l yn1 (head1 (Jvm.Cond.code yn1 prog_11_method_2_code 3 (some (.array (.object "java/lang/Boolean"))) :: ws) ({ frames := 1, cells := 3, slots := 58, locals := 14 } : Room)) (fun a U => a = #[(.ref o1)] ∧ Z.Warmed39 U.vm ∧ U.heap = h0) (fun _ _ _ _ _ => True) (fun _ U o U' => ∃ v L, o = .returned v ∧ Q22 Z w1 w2 o1 p3 p4 kc2 h0 n0 v U'.heap L ∧ ReturnedEndW U o U' L ({ frames := 1, cells := 3, slots := 58, locals := 14 } : Room).cells ({ frames := 1, cells := 3, slots := 58, locals := 14 } : Room).slots) := by
  obtain ⟨S_w1, E_w1, S_w2, E_w2, F_w1_value, F_w2_value⟩ := id G
  refine MetFree.of_bodySF (plainFor_of_name pn1) hisR ?_
  intro p e s m args below meth c s₁ Bd hml0 hP hK
  obtain ⟨rfl, hZ, hh⟩ := hP
  have hx := Bd.exec
  have hby := Bd.bytes
  have hml : c.maxLocals = 3 := hml0
  have hown : s.vm.findClass "com/example/castless/castless/PrimitiveArrays" = some m.cls := findClass_of_methodNamed Bd.named
  have hnm := (name_of_methodNamed Bd.named Bd.method).1
  have hret := Bd.returns
  have hlk : meth.locks = false := BodyLoose.notSynchronized Bd
  have X0 : Stand p l e ({ frames := 1, cells := 3, slots := 58, locals := 14 } : Room) s m #[(.ref o1)] below meth c s₁ [] 0 0 := Stand.of_body Bd
  have e0 : s₁.heap = h0 := by rw [← hh, Bd.state]; rfl
  have N0 := Fr.nil n0
  have pre0 : ∀ t, Steps p.tables e below (s₁.setTop (mkF m 0 #[.val (.ref o1), .unset, .unset] [])) t → Steps p.tables e below (s₁.setTop (entryFrame m #[(.ref o1)] 3)) t := fun t k => castTop (ef22 m o1) k
  have pre1 : ∀ t, Steps p.tables e below (s₁.setTop (mkF m 1 #[.val (.ref o1), .unset, .unset] [(.ref o1)])) t → Steps p.tables e below (s₁.setTop (entryFrame m #[(.ref o1)] 3)) t := fun t k => by
    refine pre0 _ ?_
    show Steps p.tables e below (s₁.setTop (mkF m 0 #[.val (.ref o1), .unset, .unset] [])) _
    refine XS.aloadN X0.here hx rfl (hb hby d0_0) rfl rfl ?_
    exact k
  obtain ⟨sx2, T2, h2, ks2, X2, e2, E2, hS2, hk2, hZ, hown, st2⟩ := ldcS (s := s) (vm0 := s.vm) X0 hx hZ hown (own_w hw 6 rfl) (own_sa hw) e0 ((State.WarmedH.refl s).since h0.size) (Nat.le_refl _) (g := (mkF m 1 #[.val (.ref o1), .unset, .unset] [(.ref o1)])) rfl (hb hby d0_1) (n := 52) (by decide) (by decide) (by decide) (by decide)
  have M2 : h0.size ≤ h2.size := Nat.le_trans (Nat.le_refl _) E2.1
  have O2 := Old.ext O0 E2
  obtain ⟨_, T3, L3, X3, hQ3, st3⟩ := own_cs X2 hx hZ hown (y := yn0) (own_w hw 14 rfl) (own_w hw 15 rfl) (own_w hw 17 rfl) (own_w hw 16 rfl) e2 (argsL := [(.ref o1), (.ref sx2)]) (rest := []) (rm21 l Z a0 hw [] o1 sx2 h2 n0 O2 g_o1) (g := (mkF m 3 #[.val (.ref o1), .unset, .unset] [(.ref sx2), (.ref o1)])) rfl (by rw [hml]; rfl) rfl (hb hby d0_3) (lenOf pd0 rfl) (W := 0) (c1 := 2) (s1 := 56)
  obtain ⟨rfl, Nq4, e5⟩ := hQ3
  have N3 := Fr.app N0 Nq4
  have f6 := (P0.ext E2)
  obtain ⟨cl7, Ar7, qa7, Sa7, Na7, Ha7, Ga7⟩ := id (f6)
  obtain ⟨T8, h8, k8, X8, e8, E8, A8, EX8, OV8, st8⟩ := newRE X3 hx hZ hown (own_w hw 18 rfl) (own_w hw 19 rfl) e5 (g := (mkF m 9 #[.val (.ref o1), .unset, .unset] [(.int 2)])) rfl (hb hby d0_9) rfl (by decide) (cap := 2) (by decide) (by decide) (by decide) (by decide) (ad := "[Ljava/lang/Boolean;") (by decide)
  obtain ⟨b8, g8⟩ : ∃ z, z = h2.size := ⟨_, rfl⟩
  rw [← g8] at A8 EX8 st8
  have hkk8 := Nat.le_trans hk2 E8.1
  have M8 : h0.size ≤ h8.size := Nat.le_trans M2 E8.1
  have O8 := Old.ext O2 E8
  have sz_b8 : h2.size ≤ b8 := Nat.le_of_eq g8.symm
  have g_b8 : n0 ≤ b8 := Nat.le_trans (own_oz O0) (Nat.le_trans M2 sz_b8)
  have V8_0 := Arv.new A8 (by decide)
  have V8 : Arv Z h8 b8 k8 (.object "java/lang/Boolean") (2 : Int32) [.null, .null] .null := V8_0.pad (pad_rep [] .null 2)
  have f9 := (f6.ext E8)
  obtain ⟨cl10, Ar10, qa10, Sa10, Na10, Ha10, Ga10⟩ := id (f9)
  obtain ⟨cl11, Ar11, qa11, Sa11, Na11, Ha11, Ga11⟩ := id (f9)
  have hin11 : ¬ ((0 : Int32) < 0 ∨ cl11.slots.size ≤ ((0 : Int32)).toNatClampNeg) := inb_of Sa11 ⟨by decide, by decide⟩
  have hat11 : cl11.slots[((0 : Int32)).toNatClampNeg]? = some (.int p3) := Has.at Ha11 hin11 rfl
  obtain ⟨_, T12, L12, X12, hQ12, st12⟩ := own_cs X8 hx hZ hown (y := yn4) (own_w hw 20 rfl) (own_w hw 21 rfl) (own_w hw 23 rfl) (own_w hw 22 rfl) e8 (argsL := [(.int p3)]) (rest := [(.int 0), (.ref b8)]) (rm11 l Z a0 hw w1 w2 G [] p3 h8 n0 O8 (by have q0 := bd_p3; omega)) (g := (mkF m 26 #[.val (.ref o1), .val (.ref b8), .val (.int 0)] [(.int p3), (.int 0), (.ref b8)])) rfl (by rw [hml]; rfl) rfl (hb hby d0_26) (lenOf pd4 rfl) (W := 2) (c1 := 3) (s1 := 58)
  obtain ⟨v13, rfl, Nq14, e15, f16, f17⟩ := hQ12
  have N12 := Fr.app N3 Nq14
  obtain ⟨cl18, Ar18, qa18, Sa18, Na18, Ha18, Ga18⟩ := id (V8)
  have hin18 : ¬ ((0 : Int32) < 0 ∨ cl18.slots.size ≤ ((0 : Int32)).toNatClampNeg) := inb_of Sa18 ⟨by decide, by decide⟩
  obtain ⟨T19, h19, X19, e19, W19, st19⟩ := stR X12 hx hZ e15 Ar18 (j := (0 : Int32)) hin18 rfl (Sto.ofV Ar18 qa18 OV8 (Ins.self (f16.ext O8.2))) (g := (mkF m 29 #[.val (.ref o1), .val (.ref b8), .val (.int 0)] [(.ref v13), (.int 0), (.ref b8)])) rfl rfl (hb hby d0_29)
  have V19 : Arv Z h19 b8 k8 (.object "java/lang/Boolean") (2 : Int32) [(.ref v13), .null] .null := Arv.set Ar18 qa18 Sa18 Na18 Ha18 Ga18 rfl W19 0 rfl (Nat.le_of_ble_eq_true rfl)
  have N19 := Fr.snoc X19 N12 g_b8
  have hkk19 := Nat.le_trans hkk8 (Nat.le_of_eq W19.size.symm)
  have M19 : h0.size ≤ h19.size := Nat.le_trans M8 (Nat.le_of_eq W19.size.symm)
  have O19 := Old.wr O8 W19 g_b8
  have lt20 : o1 < h2.size := (Nat.lt_of_lt_of_le P0.lt E2.1)
  have ne21 : o1 ≠ b8 := Nat.ne_of_lt (Nat.lt_of_lt_of_le lt20 sz_b8)
  have f22 := (f9.other W19 ne21)
  obtain ⟨cl23, Ar23, qa23, Sa23, Na23, Ha23, Ga23⟩ := id (f22)
  obtain ⟨cl24, Ar24, qa24, Sa24, Na24, Ha24, Ga24⟩ := id (f22)
  have hin24 : ¬ ((1 : Int32) < 0 ∨ cl24.slots.size ≤ ((1 : Int32)).toNatClampNeg) := inb_of Sa24 ⟨by decide, by decide⟩
  have hat24 : cl24.slots[((1 : Int32)).toNatClampNeg]? = some (.int p4) := Has.at Ha24 hin24 rfl
  obtain ⟨_, T25, L25, X25, hQ25, st25⟩ := own_cs X19 hx hZ hown (y := yn4) (own_w hw 20 rfl) (own_w hw 21 rfl) (own_w hw 23 rfl) (own_w hw 22 rfl) e19 (argsL := [(.int p4)]) (rest := [(.int 1), (.ref b8)]) (rm11 l Z a0 hw w1 w2 G [] p4 h19 n0 O19 (by have q0 := bd_p4; omega)) (g := (mkF m 26 #[.val (.ref o1), .val (.ref b8), .val (.int 1)] [(.int p4), (.int 1), (.ref b8)])) rfl (by rw [hml]; rfl) rfl (hb hby d0_26) (lenOf pd4 rfl) (W := 2) (c1 := 3) (s1 := 58)
  obtain ⟨v26, rfl, Nq27, e28, f29, f30⟩ := hQ25
  have N25 := Fr.app N19 Nq27
  obtain ⟨cl31, Ar31, qa31, Sa31, Na31, Ha31, Ga31⟩ := id (V19)
  have hin31 : ¬ ((1 : Int32) < 0 ∨ cl31.slots.size ≤ ((1 : Int32)).toNatClampNeg) := inb_of Sa31 ⟨by decide, by decide⟩
  obtain ⟨T32, h32, X32, e32, W32, st32⟩ := stR X25 hx hZ e28 Ar31 (j := (1 : Int32)) hin31 rfl (Sto.ofV Ar31 qa31 OV8 (Ins.self (f29.ext O19.2))) (g := (mkF m 29 #[.val (.ref o1), .val (.ref b8), .val (.int 1)] [(.ref v26), (.int 1), (.ref b8)])) rfl rfl (hb hby d0_29)
  have V32 : Arv Z h32 b8 k8 (.object "java/lang/Boolean") (2 : Int32) [(.ref v13), (.ref v26)] .null := Arv.set Ar31 qa31 Sa31 Na31 Ha31 Ga31 rfl W32 1 rfl (Nat.le_of_ble_eq_true rfl)
  have N32 := Fr.snoc X32 N25 g_b8
  have hkk32 := Nat.le_trans hkk19 (Nat.le_of_eq W32.size.symm)
  have M32 : h0.size ≤ h32.size := Nat.le_trans M19 (Nat.le_of_eq W32.size.symm)
  have O32 := Old.wr O19 W32 g_b8
  have f33 := (f22.other W32 ne21)
  obtain ⟨cl34, Ar34, qa34, Sa34, Na34, Ha34, Ga34⟩ := id (f33)
  obtain ⟨fs, hr, hrun, hended, hRE⟩ := X32.leaveW hS2 (by rw [e32]; exact hkk32) (v := some (.ref b8)) (fun h => by rw [hret] at h; cases h)
  have KL : Keep h0 h32 [] := (((((Keep.refl h0 []).ext E2).ext E8).wr W19 (Or.inr (Nat.le_trans M2 sz_b8))).wr W32 (Or.inr (Nat.le_trans M2 sz_b8)))
  have f35 := ((EX8.wr W19).wr W32)
  refine ⟨_, _, pre1 _ ?_, hrun, hended, _, _, rfl, ?_, hRE.1, hRE.2.1, hRE.2.2.1, hRE.2.2.2.mono (by decide) (by decide)⟩
  ·
    show Steps p.tables e below (s₁.setTop (mkF m 1 #[.val (.ref o1), .unset, .unset] [(.ref o1)])) _
    refine st2 _ ?_
    refine st3 _ ?_
    refine XS.pop X3.here hx rfl (hb hby d0_6) rfl rfl ?_
    refine XS.aloadN X3.here hx rfl (hb hby d0_7) rfl rfl ?_
    refine X3.arraylength hx (by rw [e5]; exact Ar7.1) (State.isArrayOf_alike hZ.alike Ar7.2.1) (g := (mkF m 8 #[.val (.ref o1), .unset, .unset] [(.ref o1)])) rfl rfl (hb hby d0_8) _ ?_
    rw [len_of Sa7 Na7]
    refine st8 _ ?_
    refine XS.astoreN X8.here hx rfl (hb hby d0_12) rfl rfl (l' := #[.val (.ref o1), .val (.ref b8), .unset]) rfl ?_
    refine XS.iconst X8.here hx rfl (hb hby d0_13) ?_
    refine XS.istoreN X8.here hx rfl (hb hby d0_14) rfl (l' := #[.val (.ref o1), .val (.ref b8), .val (.int 0)]) rfl ?_
    refine XS.iloadN X8.here hx rfl (hb hby d0_15) rfl ?_
    refine XS.aloadN X8.here hx rfl (hb hby d0_16) rfl rfl ?_
    refine X8.arraylength hx (by rw [e8]; exact Ar10.1) (State.isArrayOf_alike hZ.alike Ar10.2.1) (g := (mkF m 17 #[.val (.ref o1), .val (.ref b8), .val (.int 0)] [(.ref o1), (.int 0)])) rfl rfl (hb hby d0_17) _ ?_
    rw [len_of Sa10 Na10]
    refine XS.icmpNo X8.here hx rfl (hb hby d0_18) rfl (tlt (by decide : (0 : Int32) < (2 : Int32))).2.1 ?_
    refine XS.aloadN X8.here hx rfl (hb hby d0_21) rfl rfl ?_
    refine XS.iloadN X8.here hx rfl (hb hby d0_22) rfl ?_
    refine XS.aloadN X8.here hx rfl (hb hby d0_23) rfl rfl ?_
    refine XS.iloadN X8.here hx rfl (hb hby d0_24) rfl ?_
    refine X8.baloadBooleans hx (j := (0 : Int32)) (v := (.int p3)) (by rw [e8]; exact Ar11.1) (State.isArrayOf_alike hZ.alike Ar11.2.1) Ar11.2.2 hin11 hat11 (g := (mkF m 25 #[.val (.ref o1), .val (.ref b8), .val (.int 0)] [(.int 0), (.ref o1), (.int 0), (.ref b8)])) rfl rfl (hb hby d0_25) _ ?_
    refine st12 _ ?_
    refine st19 _ ?_
    refine XS.iinc X19.here hx rfl (hb hby d0_30) rfl (l' := #[.val (.ref o1), .val (.ref b8), .val (.int 1)]) rfl ?_
    refine XS.goto X19.here hx rfl (pc0 := 33) (pc' := 15) rfl (hb hby d0_33) (by decide) (by decide) ?_
    refine XS.iloadN X19.here hx rfl (hb hby d0_15) rfl ?_
    refine XS.aloadN X19.here hx rfl (hb hby d0_16) rfl rfl ?_
    refine X19.arraylength hx (by rw [e19]; exact Ar23.1) (State.isArrayOf_alike hZ.alike Ar23.2.1) (g := (mkF m 17 #[.val (.ref o1), .val (.ref b8), .val (.int 1)] [(.ref o1), (.int 1)])) rfl rfl (hb hby d0_17) _ ?_
    rw [len_of Sa23 Na23]
    refine XS.icmpNo X19.here hx rfl (hb hby d0_18) rfl (tlt (by decide : (1 : Int32) < (2 : Int32))).2.1 ?_
    refine XS.aloadN X19.here hx rfl (hb hby d0_21) rfl rfl ?_
    refine XS.iloadN X19.here hx rfl (hb hby d0_22) rfl ?_
    refine XS.aloadN X19.here hx rfl (hb hby d0_23) rfl rfl ?_
    refine XS.iloadN X19.here hx rfl (hb hby d0_24) rfl ?_
    refine X19.baloadBooleans hx (j := (1 : Int32)) (v := (.int p4)) (by rw [e19]; exact Ar24.1) (State.isArrayOf_alike hZ.alike Ar24.2.1) Ar24.2.2 hin24 hat24 (g := (mkF m 25 #[.val (.ref o1), .val (.ref b8), .val (.int 1)] [(.int 1), (.ref o1), (.int 1), (.ref b8)])) rfl rfl (hb hby d0_25) _ ?_
    refine st25 _ ?_
    refine st32 _ ?_
    refine XS.iinc X32.here hx rfl (hb hby d0_30) rfl (l' := #[.val (.ref o1), .val (.ref b8), .val (.int 2)]) rfl ?_
    refine XS.goto X32.here hx rfl (pc0 := 33) (pc' := 15) rfl (hb hby d0_33) (by decide) (by decide) ?_
    refine XS.iloadN X32.here hx rfl (hb hby d0_15) rfl ?_
    refine XS.aloadN X32.here hx rfl (hb hby d0_16) rfl rfl ?_
    refine X32.arraylength hx (by rw [e32]; exact Ar34.1) (State.isArrayOf_alike hZ.alike Ar34.2.1) (g := (mkF m 17 #[.val (.ref o1), .val (.ref b8), .val (.int 2)] [(.ref o1), (.int 2)])) rfl rfl (hb hby d0_17) _ ?_
    rw [len_of Sa34 Na34]
    refine XS.icmpYes X32.here hx rfl (pc0 := 18) (pc' := 36) rfl (hb hby d0_18) rfl (flt (by decide : ¬ ((2 : Int32) < (2 : Int32)))).2.1 (by decide) (by decide) ?_
    show Steps p.tables e below (T32.setTop (mkF m 36 #[.val (.ref o1), .val (.ref b8), .val (.int 2)] [])) _
    refine XS.aloadN X32.here hx rfl (hb hby d0_36) rfl rfl ?_
    show Steps p.tables e below (T32.setTop (mkF m 37 #[.val (.ref o1), .val (.ref b8), .val (.int 2)] [(.ref b8)])) _
    exact retOut X32 hx hret rfl (Or.inr (Or.inr (Or.inr (Or.inr ⟨rfl, rfl, rfl⟩)))) (hb hby d0_37) hr
  ·
    show Q22 Z w1 w2 o1 p3 p4 kc2 h0 n0 _ T32.heap _
    rw [e32]
    exact ⟨b8, k8, v13, v26, rfl, N32, KL, (Nat.le_trans M2 sz_b8), OV8, V32, f35, f16, f17, f29, f30⟩
theorem ef23 (m : MethodId) (x0 : Addr) (x1 : Addr) : entryFrame m #[(.ref x0), (.ref x1)] 2 = mkF m 0 #[.val (.ref x0), .val (.ref x1)] [] := by first | (simp [entryFrame, mkF, argsToLocals, Value.category]; done) | rfl
def Q23 (Z : State) (o1 : Addr) (kc3 : ClassId) (u2 : Addr) (h0 : Heap) (n0 : Nat) (v : Option Value) (h : Heap) (L : List Loc) : Prop :=
  (v = some (.ref o1) ∧ Fr n0 L ∧ h = h0)
set_option maxRecDepth 65536 in
set_option maxHeartbeats 40000000 in
theorem rm23 (l : Launch) (Z : State) (a0 : Array Value) (hw : ∀ d ∈ tables_1, d.before a0 Z = true) (ws : List Jvm.Cond) (o1 : Addr) (kc3 : ClassId) (u2 : Addr) (h0 : Heap) (n0 : Nat) (O0 : Old Z n0 h0) (g_o1 : n0 ≤ o1) (Ov_kc3 : Ovr Z kc3 "java/lang/Boolean") :
    MetFree l yn0 (head1 (Jvm.Cond.code yn0 jdk_31_method_11_code 2 (some (.object "java/lang/Object")) :: ws) ({ frames := 0, cells := 0, slots := 0, locals := 0 } : Room)) (fun a U => a = #[(.ref o1), (.ref u2)] ∧ Z.Warmed39 U.vm ∧ U.heap = h0) (fun _ _ _ _ _ => True) (fun _ U o U' => ∃ v L, o = .returned v ∧ Q23 Z o1 kc3 u2 h0 n0 v U'.heap L ∧ FrameEnd U o U' L ({ frames := 0, cells := 0, slots := 0, locals := 0 } : Room).cells ({ frames := 0, cells := 0, slots := 0, locals := 0 } : Room).slots) := by
  refine MetFree.of_bodySF (plainFor_of_name pn0) hisR ?_
  intro p e s m args below meth c s₁ Bd hml0 hP hK
  obtain ⟨rfl, hZ, hh⟩ := hP
  have hx := Bd.exec
  have hby := Bd.bytes
  have hml : c.maxLocals = 2 := hml0
  have hown : s.vm.findClass "java/util/Objects" = some m.cls := findClass_of_methodNamed Bd.named
  have hnm := (name_of_methodNamed Bd.named Bd.method).1
  have hret := Bd.returns
  have hlk : meth.locks = false := BodyLoose.notSynchronized Bd
  have X0 : Stand p l e ({ frames := 0, cells := 0, slots := 0, locals := 0 } : Room) s m #[(.ref o1), (.ref u2)] below meth c s₁ [] 0 0 := Stand.of_body Bd
  have e0 : s₁.heap = h0 := by rw [← hh, Bd.state]; rfl
  have N0 := Fr.nil n0
  have pre0 : ∀ t, Steps p.tables e below (s₁.setTop (mkF m 0 #[.val (.ref o1), .val (.ref u2)] [])) t → Steps p.tables e below (s₁.setTop (entryFrame m #[(.ref o1), (.ref u2)] 2)) t := fun t k => castTop (ef23 m o1 u2) k
  obtain ⟨fs, hr, hrun, hended, hW, hsame⟩ := X0.leave (v := some (.ref o1)) (fun h => by rw [hret] at h; cases h)
  refine ⟨_, _, pre0 _ ?_, hrun, hended, _, _, rfl, ?_, ⟨_, rfl⟩, hW, hsame.mono (by decide) (by decide)⟩
  ·
    show Steps p.tables e below (s₁.setTop (mkF m 0 #[.val (.ref o1), .val (.ref u2)] [])) _
    refine XS.aloadN X0.here hx rfl (hb hby d1_0) rfl rfl ?_
    refine XS.ifnonnullYes X0.here hx rfl (pc0 := 1) (pc' := 13) rfl (hb hby d1_1) rfl (by decide) (by decide) ?_
    refine XS.aloadN X0.here hx rfl (hb hby d1_13) rfl rfl ?_
    show Steps p.tables e below (s₁.setTop (mkF m 14 #[.val (.ref o1), .val (.ref u2)] [(.ref o1)])) _
    exact retOut X0 hx hret rfl (Or.inr (Or.inr (Or.inr (Or.inr ⟨rfl, rfl, rfl⟩)))) (hb hby d1_14) hr
  ·
    show Q23 Z o1 kc3 u2 h0 n0 _ s₁.heap _
    rw [e0]
    exact ⟨rfl, N0, rfl⟩
theorem ef24 (m : MethodId) (x0 : Addr) (x1 : Int32) : entryFrame m #[(.ref x0), (.int x1)] 5 = mkF m 0 #[.val (.ref x0), .val (.int x1), .unset, .unset, .unset] [] := by first | (simp [entryFrame, mkF, argsToLocals, Value.category]; done) | rfl
def Q24 (Z : State) (o1 : Addr) (kc2 : ClassId) (p5 : Int32) (p6 : Int32) (v3 : Addr) (v4 : Addr) (h0 : Heap) (n0 : Nat) (v : Option Value) (h : Heap) (L : List Loc) : Prop :=
  (∃ b8 : Addr, ∃ k8 : ClassId, v = some (.ref b8) ∧ Fr n0 L ∧ Keep h0 h [] ∧ h0.size ≤ b8 ∧ (Arv Z h b8 k8 .boolean (2 : Int32) [(.int p5), (.int p6)] (.int 0)) ∧ (Exa Z h b8 "[Z"))
set_option maxRecDepth 65536 in
set_option maxHeartbeats 40000000 in
theorem rm24 (l : Launch) (Z : State) (a0 : Array Value) (hw : ∀ d ∈ tables_1, d.before a0 Z = true) (ws : List Jvm.Cond) (o1 : Addr) (kc2 : ClassId) (p5 : Int32) (p6 : Int32) (v3 : Addr) (v4 : Addr) (h0 : Heap) (n0 : Nat) (O0 : Old Z n0 h0) (g_o1 : n0 ≤ o1) (Ov_kc2 : Ovr Z kc2 "java/lang/Boolean") (bd_p5 : 0 ≤ p5.toInt ∧ p5.toInt ≤ 1) (bd_p6 : 0 ≤ p6.toInt ∧ p6.toInt ≤ 1) (P0 : Arv Z h0 o1 kc2 (.object "java/lang/Boolean") (2 : Int32) [(.ref v3), (.ref v4)] .null) (P2 : Exa Z Z.heap v3 "java/lang/Boolean") (P3 : Fld Z Z.heap v3 "java/lang/Boolean" "value" "Z" (.int p5)) (P4 : Exa Z Z.heap v4 "java/lang/Boolean") (P5 : Fld Z Z.heap v4 "java/lang/Boolean" "value" "Z" (.int p6)) :
    MetFree l yn2 (head1 (Jvm.Cond.code yn2 prog_11_method_4_code 5 (some (.array .boolean)) :: ws) ({ frames := 1, cells := 3, slots := 58, locals := 14 } : Room)) (fun a U => a = #[(.ref o1), (.int 0)] ∧ Z.Warmed39 U.vm ∧ U.heap = h0) (fun _ _ _ _ _ => True) (fun _ U o U' => ∃ v L, o = .returned v ∧ Q24 Z o1 kc2 p5 p6 v3 v4 h0 n0 v U'.heap L ∧ ReturnedEndW U o U' L ({ frames := 1, cells := 3, slots := 58, locals := 14 } : Room).cells ({ frames := 1, cells := 3, slots := 58, locals := 14 } : Room).slots) := by
  refine MetFree.of_bodySF (plainFor_of_name pn1) hisR ?_
  intro p e s m args below meth c s₁ Bd hml0 hP hK
  obtain ⟨rfl, hZ, hh⟩ := hP
  have hx := Bd.exec
  have hby := Bd.bytes
  have hml : c.maxLocals = 5 := hml0
  have hown : s.vm.findClass "com/example/castless/castless/PrimitiveArrays" = some m.cls := findClass_of_methodNamed Bd.named
  have hnm := (name_of_methodNamed Bd.named Bd.method).1
  have hret := Bd.returns
  have hlk : meth.locks = false := BodyLoose.notSynchronized Bd
  have X0 : Stand p l e ({ frames := 1, cells := 3, slots := 58, locals := 14 } : Room) s m #[(.ref o1), (.int 0)] below meth c s₁ [] 0 0 := Stand.of_body Bd
  have e0 : s₁.heap = h0 := by rw [← hh, Bd.state]; rfl
  have N0 := Fr.nil n0
  have pre0 : ∀ t, Steps p.tables e below (s₁.setTop (mkF m 0 #[.val (.ref o1), .val (.int 0), .unset, .unset, .unset] [])) t → Steps p.tables e below (s₁.setTop (entryFrame m #[(.ref o1), (.int 0)] 5)) t := fun t k => castTop (ef24 m o1 (0 : Int32)) k
  have pre1 : ∀ t, Steps p.tables e below (s₁.setTop (mkF m 1 #[.val (.ref o1), .val (.int 0), .unset, .unset, .unset] [(.ref o1)])) t → Steps p.tables e below (s₁.setTop (entryFrame m #[(.ref o1), (.int 0)] 5)) t := fun t k => by
    refine pre0 _ ?_
    show Steps p.tables e below (s₁.setTop (mkF m 0 #[.val (.ref o1), .val (.int 0), .unset, .unset, .unset] [])) _
    refine XS.aloadN X0.here hx rfl (hb hby d2_0) rfl rfl ?_
    exact k
  obtain ⟨sx2, T2, h2, ks2, X2, e2, E2, hS2, hk2, hZ, hown, st2⟩ := ldcS (s := s) (vm0 := s.vm) X0 hx hZ hown (own_w hw 6 rfl) (own_sa hw) e0 ((State.WarmedH.refl s).since h0.size) (Nat.le_refl _) (g := (mkF m 1 #[.val (.ref o1), .val (.int 0), .unset, .unset, .unset] [(.ref o1)])) rfl (hb hby d2_1) (n := 52) (by decide) (by decide) (by decide) (by decide)
  have M2 : h0.size ≤ h2.size := Nat.le_trans (Nat.le_refl _) E2.1
  have O2 := Old.ext O0 E2
  obtain ⟨_, T3, L3, X3, hQ3, st3⟩ := own_cs X2 hx hZ hown (y := yn0) (own_w hw 14 rfl) (own_w hw 15 rfl) (own_w hw 17 rfl) (own_w hw 16 rfl) e2 (argsL := [(.ref o1), (.ref sx2)]) (rest := []) (rm23 l Z a0 hw [] o1 kc2 sx2 h2 n0 O2 g_o1 Ov_kc2) (g := (mkF m 3 #[.val (.ref o1), .val (.int 0), .unset, .unset, .unset] [(.ref sx2), (.ref o1)])) rfl (by rw [hml]; rfl) rfl (hb hby d2_3) (lenOf pd0 rfl) (W := 0) (c1 := 2) (s1 := 56)
  obtain ⟨rfl, Nq4, e5⟩ := hQ3
  have N3 := Fr.app N0 Nq4
  have f6 := (P0.ext E2)
  obtain ⟨cl7, Ar7, qa7, Sa7, Na7, Ha7, Ga7⟩ := id (f6)
  obtain ⟨T8, h8, k8, X8, e8, E8, A8, EX8, st8⟩ := newPE X3 hx hZ (own_w hw 1 rfl) e5 (g := (mkF m 9 #[.val (.ref o1), .val (.int 0), .unset, .unset, .unset] [(.int 2)])) rfl (hb hby d2_9) rfl (by decide) (cap := 2) (by decide) (by decide) (by decide) (by decide) (ad := "[Z") (by decide)
  obtain ⟨b8, g8⟩ : ∃ z, z = h2.size := ⟨_, rfl⟩
  rw [← g8] at A8 EX8 st8
  have hkk8 := Nat.le_trans hk2 E8.1
  have M8 : h0.size ≤ h8.size := Nat.le_trans M2 E8.1
  have O8 := Old.ext O2 E8
  have sz_b8 : h2.size ≤ b8 := Nat.le_of_eq g8.symm
  have g_b8 : n0 ≤ b8 := Nat.le_trans (own_oz O0) (Nat.le_trans M2 sz_b8)
  have V8_0 := Arv.new A8 (by decide)
  have V8 : Arv Z h8 b8 k8 .boolean (2 : Int32) [(.int 0), (.int 0)] (.int 0) := V8_0.pad (pad_rep [] (.int 0) 2)
  have f9 := (f6.ext E8)
  obtain ⟨cl10, Ar10, qa10, Sa10, Na10, Ha10, Ga10⟩ := id (f9)
  obtain ⟨cl11, Ar11, qa11, Sa11, Na11, Ha11, Ga11⟩ := id (f9)
  have hin11 : ¬ ((0 : Int32) < 0 ∨ cl11.slots.size ≤ ((0 : Int32)).toNatClampNeg) := inb_of Sa11 ⟨by decide, by decide⟩
  have hat11 : cl11.slots[((0 : Int32)).toNatClampNeg]? = some (.ref v3) := Has.at Ha11 hin11 rfl
  obtain ⟨_, T12, L12, X12, hQ12, st12⟩ := own_vb X8 hx hZ hown (y := yn5) (own_w hw 29 rfl) (own_w hw 30 rfl) (own_w hw 32 rfl) (own_w hw 31 rfl) (own_w hw 33 rfl) (own_w hw 22 rfl) e8 (P2.ext O8.2) (argsL := []) (rest := [(.int 0), (.ref b8)]) (rm14 l Z a0 hw [] p5 v3 h8 n0 O8 (by have q0 := bd_p5; omega) P3) (g := (mkF m 38 #[.val (.ref o1), .val (.int 0), .val (.ref b8), .val (.int 0), .val (.ref v3)] [(.ref v3), (.int 0), (.ref b8)])) rfl (by rw [hml]; rfl) rfl (hb hby d2_38) (lenOf pd5 rfl) (W := 2) (c1 := 3) (s1 := 58)
  obtain ⟨rfl, Nq13, e14⟩ := hQ12
  have N12 := Fr.app N3 Nq13
  obtain ⟨cl15, Ar15, qa15, Sa15, Na15, Ha15, Ga15⟩ := id (V8)
  have hin15 : ¬ ((0 : Int32) < 0 ∨ cl15.slots.size ≤ ((0 : Int32)).toNatClampNeg) := inb_of Sa15 ⟨by decide, by decide⟩
  have hbz16 : 0 ≤ p5.toInt ∧ p5.toInt ≤ 1 := by have q0 := bd_p5; omega
  obtain ⟨T17, h17, X17, e17, W17, st17⟩ := stZ X12 hx hZ e14 Ar15 (j := (0 : Int32)) hin15 (g := (mkF m 41 #[.val (.ref o1), .val (.int 0), .val (.ref b8), .val (.int 0), .val (.ref v3)] [(.int p5), (.int 0), (.ref b8)])) rfl rfl (hb hby d2_41)
  rw [own_nz hbz16] at W17
  have V17 : Arv Z h17 b8 k8 .boolean (2 : Int32) [(.int p5), (.int 0)] (.int 0) := Arv.set Ar15 qa15 Sa15 Na15 Ha15 Ga15 (own_fz hbz16) W17 0 rfl (Nat.le_of_ble_eq_true rfl)
  have N17 := Fr.snoc X17 N12 g_b8
  have hkk17 := Nat.le_trans hkk8 (Nat.le_of_eq W17.size.symm)
  have M17 : h0.size ≤ h17.size := Nat.le_trans M8 (Nat.le_of_eq W17.size.symm)
  have O17 := Old.wr O8 W17 g_b8
  have lt18 : o1 < h2.size := (Nat.lt_of_lt_of_le P0.lt E2.1)
  have ne19 : o1 ≠ b8 := Nat.ne_of_lt (Nat.lt_of_lt_of_le lt18 sz_b8)
  have f20 := (f9.other W17 ne19)
  obtain ⟨cl21, Ar21, qa21, Sa21, Na21, Ha21, Ga21⟩ := id (f20)
  obtain ⟨cl22, Ar22, qa22, Sa22, Na22, Ha22, Ga22⟩ := id (f20)
  have hin22 : ¬ ((1 : Int32) < 0 ∨ cl22.slots.size ≤ ((1 : Int32)).toNatClampNeg) := inb_of Sa22 ⟨by decide, by decide⟩
  have hat22 : cl22.slots[((1 : Int32)).toNatClampNeg]? = some (.ref v4) := Has.at Ha22 hin22 rfl
  obtain ⟨_, T23, L23, X23, hQ23, st23⟩ := own_vb X17 hx hZ hown (y := yn5) (own_w hw 29 rfl) (own_w hw 30 rfl) (own_w hw 32 rfl) (own_w hw 31 rfl) (own_w hw 33 rfl) (own_w hw 22 rfl) e17 (P4.ext O17.2) (argsL := []) (rest := [(.int 1), (.ref b8)]) (rm14 l Z a0 hw [] p6 v4 h17 n0 O17 (by have q0 := bd_p6; omega) P5) (g := (mkF m 38 #[.val (.ref o1), .val (.int 0), .val (.ref b8), .val (.int 1), .val (.ref v4)] [(.ref v4), (.int 1), (.ref b8)])) rfl (by rw [hml]; rfl) rfl (hb hby d2_38) (lenOf pd5 rfl) (W := 2) (c1 := 3) (s1 := 58)
  obtain ⟨rfl, Nq24, e25⟩ := hQ23
  have N23 := Fr.app N17 Nq24
  obtain ⟨cl26, Ar26, qa26, Sa26, Na26, Ha26, Ga26⟩ := id (V17)
  have hin26 : ¬ ((1 : Int32) < 0 ∨ cl26.slots.size ≤ ((1 : Int32)).toNatClampNeg) := inb_of Sa26 ⟨by decide, by decide⟩
  have hbz27 : 0 ≤ p6.toInt ∧ p6.toInt ≤ 1 := by have q0 := bd_p6; omega
  obtain ⟨T28, h28, X28, e28, W28, st28⟩ := stZ X23 hx hZ e25 Ar26 (j := (1 : Int32)) hin26 (g := (mkF m 41 #[.val (.ref o1), .val (.int 0), .val (.ref b8), .val (.int 1), .val (.ref v4)] [(.int p6), (.int 1), (.ref b8)])) rfl rfl (hb hby d2_41)
  rw [own_nz hbz27] at W28
  have V28 : Arv Z h28 b8 k8 .boolean (2 : Int32) [(.int p5), (.int p6)] (.int 0) := Arv.set Ar26 qa26 Sa26 Na26 Ha26 Ga26 (own_fz hbz27) W28 1 rfl (Nat.le_of_ble_eq_true rfl)
  have N28 := Fr.snoc X28 N23 g_b8
  have hkk28 := Nat.le_trans hkk17 (Nat.le_of_eq W28.size.symm)
  have M28 : h0.size ≤ h28.size := Nat.le_trans M17 (Nat.le_of_eq W28.size.symm)
  have O28 := Old.wr O17 W28 g_b8
  have f29 := (f20.other W28 ne19)
  obtain ⟨cl30, Ar30, qa30, Sa30, Na30, Ha30, Ga30⟩ := id (f29)
  obtain ⟨fs, hr, hrun, hended, hRE⟩ := X28.leaveW hS2 (by rw [e28]; exact hkk28) (v := some (.ref b8)) (fun h => by rw [hret] at h; cases h)
  have KL : Keep h0 h28 [] := (((((Keep.refl h0 []).ext E2).ext E8).wr W17 (Or.inr (Nat.le_trans M2 sz_b8))).wr W28 (Or.inr (Nat.le_trans M2 sz_b8)))
  have f31 := ((EX8.wr W17).wr W28)
  refine ⟨_, _, pre1 _ ?_, hrun, hended, _, _, rfl, ?_, hRE.1, hRE.2.1, hRE.2.2.1, hRE.2.2.2.mono (by decide) (by decide)⟩
  ·
    show Steps p.tables e below (s₁.setTop (mkF m 1 #[.val (.ref o1), .val (.int 0), .unset, .unset, .unset] [(.ref o1)])) _
    refine st2 _ ?_
    refine st3 _ ?_
    refine XS.pop X3.here hx rfl (hb hby d2_6) rfl rfl ?_
    refine XS.aloadN X3.here hx rfl (hb hby d2_7) rfl rfl ?_
    refine X3.arraylength hx (by rw [e5]; exact Ar7.1) (State.isArrayOf_alike hZ.alike Ar7.2.1) (g := (mkF m 8 #[.val (.ref o1), .val (.int 0), .unset, .unset, .unset] [(.ref o1)])) rfl rfl (hb hby d2_8) _ ?_
    rw [len_of Sa7 Na7]
    refine st8 _ ?_
    refine XS.astoreN X8.here hx rfl (hb hby d2_11) rfl rfl (l' := #[.val (.ref o1), .val (.int 0), .val (.ref b8), .unset, .unset]) rfl ?_
    refine XS.iconst X8.here hx rfl (hb hby d2_12) ?_
    refine XS.istoreN X8.here hx rfl (hb hby d2_13) rfl (l' := #[.val (.ref o1), .val (.int 0), .val (.ref b8), .val (.int 0), .unset]) rfl ?_
    refine XS.iloadN X8.here hx rfl (hb hby d2_14) rfl ?_
    refine XS.aloadN X8.here hx rfl (hb hby d2_15) rfl rfl ?_
    refine X8.arraylength hx (by rw [e8]; exact Ar10.1) (State.isArrayOf_alike hZ.alike Ar10.2.1) (g := (mkF m 16 #[.val (.ref o1), .val (.int 0), .val (.ref b8), .val (.int 0), .unset] [(.ref o1), (.int 0)])) rfl rfl (hb hby d2_16) _ ?_
    rw [len_of Sa10 Na10]
    refine XS.icmpNo X8.here hx rfl (hb hby d2_17) rfl (tlt (by decide : (0 : Int32) < (2 : Int32))).2.1 ?_
    refine XS.aloadN X8.here hx rfl (hb hby d2_20) rfl rfl ?_
    refine XS.iloadN X8.here hx rfl (hb hby d2_21) rfl ?_
    refine X8.aaload hx (j := (0 : Int32)) (v := (.ref v3)) (by rw [e8]; exact Ar11.1) (State.isArrayOf_alike hZ.alike Ar11.2.1) rfl Ar11.2.2 hin11 hat11 (g := (mkF m 22 #[.val (.ref o1), .val (.int 0), .val (.ref b8), .val (.int 0), .unset] [(.int 0), (.ref o1)])) rfl rfl (hb hby d2_22) _ ?_
    refine XS.astore X8.here hx rfl (hb hby d2_23) rfl rfl (l' := #[.val (.ref o1), .val (.int 0), .val (.ref b8), .val (.int 0), .val (.ref v3)]) rfl ?_
    refine XS.aloadN X8.here hx rfl (hb hby d2_25) rfl rfl ?_
    refine XS.iloadN X8.here hx rfl (hb hby d2_26) rfl ?_
    refine XS.aload X8.here hx rfl (hb hby d2_27) rfl rfl ?_
    refine XS.ifnonnullYes X8.here hx rfl (pc0 := 29) (pc' := 36) rfl (hb hby d2_29) rfl (by decide) (by decide) ?_
    refine XS.aload X8.here hx rfl (hb hby d2_36) rfl rfl ?_
    refine st12 _ ?_
    refine st17 _ ?_
    refine XS.iinc X17.here hx rfl (hb hby d2_42) rfl (l' := #[.val (.ref o1), .val (.int 0), .val (.ref b8), .val (.int 1), .val (.ref v3)]) rfl ?_
    refine XS.goto X17.here hx rfl (pc0 := 45) (pc' := 14) rfl (hb hby d2_45) (by decide) (by decide) ?_
    refine XS.iloadN X17.here hx rfl (hb hby d2_14) rfl ?_
    refine XS.aloadN X17.here hx rfl (hb hby d2_15) rfl rfl ?_
    refine X17.arraylength hx (by rw [e17]; exact Ar21.1) (State.isArrayOf_alike hZ.alike Ar21.2.1) (g := (mkF m 16 #[.val (.ref o1), .val (.int 0), .val (.ref b8), .val (.int 1), .val (.ref v3)] [(.ref o1), (.int 1)])) rfl rfl (hb hby d2_16) _ ?_
    rw [len_of Sa21 Na21]
    refine XS.icmpNo X17.here hx rfl (hb hby d2_17) rfl (tlt (by decide : (1 : Int32) < (2 : Int32))).2.1 ?_
    refine XS.aloadN X17.here hx rfl (hb hby d2_20) rfl rfl ?_
    refine XS.iloadN X17.here hx rfl (hb hby d2_21) rfl ?_
    refine X17.aaload hx (j := (1 : Int32)) (v := (.ref v4)) (by rw [e17]; exact Ar22.1) (State.isArrayOf_alike hZ.alike Ar22.2.1) rfl Ar22.2.2 hin22 hat22 (g := (mkF m 22 #[.val (.ref o1), .val (.int 0), .val (.ref b8), .val (.int 1), .val (.ref v3)] [(.int 1), (.ref o1)])) rfl rfl (hb hby d2_22) _ ?_
    refine XS.astore X17.here hx rfl (hb hby d2_23) rfl rfl (l' := #[.val (.ref o1), .val (.int 0), .val (.ref b8), .val (.int 1), .val (.ref v4)]) rfl ?_
    refine XS.aloadN X17.here hx rfl (hb hby d2_25) rfl rfl ?_
    refine XS.iloadN X17.here hx rfl (hb hby d2_26) rfl ?_
    refine XS.aload X17.here hx rfl (hb hby d2_27) rfl rfl ?_
    refine XS.ifnonnullYes X17.here hx rfl (pc0 := 29) (pc' := 36) rfl (hb hby d2_29) rfl (by decide) (by decide) ?_
    refine XS.aload X17.here hx rfl (hb hby d2_36) rfl rfl ?_
    show Steps p.tables e below (T17.setTop (mkF m 38 #[.val (.ref o1), .val (.int 0), .val (.ref b8), .val (.int 1), .val (.ref v4)] [(.ref v4), (.int 1), (.ref b8)])) _
    refine st23 _ ?_
    refine st28 _ ?_
    refine XS.iinc X28.here hx rfl (hb hby d2_42) rfl (l' := #[.val (.ref o1), .val (.int 0), .val (.ref b8), .val (.int 2), .val (.ref v4)]) rfl ?_
    refine XS.goto X28.here hx rfl (pc0 := 45) (pc' := 14) rfl (hb hby d2_45) (by decide) (by decide) ?_
    refine XS.iloadN X28.here hx rfl (hb hby d2_14) rfl ?_
    refine XS.aloadN X28.here hx rfl (hb hby d2_15) rfl rfl ?_
    refine X28.arraylength hx (by rw [e28]; exact Ar30.1) (State.isArrayOf_alike hZ.alike Ar30.2.1) (g := (mkF m 16 #[.val (.ref o1), .val (.int 0), .val (.ref b8), .val (.int 2), .val (.ref v4)] [(.ref o1), (.int 2)])) rfl rfl (hb hby d2_16) _ ?_
    rw [len_of Sa30 Na30]
    refine XS.icmpYes X28.here hx rfl (pc0 := 17) (pc' := 48) rfl (hb hby d2_17) rfl (flt (by decide : ¬ ((2 : Int32) < (2 : Int32)))).2.1 (by decide) (by decide) ?_
    refine XS.aloadN X28.here hx rfl (hb hby d2_48) rfl rfl ?_
    show Steps p.tables e below (T28.setTop (mkF m 49 #[.val (.ref o1), .val (.int 0), .val (.ref b8), .val (.int 2), .val (.ref v4)] [(.ref b8)])) _
    exact retOut X28 hx hret rfl (Or.inr (Or.inr (Or.inr (Or.inr ⟨rfl, rfl, rfl⟩)))) (hb hby d2_49) hr
  ·
    show Q24 Z o1 kc2 p5 p6 v3 v4 h0 n0 _ T28.heap _
    rw [e28]
    exact ⟨b8, k8, rfl, N28, KL, (Nat.le_trans M2 sz_b8), V28, f31⟩
theorem ef25 (m : MethodId) (x0 : Addr) (x1 : Int32) : entryFrame m #[(.ref x0), (.int x1)] 5 = mkF m 0 #[.val (.ref x0), .val (.int x1), .unset, .unset, .unset] [] := by first | (simp [entryFrame, mkF, argsToLocals, Value.category]; done) | rfl
def Q25 (Z : State) (o1 : Addr) (kc2 : ClassId) (p5 : Int32) (p6 : Int32) (v3 : Addr) (v4 : Addr) (h0 : Heap) (n0 : Nat) (v : Option Value) (h : Heap) (L : List Loc) : Prop :=
  (∃ b8 : Addr, ∃ k8 : ClassId, v = some (.ref b8) ∧ Fr n0 L ∧ Keep h0 h [] ∧ h0.size ≤ b8 ∧ (Arv Z h b8 k8 .boolean (2 : Int32) [(.int p5), (.int p6)] (.int 0)) ∧ (Exa Z h b8 "[Z"))
set_option maxRecDepth 65536 in
set_option maxHeartbeats 40000000 in
theorem rm25 (l : Launch) (Z : State) (a0 : Array Value) (hw : ∀ d ∈ tables_1, d.before a0 Z = true) (ws : List Jvm.Cond) (o1 : Addr) (kc2 : ClassId) (p5 : Int32) (p6 : Int32) (v3 : Addr) (v4 : Addr) (h0 : Heap) (n0 : Nat) (O0 : Old Z n0 h0) (g_o1 : n0 ≤ o1) (Ov_kc2 : Ovr Z kc2 "java/lang/Boolean") (bd_p5 : 0 ≤ p5.toInt ∧ p5.toInt ≤ 1) (bd_p6 : 0 ≤ p6.toInt ∧ p6.toInt ≤ 1) (P0 : Arv Z h0 o1 kc2 (.object "java/lang/Boolean") (2 : Int32) [(.ref v3), (.ref v4)] .null) (P2 : Exa Z Z.heap v3 "java/lang/Boolean") (P3 : Fld Z Z.heap v3 "java/lang/Boolean" "value" "Z" (.int p5)) (P4 : Exa Z Z.heap v4 "java/lang/Boolean") (P5 : Fld Z Z.heap v4 "java/lang/Boolean" "value" "Z" (.int p6)) :
    MetFree l yn2 (head1 (Jvm.Cond.code yn2 prog_11_method_4_code 5 (some (.array .boolean)) :: ws) ({ frames := 1, cells := 3, slots := 58, locals := 14 } : Room)) (fun a U => a = #[(.ref o1), (.int 1)] ∧ Z.Warmed39 U.vm ∧ U.heap = h0) (fun _ _ _ _ _ => True) (fun _ U o U' => ∃ v L, o = .returned v ∧ Q25 Z o1 kc2 p5 p6 v3 v4 h0 n0 v U'.heap L ∧ ReturnedEndW U o U' L ({ frames := 1, cells := 3, slots := 58, locals := 14 } : Room).cells ({ frames := 1, cells := 3, slots := 58, locals := 14 } : Room).slots) := by
  refine MetFree.of_bodySF (plainFor_of_name pn1) hisR ?_
  intro p e s m args below meth c s₁ Bd hml0 hP hK
  obtain ⟨rfl, hZ, hh⟩ := hP
  have hx := Bd.exec
  have hby := Bd.bytes
  have hml : c.maxLocals = 5 := hml0
  have hown : s.vm.findClass "com/example/castless/castless/PrimitiveArrays" = some m.cls := findClass_of_methodNamed Bd.named
  have hnm := (name_of_methodNamed Bd.named Bd.method).1
  have hret := Bd.returns
  have hlk : meth.locks = false := BodyLoose.notSynchronized Bd
  have X0 : Stand p l e ({ frames := 1, cells := 3, slots := 58, locals := 14 } : Room) s m #[(.ref o1), (.int 1)] below meth c s₁ [] 0 0 := Stand.of_body Bd
  have e0 : s₁.heap = h0 := by rw [← hh, Bd.state]; rfl
  have N0 := Fr.nil n0
  have pre0 : ∀ t, Steps p.tables e below (s₁.setTop (mkF m 0 #[.val (.ref o1), .val (.int 1), .unset, .unset, .unset] [])) t → Steps p.tables e below (s₁.setTop (entryFrame m #[(.ref o1), (.int 1)] 5)) t := fun t k => castTop (ef25 m o1 (1 : Int32)) k
  have pre1 : ∀ t, Steps p.tables e below (s₁.setTop (mkF m 1 #[.val (.ref o1), .val (.int 1), .unset, .unset, .unset] [(.ref o1)])) t → Steps p.tables e below (s₁.setTop (entryFrame m #[(.ref o1), (.int 1)] 5)) t := fun t k => by
    refine pre0 _ ?_
    show Steps p.tables e below (s₁.setTop (mkF m 0 #[.val (.ref o1), .val (.int 1), .unset, .unset, .unset] [])) _
    refine XS.aloadN X0.here hx rfl (hb hby d2_0) rfl rfl ?_
    exact k
  obtain ⟨sx2, T2, h2, ks2, X2, e2, E2, hS2, hk2, hZ, hown, st2⟩ := ldcS (s := s) (vm0 := s.vm) X0 hx hZ hown (own_w hw 6 rfl) (own_sa hw) e0 ((State.WarmedH.refl s).since h0.size) (Nat.le_refl _) (g := (mkF m 1 #[.val (.ref o1), .val (.int 1), .unset, .unset, .unset] [(.ref o1)])) rfl (hb hby d2_1) (n := 52) (by decide) (by decide) (by decide) (by decide)
  have M2 : h0.size ≤ h2.size := Nat.le_trans (Nat.le_refl _) E2.1
  have O2 := Old.ext O0 E2
  obtain ⟨_, T3, L3, X3, hQ3, st3⟩ := own_cs X2 hx hZ hown (y := yn0) (own_w hw 14 rfl) (own_w hw 15 rfl) (own_w hw 17 rfl) (own_w hw 16 rfl) e2 (argsL := [(.ref o1), (.ref sx2)]) (rest := []) (rm23 l Z a0 hw [] o1 kc2 sx2 h2 n0 O2 g_o1 Ov_kc2) (g := (mkF m 3 #[.val (.ref o1), .val (.int 1), .unset, .unset, .unset] [(.ref sx2), (.ref o1)])) rfl (by rw [hml]; rfl) rfl (hb hby d2_3) (lenOf pd0 rfl) (W := 0) (c1 := 2) (s1 := 56)
  obtain ⟨rfl, Nq4, e5⟩ := hQ3
  have N3 := Fr.app N0 Nq4
  have f6 := (P0.ext E2)
  obtain ⟨cl7, Ar7, qa7, Sa7, Na7, Ha7, Ga7⟩ := id (f6)
  obtain ⟨T8, h8, k8, X8, e8, E8, A8, EX8, st8⟩ := newPE X3 hx hZ (own_w hw 1 rfl) e5 (g := (mkF m 9 #[.val (.ref o1), .val (.int 1), .unset, .unset, .unset] [(.int 2)])) rfl (hb hby d2_9) rfl (by decide) (cap := 2) (by decide) (by decide) (by decide) (by decide) (ad := "[Z") (by decide)
  obtain ⟨b8, g8⟩ : ∃ z, z = h2.size := ⟨_, rfl⟩
  rw [← g8] at A8 EX8 st8
  have hkk8 := Nat.le_trans hk2 E8.1
  have M8 : h0.size ≤ h8.size := Nat.le_trans M2 E8.1
  have O8 := Old.ext O2 E8
  have sz_b8 : h2.size ≤ b8 := Nat.le_of_eq g8.symm
  have g_b8 : n0 ≤ b8 := Nat.le_trans (own_oz O0) (Nat.le_trans M2 sz_b8)
  have V8_0 := Arv.new A8 (by decide)
  have V8 : Arv Z h8 b8 k8 .boolean (2 : Int32) [(.int 0), (.int 0)] (.int 0) := V8_0.pad (pad_rep [] (.int 0) 2)
  have f9 := (f6.ext E8)
  obtain ⟨cl10, Ar10, qa10, Sa10, Na10, Ha10, Ga10⟩ := id (f9)
  obtain ⟨cl11, Ar11, qa11, Sa11, Na11, Ha11, Ga11⟩ := id (f9)
  have hin11 : ¬ ((0 : Int32) < 0 ∨ cl11.slots.size ≤ ((0 : Int32)).toNatClampNeg) := inb_of Sa11 ⟨by decide, by decide⟩
  have hat11 : cl11.slots[((0 : Int32)).toNatClampNeg]? = some (.ref v3) := Has.at Ha11 hin11 rfl
  obtain ⟨_, T12, L12, X12, hQ12, st12⟩ := own_vb X8 hx hZ hown (y := yn5) (own_w hw 29 rfl) (own_w hw 30 rfl) (own_w hw 32 rfl) (own_w hw 31 rfl) (own_w hw 33 rfl) (own_w hw 22 rfl) e8 (P2.ext O8.2) (argsL := []) (rest := [(.int 0), (.ref b8)]) (rm14 l Z a0 hw [] p5 v3 h8 n0 O8 (by have q0 := bd_p5; omega) P3) (g := (mkF m 38 #[.val (.ref o1), .val (.int 1), .val (.ref b8), .val (.int 0), .val (.ref v3)] [(.ref v3), (.int 0), (.ref b8)])) rfl (by rw [hml]; rfl) rfl (hb hby d2_38) (lenOf pd5 rfl) (W := 2) (c1 := 3) (s1 := 58)
  obtain ⟨rfl, Nq13, e14⟩ := hQ12
  have N12 := Fr.app N3 Nq13
  obtain ⟨cl15, Ar15, qa15, Sa15, Na15, Ha15, Ga15⟩ := id (V8)
  have hin15 : ¬ ((0 : Int32) < 0 ∨ cl15.slots.size ≤ ((0 : Int32)).toNatClampNeg) := inb_of Sa15 ⟨by decide, by decide⟩
  have hbz16 : 0 ≤ p5.toInt ∧ p5.toInt ≤ 1 := by have q0 := bd_p5; omega
  obtain ⟨T17, h17, X17, e17, W17, st17⟩ := stZ X12 hx hZ e14 Ar15 (j := (0 : Int32)) hin15 (g := (mkF m 41 #[.val (.ref o1), .val (.int 1), .val (.ref b8), .val (.int 0), .val (.ref v3)] [(.int p5), (.int 0), (.ref b8)])) rfl rfl (hb hby d2_41)
  rw [own_nz hbz16] at W17
  have V17 : Arv Z h17 b8 k8 .boolean (2 : Int32) [(.int p5), (.int 0)] (.int 0) := Arv.set Ar15 qa15 Sa15 Na15 Ha15 Ga15 (own_fz hbz16) W17 0 rfl (Nat.le_of_ble_eq_true rfl)
  have N17 := Fr.snoc X17 N12 g_b8
  have hkk17 := Nat.le_trans hkk8 (Nat.le_of_eq W17.size.symm)
  have M17 : h0.size ≤ h17.size := Nat.le_trans M8 (Nat.le_of_eq W17.size.symm)
  have O17 := Old.wr O8 W17 g_b8
  have lt18 : o1 < h2.size := (Nat.lt_of_lt_of_le P0.lt E2.1)
  have ne19 : o1 ≠ b8 := Nat.ne_of_lt (Nat.lt_of_lt_of_le lt18 sz_b8)
  have f20 := (f9.other W17 ne19)
  obtain ⟨cl21, Ar21, qa21, Sa21, Na21, Ha21, Ga21⟩ := id (f20)
  obtain ⟨cl22, Ar22, qa22, Sa22, Na22, Ha22, Ga22⟩ := id (f20)
  have hin22 : ¬ ((1 : Int32) < 0 ∨ cl22.slots.size ≤ ((1 : Int32)).toNatClampNeg) := inb_of Sa22 ⟨by decide, by decide⟩
  have hat22 : cl22.slots[((1 : Int32)).toNatClampNeg]? = some (.ref v4) := Has.at Ha22 hin22 rfl
  obtain ⟨_, T23, L23, X23, hQ23, st23⟩ := own_vb X17 hx hZ hown (y := yn5) (own_w hw 29 rfl) (own_w hw 30 rfl) (own_w hw 32 rfl) (own_w hw 31 rfl) (own_w hw 33 rfl) (own_w hw 22 rfl) e17 (P4.ext O17.2) (argsL := []) (rest := [(.int 1), (.ref b8)]) (rm14 l Z a0 hw [] p6 v4 h17 n0 O17 (by have q0 := bd_p6; omega) P5) (g := (mkF m 38 #[.val (.ref o1), .val (.int 1), .val (.ref b8), .val (.int 1), .val (.ref v4)] [(.ref v4), (.int 1), (.ref b8)])) rfl (by rw [hml]; rfl) rfl (hb hby d2_38) (lenOf pd5 rfl) (W := 2) (c1 := 3) (s1 := 58)
  obtain ⟨rfl, Nq24, e25⟩ := hQ23
  have N23 := Fr.app N17 Nq24
  obtain ⟨cl26, Ar26, qa26, Sa26, Na26, Ha26, Ga26⟩ := id (V17)
  have hin26 : ¬ ((1 : Int32) < 0 ∨ cl26.slots.size ≤ ((1 : Int32)).toNatClampNeg) := inb_of Sa26 ⟨by decide, by decide⟩
  have hbz27 : 0 ≤ p6.toInt ∧ p6.toInt ≤ 1 := by have q0 := bd_p6; omega
  obtain ⟨T28, h28, X28, e28, W28, st28⟩ := stZ X23 hx hZ e25 Ar26 (j := (1 : Int32)) hin26 (g := (mkF m 41 #[.val (.ref o1), .val (.int 1), .val (.ref b8), .val (.int 1), .val (.ref v4)] [(.int p6), (.int 1), (.ref b8)])) rfl rfl (hb hby d2_41)
  rw [own_nz hbz27] at W28
  have V28 : Arv Z h28 b8 k8 .boolean (2 : Int32) [(.int p5), (.int p6)] (.int 0) := Arv.set Ar26 qa26 Sa26 Na26 Ha26 Ga26 (own_fz hbz27) W28 1 rfl (Nat.le_of_ble_eq_true rfl)
  have N28 := Fr.snoc X28 N23 g_b8
  have hkk28 := Nat.le_trans hkk17 (Nat.le_of_eq W28.size.symm)
  have M28 : h0.size ≤ h28.size := Nat.le_trans M17 (Nat.le_of_eq W28.size.symm)
  have O28 := Old.wr O17 W28 g_b8
  have f29 := (f20.other W28 ne19)
  obtain ⟨cl30, Ar30, qa30, Sa30, Na30, Ha30, Ga30⟩ := id (f29)
  obtain ⟨fs, hr, hrun, hended, hRE⟩ := X28.leaveW hS2 (by rw [e28]; exact hkk28) (v := some (.ref b8)) (fun h => by rw [hret] at h; cases h)
  have KL : Keep h0 h28 [] := (((((Keep.refl h0 []).ext E2).ext E8).wr W17 (Or.inr (Nat.le_trans M2 sz_b8))).wr W28 (Or.inr (Nat.le_trans M2 sz_b8)))
  have f31 := ((EX8.wr W17).wr W28)
  refine ⟨_, _, pre1 _ ?_, hrun, hended, _, _, rfl, ?_, hRE.1, hRE.2.1, hRE.2.2.1, hRE.2.2.2.mono (by decide) (by decide)⟩
  ·
    show Steps p.tables e below (s₁.setTop (mkF m 1 #[.val (.ref o1), .val (.int 1), .unset, .unset, .unset] [(.ref o1)])) _
    refine st2 _ ?_
    refine st3 _ ?_
    refine XS.pop X3.here hx rfl (hb hby d2_6) rfl rfl ?_
    refine XS.aloadN X3.here hx rfl (hb hby d2_7) rfl rfl ?_
    refine X3.arraylength hx (by rw [e5]; exact Ar7.1) (State.isArrayOf_alike hZ.alike Ar7.2.1) (g := (mkF m 8 #[.val (.ref o1), .val (.int 1), .unset, .unset, .unset] [(.ref o1)])) rfl rfl (hb hby d2_8) _ ?_
    rw [len_of Sa7 Na7]
    refine st8 _ ?_
    refine XS.astoreN X8.here hx rfl (hb hby d2_11) rfl rfl (l' := #[.val (.ref o1), .val (.int 1), .val (.ref b8), .unset, .unset]) rfl ?_
    refine XS.iconst X8.here hx rfl (hb hby d2_12) ?_
    refine XS.istoreN X8.here hx rfl (hb hby d2_13) rfl (l' := #[.val (.ref o1), .val (.int 1), .val (.ref b8), .val (.int 0), .unset]) rfl ?_
    refine XS.iloadN X8.here hx rfl (hb hby d2_14) rfl ?_
    refine XS.aloadN X8.here hx rfl (hb hby d2_15) rfl rfl ?_
    refine X8.arraylength hx (by rw [e8]; exact Ar10.1) (State.isArrayOf_alike hZ.alike Ar10.2.1) (g := (mkF m 16 #[.val (.ref o1), .val (.int 1), .val (.ref b8), .val (.int 0), .unset] [(.ref o1), (.int 0)])) rfl rfl (hb hby d2_16) _ ?_
    rw [len_of Sa10 Na10]
    refine XS.icmpNo X8.here hx rfl (hb hby d2_17) rfl (tlt (by decide : (0 : Int32) < (2 : Int32))).2.1 ?_
    refine XS.aloadN X8.here hx rfl (hb hby d2_20) rfl rfl ?_
    refine XS.iloadN X8.here hx rfl (hb hby d2_21) rfl ?_
    refine X8.aaload hx (j := (0 : Int32)) (v := (.ref v3)) (by rw [e8]; exact Ar11.1) (State.isArrayOf_alike hZ.alike Ar11.2.1) rfl Ar11.2.2 hin11 hat11 (g := (mkF m 22 #[.val (.ref o1), .val (.int 1), .val (.ref b8), .val (.int 0), .unset] [(.int 0), (.ref o1)])) rfl rfl (hb hby d2_22) _ ?_
    refine XS.astore X8.here hx rfl (hb hby d2_23) rfl rfl (l' := #[.val (.ref o1), .val (.int 1), .val (.ref b8), .val (.int 0), .val (.ref v3)]) rfl ?_
    refine XS.aloadN X8.here hx rfl (hb hby d2_25) rfl rfl ?_
    refine XS.iloadN X8.here hx rfl (hb hby d2_26) rfl ?_
    refine XS.aload X8.here hx rfl (hb hby d2_27) rfl rfl ?_
    refine XS.ifnonnullYes X8.here hx rfl (pc0 := 29) (pc' := 36) rfl (hb hby d2_29) rfl (by decide) (by decide) ?_
    refine XS.aload X8.here hx rfl (hb hby d2_36) rfl rfl ?_
    refine st12 _ ?_
    refine st17 _ ?_
    refine XS.iinc X17.here hx rfl (hb hby d2_42) rfl (l' := #[.val (.ref o1), .val (.int 1), .val (.ref b8), .val (.int 1), .val (.ref v3)]) rfl ?_
    refine XS.goto X17.here hx rfl (pc0 := 45) (pc' := 14) rfl (hb hby d2_45) (by decide) (by decide) ?_
    refine XS.iloadN X17.here hx rfl (hb hby d2_14) rfl ?_
    refine XS.aloadN X17.here hx rfl (hb hby d2_15) rfl rfl ?_
    refine X17.arraylength hx (by rw [e17]; exact Ar21.1) (State.isArrayOf_alike hZ.alike Ar21.2.1) (g := (mkF m 16 #[.val (.ref o1), .val (.int 1), .val (.ref b8), .val (.int 1), .val (.ref v3)] [(.ref o1), (.int 1)])) rfl rfl (hb hby d2_16) _ ?_
    rw [len_of Sa21 Na21]
    refine XS.icmpNo X17.here hx rfl (hb hby d2_17) rfl (tlt (by decide : (1 : Int32) < (2 : Int32))).2.1 ?_
    refine XS.aloadN X17.here hx rfl (hb hby d2_20) rfl rfl ?_
    refine XS.iloadN X17.here hx rfl (hb hby d2_21) rfl ?_
    refine X17.aaload hx (j := (1 : Int32)) (v := (.ref v4)) (by rw [e17]; exact Ar22.1) (State.isArrayOf_alike hZ.alike Ar22.2.1) rfl Ar22.2.2 hin22 hat22 (g := (mkF m 22 #[.val (.ref o1), .val (.int 1), .val (.ref b8), .val (.int 1), .val (.ref v3)] [(.int 1), (.ref o1)])) rfl rfl (hb hby d2_22) _ ?_
    refine XS.astore X17.here hx rfl (hb hby d2_23) rfl rfl (l' := #[.val (.ref o1), .val (.int 1), .val (.ref b8), .val (.int 1), .val (.ref v4)]) rfl ?_
    refine XS.aloadN X17.here hx rfl (hb hby d2_25) rfl rfl ?_
    refine XS.iloadN X17.here hx rfl (hb hby d2_26) rfl ?_
    refine XS.aload X17.here hx rfl (hb hby d2_27) rfl rfl ?_
    refine XS.ifnonnullYes X17.here hx rfl (pc0 := 29) (pc' := 36) rfl (hb hby d2_29) rfl (by decide) (by decide) ?_
    refine XS.aload X17.here hx rfl (hb hby d2_36) rfl rfl ?_
    show Steps p.tables e below (T17.setTop (mkF m 38 #[.val (.ref o1), .val (.int 1), .val (.ref b8), .val (.int 1), .val (.ref v4)] [(.ref v4), (.int 1), (.ref b8)])) _
    refine st23 _ ?_
    refine st28 _ ?_
    refine XS.iinc X28.here hx rfl (hb hby d2_42) rfl (l' := #[.val (.ref o1), .val (.int 1), .val (.ref b8), .val (.int 2), .val (.ref v4)]) rfl ?_
    refine XS.goto X28.here hx rfl (pc0 := 45) (pc' := 14) rfl (hb hby d2_45) (by decide) (by decide) ?_
    refine XS.iloadN X28.here hx rfl (hb hby d2_14) rfl ?_
    refine XS.aloadN X28.here hx rfl (hb hby d2_15) rfl rfl ?_
    refine X28.arraylength hx (by rw [e28]; exact Ar30.1) (State.isArrayOf_alike hZ.alike Ar30.2.1) (g := (mkF m 16 #[.val (.ref o1), .val (.int 1), .val (.ref b8), .val (.int 2), .val (.ref v4)] [(.ref o1), (.int 2)])) rfl rfl (hb hby d2_16) _ ?_
    rw [len_of Sa30 Na30]
    refine XS.icmpYes X28.here hx rfl (pc0 := 17) (pc' := 48) rfl (hb hby d2_17) rfl (flt (by decide : ¬ ((2 : Int32) < (2 : Int32)))).2.1 (by decide) (by decide) ?_
    refine XS.aloadN X28.here hx rfl (hb hby d2_48) rfl rfl ?_
    show Steps p.tables e below (T28.setTop (mkF m 49 #[.val (.ref o1), .val (.int 1), .val (.ref b8), .val (.int 2), .val (.ref v4)] [(.ref b8)])) _
    exact retOut X28 hx hret rfl (Or.inr (Or.inr (Or.inr (Or.inr ⟨rfl, rfl, rfl⟩)))) (hb hby d2_49) hr
  ·
    show Q25 Z o1 kc2 p5 p6 v3 v4 h0 n0 _ T28.heap _
    rw [e28]
    exact ⟨b8, k8, rfl, N28, KL, (Nat.le_trans M2 sz_b8), V28, f31⟩
theorem ef26 (m : MethodId) (x0 : Addr) (x1 : Addr) (x2 : Addr) (x3 : Int32) (x4 : Int32) (x5 : Int32) : entryFrame m #[(.ref x0), (.ref x1), (.ref x2), (.int x3), (.int x4), (.int x5)] 6 = mkF m 0 #[.val (.ref x0), .val (.ref x1), .val (.ref x2), .val (.int x3), .val (.int x4), .val (.int x5)] [] := by first | (simp [entryFrame, mkF, argsToLocals, Value.category]; done) | rfl
def Q26 (Z : State) (o1 : Addr) (o2 : Addr) (o3 : Addr) (p4 : Int32) (p6 : Int32) (p7 : Int32) (p9 : Int32) (p10 : Int32) (p12 : Int32) (p13 : Int32) (kc5 : ClassId) (kc8 : ClassId) (kc11 : ClassId) (h0 : Heap) (n0 : Nat) (v : Option Value) (h : Heap) (L : List Loc) : Prop :=
  ((p6 = p4) ∧ (p9 = p4) ∧ (p12 = p4) ∧ v = some (.int 1) ∧ Fr n0 L ∧ h = h0)
  ∨ ((p6 = p4) ∧ (p9 = p4) ∧ (¬ (p12 = p4)) ∧ v = some (.int 0) ∧ Fr n0 L ∧ h = h0)
  ∨ ((p6 = p4) ∧ (¬ (p9 = p4)) ∧ v = some (.int 0) ∧ Fr n0 L ∧ h = h0)
  ∨ ((¬ (p6 = p4)) ∧ v = some (.int 0) ∧ Fr n0 L ∧ h = h0)
set_option maxRecDepth 65536 in
set_option maxHeartbeats 40000000 in
theorem rm26 (l : Launch) (Z : State) (a0 : Array Value) (hw : ∀ d ∈ tables_1, d.before a0 Z = true) (ws : List Jvm.Cond) (o1 : Addr) (o2 : Addr) (o3 : Addr) (p4 : Int32) (p6 : Int32) (p7 : Int32) (p9 : Int32) (p10 : Int32) (p12 : Int32) (p13 : Int32) (kc5 : ClassId) (kc8 : ClassId) (kc11 : ClassId) (h0 : Heap) (n0 : Nat) (O0 : Old Z n0 h0) (g_o1 : n0 ≤ o1) (g_o2 : n0 ≤ o2) (g_o3 : n0 ≤ o3) (bd_p4 : 0 ≤ p4.toInt ∧ p4.toInt ≤ 1) (bd_p6 : 0 ≤ p6.toInt ∧ p6.toInt ≤ 1) (bd_p7 : 0 ≤ p7.toInt ∧ p7.toInt ≤ 1) (bd_p9 : 0 ≤ p9.toInt ∧ p9.toInt ≤ 1) (bd_p10 : 0 ≤ p10.toInt ∧ p10.toInt ≤ 1) (bd_p12 : 0 ≤ p12.toInt ∧ p12.toInt ≤ 1) (bd_p13 : 0 ≤ p13.toInt ∧ p13.toInt ≤ 1) (P0 : Arv Z h0 o1 kc5 .boolean (2 : Int32) [(.int p6), (.int p7)] (.int 0)) (P2 : Arv Z h0 o2 kc8 .boolean (2 : Int32) [(.int p9), (.int p10)] (.int 0)) (P4 : Arv Z h0 o3 kc11 .boolean (2 : Int32) [(.int p12), (.int p13)] (.int 0)) :
    MetFree l yn3 (head1 (Jvm.Cond.code yn3 method_3_code 6 (some .boolean) :: ws) ({ frames := 0, cells := 0, slots := 0, locals := 0 } : Room)) (fun a U => a = #[(.ref o1), (.ref o2), (.ref o3), (.int 0), (.int 2), (.int p4)] ∧ Z.Warmed39 U.vm ∧ U.heap = h0) (fun _ _ _ _ _ => True) (fun _ U o U' => ∃ v L, o = .returned v ∧ Q26 Z o1 o2 o3 p4 p6 p7 p9 p10 p12 p13 kc5 kc8 kc11 h0 n0 v U'.heap L ∧ FrameEnd U o U' L ({ frames := 0, cells := 0, slots := 0, locals := 0 } : Room).cells ({ frames := 0, cells := 0, slots := 0, locals := 0 } : Room).slots) := by
  refine MetFree.of_bodySF (plainFor_of_name pn2) hisR ?_
  intro p e s m args below meth c s₁ Bd hml0 hP hK
  obtain ⟨rfl, hZ, hh⟩ := hP
  have hx := Bd.exec
  have hby := Bd.bytes
  have hml : c.maxLocals = 6 := hml0
  have hown : s.vm.findClass "com/example/castless/castless/PrimitiveArraysBoxPinLaw" = some m.cls := findClass_of_methodNamed Bd.named
  have hnm := (name_of_methodNamed Bd.named Bd.method).1
  have hret := Bd.returns
  have hlk : meth.locks = false := BodyLoose.notSynchronized Bd
  have X0 : Stand p l e ({ frames := 0, cells := 0, slots := 0, locals := 0 } : Room) s m #[(.ref o1), (.ref o2), (.ref o3), (.int 0), (.int 2), (.int p4)] below meth c s₁ [] 0 0 := Stand.of_body Bd
  have e0 : s₁.heap = h0 := by rw [← hh, Bd.state]; rfl
  have N0 := Fr.nil n0
  have pre0 : ∀ t, Steps p.tables e below (s₁.setTop (mkF m 0 #[.val (.ref o1), .val (.ref o2), .val (.ref o3), .val (.int 0), .val (.int 2), .val (.int p4)] [])) t → Steps p.tables e below (s₁.setTop (entryFrame m #[(.ref o1), (.ref o2), (.ref o3), (.int 0), (.int 2), (.int p4)] 6)) t := fun t k => castTop (ef26 m o1 o2 o3 (0 : Int32) (2 : Int32) p4) k
  obtain ⟨cl1, Ar1, qa1, Sa1, Na1, Ha1, Ga1⟩ := id (P0)
  have hin1 : ¬ ((0 : Int32) < 0 ∨ cl1.slots.size ≤ ((0 : Int32)).toNatClampNeg) := inb_of Sa1 ⟨by decide, by decide⟩
  have hat1 : cl1.slots[((0 : Int32)).toNatClampNeg]? = some (.int p6) := Has.at Ha1 hin1 rfl
  have pre2 : ∀ t, Steps p.tables e below (s₁.setTop (mkF m 13 #[.val (.ref o1), .val (.ref o2), .val (.ref o3), .val (.int 0), .val (.int 2), .val (.int p4)] [(.int p4), (.int p6)])) t → Steps p.tables e below (s₁.setTop (entryFrame m #[(.ref o1), (.ref o2), (.ref o3), (.int 0), (.int 2), (.int p4)] 6)) t := fun t k => by
    refine pre0 _ ?_
    show Steps p.tables e below (s₁.setTop (mkF m 0 #[.val (.ref o1), .val (.ref o2), .val (.ref o3), .val (.int 0), .val (.int 2), .val (.int p4)] [])) _
    refine XS.iloadN X0.here hx rfl (hb hby d3_0) rfl ?_
    refine XS.iload X0.here hx rfl (hb hby d3_1) rfl ?_
    refine XS.icmpYes X0.here hx rfl (pc0 := 3) (pc' := 8) rfl (hb hby d3_3) rfl (tlt (by decide : (0 : Int32) < (2 : Int32))).1 (by decide) (by decide) ?_
    refine XS.aloadN X0.here hx rfl (hb hby d3_8) rfl rfl ?_
    refine XS.iloadN X0.here hx rfl (hb hby d3_9) rfl ?_
    refine X0.baloadBooleans hx (j := (0 : Int32)) (v := (.int p6)) (by rw [e0]; exact Ar1.1) (State.isArrayOf_alike hZ.alike Ar1.2.1) Ar1.2.2 hin1 hat1 (g := (mkF m 10 #[.val (.ref o1), .val (.ref o2), .val (.ref o3), .val (.int 0), .val (.int 2), .val (.int p4)] [(.int 0), (.ref o1)])) rfl rfl (hb hby d3_10) _ ?_
    refine XS.iload X0.here hx rfl (hb hby d3_11) rfl ?_
    exact k
  by_cases hc3 : p6 = p4
  ·
    obtain ⟨cl4, Ar4, qa4, Sa4, Na4, Ha4, Ga4⟩ := id (P2)
    have hin4 : ¬ ((0 : Int32) < 0 ∨ cl4.slots.size ≤ ((0 : Int32)).toNatClampNeg) := inb_of Sa4 ⟨by decide, by decide⟩
    have hat4 : cl4.slots[((0 : Int32)).toNatClampNeg]? = some (.int p9) := Has.at Ha4 hin4 rfl
    have pre5 : ∀ t, Steps p.tables e below (s₁.setTop (mkF m 21 #[.val (.ref o1), .val (.ref o2), .val (.ref o3), .val (.int 0), .val (.int 2), .val (.int p4)] [(.int p4), (.int p9)])) t → Steps p.tables e below (s₁.setTop (entryFrame m #[(.ref o1), (.ref o2), (.ref o3), (.int 0), (.int 2), (.int p4)] 6)) t := fun t k => by
      refine pre2 _ ?_
      show Steps p.tables e below (s₁.setTop (mkF m 13 #[.val (.ref o1), .val (.ref o2), .val (.ref o3), .val (.int 0), .val (.int 2), .val (.int p4)] [(.int p4), (.int p6)])) _
      refine XS.icmpNo X0.here hx rfl (hb hby d3_13) rfl (teq hc3).2 ?_
      refine XS.aloadN X0.here hx rfl (hb hby d3_16) rfl rfl ?_
      refine XS.iloadN X0.here hx rfl (hb hby d3_17) rfl ?_
      refine X0.baloadBooleans hx (j := (0 : Int32)) (v := (.int p9)) (by rw [e0]; exact Ar4.1) (State.isArrayOf_alike hZ.alike Ar4.2.1) Ar4.2.2 hin4 hat4 (g := (mkF m 18 #[.val (.ref o1), .val (.ref o2), .val (.ref o3), .val (.int 0), .val (.int 2), .val (.int p4)] [(.int 0), (.ref o2)])) rfl rfl (hb hby d3_18) _ ?_
      refine XS.iload X0.here hx rfl (hb hby d3_19) rfl ?_
      exact k
    by_cases hc6 : p9 = p4
    ·
      obtain ⟨cl7, Ar7, qa7, Sa7, Na7, Ha7, Ga7⟩ := id (P4)
      have hin7 : ¬ ((0 : Int32) < 0 ∨ cl7.slots.size ≤ ((0 : Int32)).toNatClampNeg) := inb_of Sa7 ⟨by decide, by decide⟩
      have hat7 : cl7.slots[((0 : Int32)).toNatClampNeg]? = some (.int p12) := Has.at Ha7 hin7 rfl
      have pre8 : ∀ t, Steps p.tables e below (s₁.setTop (mkF m 29 #[.val (.ref o1), .val (.ref o2), .val (.ref o3), .val (.int 0), .val (.int 2), .val (.int p4)] [(.int p4), (.int p12)])) t → Steps p.tables e below (s₁.setTop (entryFrame m #[(.ref o1), (.ref o2), (.ref o3), (.int 0), (.int 2), (.int p4)] 6)) t := fun t k => by
        refine pre5 _ ?_
        show Steps p.tables e below (s₁.setTop (mkF m 21 #[.val (.ref o1), .val (.ref o2), .val (.ref o3), .val (.int 0), .val (.int 2), .val (.int p4)] [(.int p4), (.int p9)])) _
        refine XS.icmpNo X0.here hx rfl (hb hby d3_21) rfl (teq hc6).2 ?_
        refine XS.aloadN X0.here hx rfl (hb hby d3_24) rfl rfl ?_
        refine XS.iloadN X0.here hx rfl (hb hby d3_25) rfl ?_
        refine X0.baloadBooleans hx (j := (0 : Int32)) (v := (.int p12)) (by rw [e0]; exact Ar7.1) (State.isArrayOf_alike hZ.alike Ar7.2.1) Ar7.2.2 hin7 hat7 (g := (mkF m 26 #[.val (.ref o1), .val (.ref o2), .val (.ref o3), .val (.int 0), .val (.int 2), .val (.int p4)] [(.int 0), (.ref o3)])) rfl rfl (hb hby d3_26) _ ?_
        refine XS.iload X0.here hx rfl (hb hby d3_27) rfl ?_
        exact k
      by_cases hc9 : p12 = p4
      ·
        obtain ⟨fs, hr, hrun, hended, hW, hsame⟩ := X0.leave (v := some (.int 1)) (fun h => by rw [hret] at h; cases h)
        refine ⟨_, _, pre8 _ ?_, hrun, hended, _, _, rfl, ?_, ⟨_, rfl⟩, hW, hsame.mono (by decide) (by decide)⟩
        ·
          show Steps p.tables e below (s₁.setTop (mkF m 29 #[.val (.ref o1), .val (.ref o2), .val (.ref o3), .val (.int 0), .val (.int 2), .val (.int p4)] [(.int p4), (.int p12)])) _
          refine XS.icmpNo X0.here hx rfl (hb hby d3_29) rfl (teq hc9).2 ?_
          refine XS.iconst X0.here hx rfl (hb hby d3_32) ?_
          refine XS.goto X0.here hx rfl (pc0 := 33) (pc' := 37) rfl (hb hby d3_33) (by decide) (by decide) ?_
          show Steps p.tables e below (s₁.setTop (mkF m 37 #[.val (.ref o1), .val (.ref o2), .val (.ref o3), .val (.int 0), .val (.int 2), .val (.int p4)] [(.int 1)])) _
          exact retN X0 hx (t := .boolean) hret (by simp) (hb hby d3_37) hr
        ·
          show Q26 Z o1 o2 o3 p4 p6 p7 p9 p10 p12 p13 kc5 kc8 kc11 h0 n0 _ s₁.heap _
          rw [e0]
          exact (Or.inl ⟨hc3, hc6, hc9, rfl, N0, rfl⟩)
      ·
        obtain ⟨fs, hr, hrun, hended, hW, hsame⟩ := X0.leave (v := some (.int 0)) (fun h => by rw [hret] at h; cases h)
        refine ⟨_, _, pre8 _ ?_, hrun, hended, _, _, rfl, ?_, ⟨_, rfl⟩, hW, hsame.mono (by decide) (by decide)⟩
        ·
          show Steps p.tables e below (s₁.setTop (mkF m 29 #[.val (.ref o1), .val (.ref o2), .val (.ref o3), .val (.int 0), .val (.int 2), .val (.int p4)] [(.int p4), (.int p12)])) _
          refine XS.icmpYes X0.here hx rfl (pc0 := 29) (pc' := 36) rfl (hb hby d3_29) rfl (feq hc9).2 (by decide) (by decide) ?_
          refine XS.iconst X0.here hx rfl (hb hby d3_36) ?_
          show Steps p.tables e below (s₁.setTop (mkF m 37 #[.val (.ref o1), .val (.ref o2), .val (.ref o3), .val (.int 0), .val (.int 2), .val (.int p4)] [(.int 0)])) _
          exact retN X0 hx (t := .boolean) hret (by simp) (hb hby d3_37) hr
        ·
          show Q26 Z o1 o2 o3 p4 p6 p7 p9 p10 p12 p13 kc5 kc8 kc11 h0 n0 _ s₁.heap _
          rw [e0]
          exact (Or.inr (Or.inl ⟨hc3, hc6, hc9, rfl, N0, rfl⟩))
    ·
      obtain ⟨fs, hr, hrun, hended, hW, hsame⟩ := X0.leave (v := some (.int 0)) (fun h => by rw [hret] at h; cases h)
      refine ⟨_, _, pre5 _ ?_, hrun, hended, _, _, rfl, ?_, ⟨_, rfl⟩, hW, hsame.mono (by decide) (by decide)⟩
      ·
        show Steps p.tables e below (s₁.setTop (mkF m 21 #[.val (.ref o1), .val (.ref o2), .val (.ref o3), .val (.int 0), .val (.int 2), .val (.int p4)] [(.int p4), (.int p9)])) _
        refine XS.icmpYes X0.here hx rfl (pc0 := 21) (pc' := 36) rfl (hb hby d3_21) rfl (feq hc6).2 (by decide) (by decide) ?_
        refine XS.iconst X0.here hx rfl (hb hby d3_36) ?_
        show Steps p.tables e below (s₁.setTop (mkF m 37 #[.val (.ref o1), .val (.ref o2), .val (.ref o3), .val (.int 0), .val (.int 2), .val (.int p4)] [(.int 0)])) _
        exact retN X0 hx (t := .boolean) hret (by simp) (hb hby d3_37) hr
      ·
        show Q26 Z o1 o2 o3 p4 p6 p7 p9 p10 p12 p13 kc5 kc8 kc11 h0 n0 _ s₁.heap _
        rw [e0]
        exact (Or.inr (Or.inr (Or.inl ⟨hc3, hc6, rfl, N0, rfl⟩)))
  ·
    obtain ⟨fs, hr, hrun, hended, hW, hsame⟩ := X0.leave (v := some (.int 0)) (fun h => by rw [hret] at h; cases h)
    refine ⟨_, _, pre2 _ ?_, hrun, hended, _, _, rfl, ?_, ⟨_, rfl⟩, hW, hsame.mono (by decide) (by decide)⟩
    ·
      show Steps p.tables e below (s₁.setTop (mkF m 13 #[.val (.ref o1), .val (.ref o2), .val (.ref o3), .val (.int 0), .val (.int 2), .val (.int p4)] [(.int p4), (.int p6)])) _
      refine XS.icmpYes X0.here hx rfl (pc0 := 13) (pc' := 36) rfl (hb hby d3_13) rfl (feq hc3).2 (by decide) (by decide) ?_
      refine XS.iconst X0.here hx rfl (hb hby d3_36) ?_
      show Steps p.tables e below (s₁.setTop (mkF m 37 #[.val (.ref o1), .val (.ref o2), .val (.ref o3), .val (.int 0), .val (.int 2), .val (.int p4)] [(.int 0)])) _
      exact retN X0 hx (t := .boolean) hret (by simp) (hb hby d3_37) hr
    ·
      show Q26 Z o1 o2 o3 p4 p6 p7 p9 p10 p12 p13 kc5 kc8 kc11 h0 n0 _ s₁.heap _
      rw [e0]
      exact (Or.inr (Or.inr (Or.inr ⟨hc3, rfl, N0, rfl⟩)))
theorem ef27 (m : MethodId) (x0 : Addr) (x1 : Addr) (x2 : Addr) (x3 : Int32) (x4 : Int32) (x5 : Int32) : entryFrame m #[(.ref x0), (.ref x1), (.ref x2), (.int x3), (.int x4), (.int x5)] 6 = mkF m 0 #[.val (.ref x0), .val (.ref x1), .val (.ref x2), .val (.int x3), .val (.int x4), .val (.int x5)] [] := by first | (simp [entryFrame, mkF, argsToLocals, Value.category]; done) | rfl
def Q27 (Z : State) (o1 : Addr) (o2 : Addr) (o3 : Addr) (p4 : Int32) (p6 : Int32) (p7 : Int32) (p9 : Int32) (p10 : Int32) (p12 : Int32) (p13 : Int32) (kc5 : ClassId) (kc8 : ClassId) (kc11 : ClassId) (h0 : Heap) (n0 : Nat) (v : Option Value) (h : Heap) (L : List Loc) : Prop :=
  ((p7 = p4) ∧ (p10 = p4) ∧ (p13 = p4) ∧ v = some (.int 1) ∧ Fr n0 L ∧ h = h0)
  ∨ ((p7 = p4) ∧ (p10 = p4) ∧ (¬ (p13 = p4)) ∧ v = some (.int 0) ∧ Fr n0 L ∧ h = h0)
  ∨ ((p7 = p4) ∧ (¬ (p10 = p4)) ∧ v = some (.int 0) ∧ Fr n0 L ∧ h = h0)
  ∨ ((¬ (p7 = p4)) ∧ v = some (.int 0) ∧ Fr n0 L ∧ h = h0)
set_option maxRecDepth 65536 in
set_option maxHeartbeats 40000000 in
theorem rm27 (l : Launch) (Z : State) (a0 : Array Value) (hw : ∀ d ∈ tables_1, d.before a0 Z = true) (ws : List Jvm.Cond) (o1 : Addr) (o2 : Addr) (o3 : Addr) (p4 : Int32) (p6 : Int32) (p7 : Int32) (p9 : Int32) (p10 : Int32) (p12 : Int32) (p13 : Int32) (kc5 : ClassId) (kc8 : ClassId) (kc11 : ClassId) (h0 : Heap) (n0 : Nat) (O0 : Old Z n0 h0) (g_o1 : n0 ≤ o1) (g_o2 : n0 ≤ o2) (g_o3 : n0 ≤ o3) (bd_p4 : 0 ≤ p4.toInt ∧ p4.toInt ≤ 1) (bd_p6 : 0 ≤ p6.toInt ∧ p6.toInt ≤ 1) (bd_p7 : 0 ≤ p7.toInt ∧ p7.toInt ≤ 1) (bd_p9 : 0 ≤ p9.toInt ∧ p9.toInt ≤ 1) (bd_p10 : 0 ≤ p10.toInt ∧ p10.toInt ≤ 1) (bd_p12 : 0 ≤ p12.toInt ∧ p12.toInt ≤ 1) (bd_p13 : 0 ≤ p13.toInt ∧ p13.toInt ≤ 1) (P0 : Arv Z h0 o1 kc5 .boolean (2 : Int32) [(.int p6), (.int p7)] (.int 0)) (P2 : Arv Z h0 o2 kc8 .boolean (2 : Int32) [(.int p9), (.int p10)] (.int 0)) (P4 : Arv Z h0 o3 kc11 .boolean (2 : Int32) [(.int p12), (.int p13)] (.int 0)) :
    MetFree l yn3 (head1 (Jvm.Cond.code yn3 method_3_code 6 (some .boolean) :: ws) ({ frames := 0, cells := 0, slots := 0, locals := 0 } : Room)) (fun a U => a = #[(.ref o1), (.ref o2), (.ref o3), (.int 1), (.int 2), (.int p4)] ∧ Z.Warmed39 U.vm ∧ U.heap = h0) (fun _ _ _ _ _ => True) (fun _ U o U' => ∃ v L, o = .returned v ∧ Q27 Z o1 o2 o3 p4 p6 p7 p9 p10 p12 p13 kc5 kc8 kc11 h0 n0 v U'.heap L ∧ FrameEnd U o U' L ({ frames := 0, cells := 0, slots := 0, locals := 0 } : Room).cells ({ frames := 0, cells := 0, slots := 0, locals := 0 } : Room).slots) := by
  refine MetFree.of_bodySF (plainFor_of_name pn2) hisR ?_
  intro p e s m args below meth c s₁ Bd hml0 hP hK
  obtain ⟨rfl, hZ, hh⟩ := hP
  have hx := Bd.exec
  have hby := Bd.bytes
  have hml : c.maxLocals = 6 := hml0
  have hown : s.vm.findClass "com/example/castless/castless/PrimitiveArraysBoxPinLaw" = some m.cls := findClass_of_methodNamed Bd.named
  have hnm := (name_of_methodNamed Bd.named Bd.method).1
  have hret := Bd.returns
  have hlk : meth.locks = false := BodyLoose.notSynchronized Bd
  have X0 : Stand p l e ({ frames := 0, cells := 0, slots := 0, locals := 0 } : Room) s m #[(.ref o1), (.ref o2), (.ref o3), (.int 1), (.int 2), (.int p4)] below meth c s₁ [] 0 0 := Stand.of_body Bd
  have e0 : s₁.heap = h0 := by rw [← hh, Bd.state]; rfl
  have N0 := Fr.nil n0
  have pre0 : ∀ t, Steps p.tables e below (s₁.setTop (mkF m 0 #[.val (.ref o1), .val (.ref o2), .val (.ref o3), .val (.int 1), .val (.int 2), .val (.int p4)] [])) t → Steps p.tables e below (s₁.setTop (entryFrame m #[(.ref o1), (.ref o2), (.ref o3), (.int 1), (.int 2), (.int p4)] 6)) t := fun t k => castTop (ef27 m o1 o2 o3 (1 : Int32) (2 : Int32) p4) k
  obtain ⟨cl1, Ar1, qa1, Sa1, Na1, Ha1, Ga1⟩ := id (P0)
  have hin1 : ¬ ((1 : Int32) < 0 ∨ cl1.slots.size ≤ ((1 : Int32)).toNatClampNeg) := inb_of Sa1 ⟨by decide, by decide⟩
  have hat1 : cl1.slots[((1 : Int32)).toNatClampNeg]? = some (.int p7) := Has.at Ha1 hin1 rfl
  have pre2 : ∀ t, Steps p.tables e below (s₁.setTop (mkF m 13 #[.val (.ref o1), .val (.ref o2), .val (.ref o3), .val (.int 1), .val (.int 2), .val (.int p4)] [(.int p4), (.int p7)])) t → Steps p.tables e below (s₁.setTop (entryFrame m #[(.ref o1), (.ref o2), (.ref o3), (.int 1), (.int 2), (.int p4)] 6)) t := fun t k => by
    refine pre0 _ ?_
    show Steps p.tables e below (s₁.setTop (mkF m 0 #[.val (.ref o1), .val (.ref o2), .val (.ref o3), .val (.int 1), .val (.int 2), .val (.int p4)] [])) _
    refine XS.iloadN X0.here hx rfl (hb hby d3_0) rfl ?_
    refine XS.iload X0.here hx rfl (hb hby d3_1) rfl ?_
    refine XS.icmpYes X0.here hx rfl (pc0 := 3) (pc' := 8) rfl (hb hby d3_3) rfl (tlt (by decide : (1 : Int32) < (2 : Int32))).1 (by decide) (by decide) ?_
    refine XS.aloadN X0.here hx rfl (hb hby d3_8) rfl rfl ?_
    refine XS.iloadN X0.here hx rfl (hb hby d3_9) rfl ?_
    refine X0.baloadBooleans hx (j := (1 : Int32)) (v := (.int p7)) (by rw [e0]; exact Ar1.1) (State.isArrayOf_alike hZ.alike Ar1.2.1) Ar1.2.2 hin1 hat1 (g := (mkF m 10 #[.val (.ref o1), .val (.ref o2), .val (.ref o3), .val (.int 1), .val (.int 2), .val (.int p4)] [(.int 1), (.ref o1)])) rfl rfl (hb hby d3_10) _ ?_
    refine XS.iload X0.here hx rfl (hb hby d3_11) rfl ?_
    exact k
  by_cases hc3 : p7 = p4
  ·
    obtain ⟨cl4, Ar4, qa4, Sa4, Na4, Ha4, Ga4⟩ := id (P2)
    have hin4 : ¬ ((1 : Int32) < 0 ∨ cl4.slots.size ≤ ((1 : Int32)).toNatClampNeg) := inb_of Sa4 ⟨by decide, by decide⟩
    have hat4 : cl4.slots[((1 : Int32)).toNatClampNeg]? = some (.int p10) := Has.at Ha4 hin4 rfl
    have pre5 : ∀ t, Steps p.tables e below (s₁.setTop (mkF m 21 #[.val (.ref o1), .val (.ref o2), .val (.ref o3), .val (.int 1), .val (.int 2), .val (.int p4)] [(.int p4), (.int p10)])) t → Steps p.tables e below (s₁.setTop (entryFrame m #[(.ref o1), (.ref o2), (.ref o3), (.int 1), (.int 2), (.int p4)] 6)) t := fun t k => by
      refine pre2 _ ?_
      show Steps p.tables e below (s₁.setTop (mkF m 13 #[.val (.ref o1), .val (.ref o2), .val (.ref o3), .val (.int 1), .val (.int 2), .val (.int p4)] [(.int p4), (.int p7)])) _
      refine XS.icmpNo X0.here hx rfl (hb hby d3_13) rfl (teq hc3).2 ?_
      refine XS.aloadN X0.here hx rfl (hb hby d3_16) rfl rfl ?_
      refine XS.iloadN X0.here hx rfl (hb hby d3_17) rfl ?_
      refine X0.baloadBooleans hx (j := (1 : Int32)) (v := (.int p10)) (by rw [e0]; exact Ar4.1) (State.isArrayOf_alike hZ.alike Ar4.2.1) Ar4.2.2 hin4 hat4 (g := (mkF m 18 #[.val (.ref o1), .val (.ref o2), .val (.ref o3), .val (.int 1), .val (.int 2), .val (.int p4)] [(.int 1), (.ref o2)])) rfl rfl (hb hby d3_18) _ ?_
      refine XS.iload X0.here hx rfl (hb hby d3_19) rfl ?_
      exact k
    by_cases hc6 : p10 = p4
    ·
      obtain ⟨cl7, Ar7, qa7, Sa7, Na7, Ha7, Ga7⟩ := id (P4)
      have hin7 : ¬ ((1 : Int32) < 0 ∨ cl7.slots.size ≤ ((1 : Int32)).toNatClampNeg) := inb_of Sa7 ⟨by decide, by decide⟩
      have hat7 : cl7.slots[((1 : Int32)).toNatClampNeg]? = some (.int p13) := Has.at Ha7 hin7 rfl
      have pre8 : ∀ t, Steps p.tables e below (s₁.setTop (mkF m 29 #[.val (.ref o1), .val (.ref o2), .val (.ref o3), .val (.int 1), .val (.int 2), .val (.int p4)] [(.int p4), (.int p13)])) t → Steps p.tables e below (s₁.setTop (entryFrame m #[(.ref o1), (.ref o2), (.ref o3), (.int 1), (.int 2), (.int p4)] 6)) t := fun t k => by
        refine pre5 _ ?_
        show Steps p.tables e below (s₁.setTop (mkF m 21 #[.val (.ref o1), .val (.ref o2), .val (.ref o3), .val (.int 1), .val (.int 2), .val (.int p4)] [(.int p4), (.int p10)])) _
        refine XS.icmpNo X0.here hx rfl (hb hby d3_21) rfl (teq hc6).2 ?_
        refine XS.aloadN X0.here hx rfl (hb hby d3_24) rfl rfl ?_
        refine XS.iloadN X0.here hx rfl (hb hby d3_25) rfl ?_
        refine X0.baloadBooleans hx (j := (1 : Int32)) (v := (.int p13)) (by rw [e0]; exact Ar7.1) (State.isArrayOf_alike hZ.alike Ar7.2.1) Ar7.2.2 hin7 hat7 (g := (mkF m 26 #[.val (.ref o1), .val (.ref o2), .val (.ref o3), .val (.int 1), .val (.int 2), .val (.int p4)] [(.int 1), (.ref o3)])) rfl rfl (hb hby d3_26) _ ?_
        refine XS.iload X0.here hx rfl (hb hby d3_27) rfl ?_
        exact k
      by_cases hc9 : p13 = p4
      ·
        obtain ⟨fs, hr, hrun, hended, hW, hsame⟩ := X0.leave (v := some (.int 1)) (fun h => by rw [hret] at h; cases h)
        refine ⟨_, _, pre8 _ ?_, hrun, hended, _, _, rfl, ?_, ⟨_, rfl⟩, hW, hsame.mono (by decide) (by decide)⟩
        ·
          show Steps p.tables e below (s₁.setTop (mkF m 29 #[.val (.ref o1), .val (.ref o2), .val (.ref o3), .val (.int 1), .val (.int 2), .val (.int p4)] [(.int p4), (.int p13)])) _
          refine XS.icmpNo X0.here hx rfl (hb hby d3_29) rfl (teq hc9).2 ?_
          refine XS.iconst X0.here hx rfl (hb hby d3_32) ?_
          refine XS.goto X0.here hx rfl (pc0 := 33) (pc' := 37) rfl (hb hby d3_33) (by decide) (by decide) ?_
          show Steps p.tables e below (s₁.setTop (mkF m 37 #[.val (.ref o1), .val (.ref o2), .val (.ref o3), .val (.int 1), .val (.int 2), .val (.int p4)] [(.int 1)])) _
          exact retN X0 hx (t := .boolean) hret (by simp) (hb hby d3_37) hr
        ·
          show Q27 Z o1 o2 o3 p4 p6 p7 p9 p10 p12 p13 kc5 kc8 kc11 h0 n0 _ s₁.heap _
          rw [e0]
          exact (Or.inl ⟨hc3, hc6, hc9, rfl, N0, rfl⟩)
      ·
        obtain ⟨fs, hr, hrun, hended, hW, hsame⟩ := X0.leave (v := some (.int 0)) (fun h => by rw [hret] at h; cases h)
        refine ⟨_, _, pre8 _ ?_, hrun, hended, _, _, rfl, ?_, ⟨_, rfl⟩, hW, hsame.mono (by decide) (by decide)⟩
        ·
          show Steps p.tables e below (s₁.setTop (mkF m 29 #[.val (.ref o1), .val (.ref o2), .val (.ref o3), .val (.int 1), .val (.int 2), .val (.int p4)] [(.int p4), (.int p13)])) _
          refine XS.icmpYes X0.here hx rfl (pc0 := 29) (pc' := 36) rfl (hb hby d3_29) rfl (feq hc9).2 (by decide) (by decide) ?_
          refine XS.iconst X0.here hx rfl (hb hby d3_36) ?_
          show Steps p.tables e below (s₁.setTop (mkF m 37 #[.val (.ref o1), .val (.ref o2), .val (.ref o3), .val (.int 1), .val (.int 2), .val (.int p4)] [(.int 0)])) _
          exact retN X0 hx (t := .boolean) hret (by simp) (hb hby d3_37) hr
        ·
          show Q27 Z o1 o2 o3 p4 p6 p7 p9 p10 p12 p13 kc5 kc8 kc11 h0 n0 _ s₁.heap _
          rw [e0]
          exact (Or.inr (Or.inl ⟨hc3, hc6, hc9, rfl, N0, rfl⟩))
    ·
      obtain ⟨fs, hr, hrun, hended, hW, hsame⟩ := X0.leave (v := some (.int 0)) (fun h => by rw [hret] at h; cases h)
      refine ⟨_, _, pre5 _ ?_, hrun, hended, _, _, rfl, ?_, ⟨_, rfl⟩, hW, hsame.mono (by decide) (by decide)⟩
      ·
        show Steps p.tables e below (s₁.setTop (mkF m 21 #[.val (.ref o1), .val (.ref o2), .val (.ref o3), .val (.int 1), .val (.int 2), .val (.int p4)] [(.int p4), (.int p10)])) _
        refine XS.icmpYes X0.here hx rfl (pc0 := 21) (pc' := 36) rfl (hb hby d3_21) rfl (feq hc6).2 (by decide) (by decide) ?_
        refine XS.iconst X0.here hx rfl (hb hby d3_36) ?_
        show Steps p.tables e below (s₁.setTop (mkF m 37 #[.val (.ref o1), .val (.ref o2), .val (.ref o3), .val (.int 1), .val (.int 2), .val (.int p4)] [(.int 0)])) _
        exact retN X0 hx (t := .boolean) hret (by simp) (hb hby d3_37) hr
      ·
        show Q27 Z o1 o2 o3 p4 p6 p7 p9 p10 p12 p13 kc5 kc8 kc11 h0 n0 _ s₁.heap _
        rw [e0]
        exact (Or.inr (Or.inr (Or.inl ⟨hc3, hc6, rfl, N0, rfl⟩)))
  ·
    obtain ⟨fs, hr, hrun, hended, hW, hsame⟩ := X0.leave (v := some (.int 0)) (fun h => by rw [hret] at h; cases h)
    refine ⟨_, _, pre2 _ ?_, hrun, hended, _, _, rfl, ?_, ⟨_, rfl⟩, hW, hsame.mono (by decide) (by decide)⟩
    ·
      show Steps p.tables e below (s₁.setTop (mkF m 13 #[.val (.ref o1), .val (.ref o2), .val (.ref o3), .val (.int 1), .val (.int 2), .val (.int p4)] [(.int p4), (.int p7)])) _
      refine XS.icmpYes X0.here hx rfl (pc0 := 13) (pc' := 36) rfl (hb hby d3_13) rfl (feq hc3).2 (by decide) (by decide) ?_
      refine XS.iconst X0.here hx rfl (hb hby d3_36) ?_
      show Steps p.tables e below (s₁.setTop (mkF m 37 #[.val (.ref o1), .val (.ref o2), .val (.ref o3), .val (.int 1), .val (.int 2), .val (.int p4)] [(.int 0)])) _
      exact retN X0 hx (t := .boolean) hret (by simp) (hb hby d3_37) hr
    ·
      show Q27 Z o1 o2 o3 p4 p6 p7 p9 p10 p12 p13 kc5 kc8 kc11 h0 n0 _ s₁.heap _
      rw [e0]
      exact (Or.inr (Or.inr (Or.inr ⟨hc3, rfl, N0, rfl⟩)))
theorem ef28 (m : MethodId) (x0 : Addr) (x1 : Addr) (x2 : Addr) (x3 : Int32) (x4 : Int32) (x5 : Int32) : entryFrame m #[(.ref x0), (.ref x1), (.ref x2), (.int x3), (.int x4), (.int x5)] 6 = mkF m 0 #[.val (.ref x0), .val (.ref x1), .val (.ref x2), .val (.int x3), .val (.int x4), .val (.int x5)] [] := by first | (simp [entryFrame, mkF, argsToLocals, Value.category]; done) | rfl
def Q28 (Z : State) (o1 : Addr) (o2 : Addr) (o3 : Addr) (p4 : Int32) (p6 : Int32) (p7 : Int32) (p9 : Int32) (p10 : Int32) (p12 : Int32) (p13 : Int32) (h0 : Heap) (n0 : Nat) (v : Option Value) (h : Heap) (L : List Loc) : Prop :=
  (v = some (.int 1) ∧ Fr n0 L ∧ h = h0)
set_option maxRecDepth 65536 in
set_option maxHeartbeats 40000000 in
theorem rm28 (l : Launch) (Z : State) (a0 : Array Value) (hw : ∀ d ∈ tables_1, d.before a0 Z = true) (ws : List Jvm.Cond) (o1 : Addr) (o2 : Addr) (o3 : Addr) (p4 : Int32) (p6 : Int32) (p7 : Int32) (p9 : Int32) (p10 : Int32) (p12 : Int32) (p13 : Int32) (h0 : Heap) (n0 : Nat) (O0 : Old Z n0 h0) (g_o1 : n0 ≤ o1) (g_o2 : n0 ≤ o2) (g_o3 : n0 ≤ o3) (bd_p4 : 0 ≤ p4.toInt ∧ p4.toInt ≤ 1) (bd_p6 : 0 ≤ p6.toInt ∧ p6.toInt ≤ 1) (bd_p7 : 0 ≤ p7.toInt ∧ p7.toInt ≤ 1) (bd_p9 : 0 ≤ p9.toInt ∧ p9.toInt ≤ 1) (bd_p10 : 0 ≤ p10.toInt ∧ p10.toInt ≤ 1) (bd_p12 : 0 ≤ p12.toInt ∧ p12.toInt ≤ 1) (bd_p13 : 0 ≤ p13.toInt ∧ p13.toInt ≤ 1) :
    MetFree l yn3 (head1 (Jvm.Cond.code yn3 method_3_code 6 (some .boolean) :: ws) ({ frames := 0, cells := 0, slots := 0, locals := 0 } : Room)) (fun a U => a = #[(.ref o1), (.ref o2), (.ref o3), (.int 2), (.int 2), (.int p4)] ∧ Z.Warmed39 U.vm ∧ U.heap = h0) (fun _ _ _ _ _ => True) (fun _ U o U' => ∃ v L, o = .returned v ∧ Q28 Z o1 o2 o3 p4 p6 p7 p9 p10 p12 p13 h0 n0 v U'.heap L ∧ FrameEnd U o U' L ({ frames := 0, cells := 0, slots := 0, locals := 0 } : Room).cells ({ frames := 0, cells := 0, slots := 0, locals := 0 } : Room).slots) := by
  refine MetFree.of_bodySF (plainFor_of_name pn2) hisR ?_
  intro p e s m args below meth c s₁ Bd hml0 hP hK
  obtain ⟨rfl, hZ, hh⟩ := hP
  have hx := Bd.exec
  have hby := Bd.bytes
  have hml : c.maxLocals = 6 := hml0
  have hown : s.vm.findClass "com/example/castless/castless/PrimitiveArraysBoxPinLaw" = some m.cls := findClass_of_methodNamed Bd.named
  have hnm := (name_of_methodNamed Bd.named Bd.method).1
  have hret := Bd.returns
  have hlk : meth.locks = false := BodyLoose.notSynchronized Bd
  have X0 : Stand p l e ({ frames := 0, cells := 0, slots := 0, locals := 0 } : Room) s m #[(.ref o1), (.ref o2), (.ref o3), (.int 2), (.int 2), (.int p4)] below meth c s₁ [] 0 0 := Stand.of_body Bd
  have e0 : s₁.heap = h0 := by rw [← hh, Bd.state]; rfl
  have N0 := Fr.nil n0
  have pre0 : ∀ t, Steps p.tables e below (s₁.setTop (mkF m 0 #[.val (.ref o1), .val (.ref o2), .val (.ref o3), .val (.int 2), .val (.int 2), .val (.int p4)] [])) t → Steps p.tables e below (s₁.setTop (entryFrame m #[(.ref o1), (.ref o2), (.ref o3), (.int 2), (.int 2), (.int p4)] 6)) t := fun t k => castTop (ef28 m o1 o2 o3 (2 : Int32) (2 : Int32) p4) k
  obtain ⟨fs, hr, hrun, hended, hW, hsame⟩ := X0.leave (v := some (.int 1)) (fun h => by rw [hret] at h; cases h)
  refine ⟨_, _, pre0 _ ?_, hrun, hended, _, _, rfl, ?_, ⟨_, rfl⟩, hW, hsame.mono (by decide) (by decide)⟩
  ·
    show Steps p.tables e below (s₁.setTop (mkF m 0 #[.val (.ref o1), .val (.ref o2), .val (.ref o3), .val (.int 2), .val (.int 2), .val (.int p4)] [])) _
    refine XS.iloadN X0.here hx rfl (hb hby d3_0) rfl ?_
    refine XS.iload X0.here hx rfl (hb hby d3_1) rfl ?_
    refine XS.icmpNo X0.here hx rfl (hb hby d3_3) rfl (flt (by decide : ¬ ((2 : Int32) < (2 : Int32)))).1 ?_
    refine XS.iconst X0.here hx rfl (hb hby d3_6) ?_
    show Steps p.tables e below (s₁.setTop (mkF m 7 #[.val (.ref o1), .val (.ref o2), .val (.ref o3), .val (.int 2), .val (.int 2), .val (.int p4)] [(.int 1)])) _
    exact retN X0 hx (t := .boolean) hret (by simp) (hb hby d3_7) hr
  ·
    show Q28 Z o1 o2 o3 p4 p6 p7 p9 p10 p12 p13 h0 n0 _ s₁.heap _
    rw [e0]
    exact ⟨rfl, N0, rfl⟩
theorem ef29 (m : MethodId) (x0 : Addr) (x1 : Addr) (x2 : Addr) (x3 : Int32) (x4 : Int32) (x5 : Int32) : entryFrame m #[(.ref x0), (.ref x1), (.ref x2), (.int x3), (.int x4), (.int x5)] 6 = mkF m 0 #[.val (.ref x0), .val (.ref x1), .val (.ref x2), .val (.int x3), .val (.int x4), .val (.int x5)] [] := by first | (simp [entryFrame, mkF, argsToLocals, Value.category]; done) | rfl
def Q29 (Z : State) (o1 : Addr) (o2 : Addr) (o3 : Addr) (p4 : Int32) (p6 : Int32) (p7 : Int32) (p9 : Int32) (p10 : Int32) (p12 : Int32) (p13 : Int32) (h0 : Heap) (n0 : Nat) (v : Option Value) (h : Heap) (L : List Loc) : Prop :=
  (v = some (.int 1) ∧ Fr n0 L ∧ h = h0)
set_option maxRecDepth 65536 in
set_option maxHeartbeats 40000000 in
theorem rm29 (l : Launch) (Z : State) (a0 : Array Value) (hw : ∀ d ∈ tables_1, d.before a0 Z = true) (ws : List Jvm.Cond) (o1 : Addr) (o2 : Addr) (o3 : Addr) (p4 : Int32) (p6 : Int32) (p7 : Int32) (p9 : Int32) (p10 : Int32) (p12 : Int32) (p13 : Int32) (h0 : Heap) (n0 : Nat) (O0 : Old Z n0 h0) (g_o1 : n0 ≤ o1) (g_o2 : n0 ≤ o2) (g_o3 : n0 ≤ o3) (bd_p4 : 0 ≤ p4.toInt ∧ p4.toInt ≤ 1) (bd_p6 : 0 ≤ p6.toInt ∧ p6.toInt ≤ 1) (bd_p7 : 0 ≤ p7.toInt ∧ p7.toInt ≤ 1) (bd_p9 : 0 ≤ p9.toInt ∧ p9.toInt ≤ 1) (bd_p10 : 0 ≤ p10.toInt ∧ p10.toInt ≤ 1) (bd_p12 : 0 ≤ p12.toInt ∧ p12.toInt ≤ 1) (bd_p13 : 0 ≤ p13.toInt ∧ p13.toInt ≤ 1) :
    MetFree l yn3 (head1 (Jvm.Cond.code yn3 method_3_code 6 (some .boolean) :: ws) ({ frames := 0, cells := 0, slots := 0, locals := 0 } : Room)) (fun a U => a = #[(.ref o1), (.ref o2), (.ref o3), (.int 3), (.int 2), (.int p4)] ∧ Z.Warmed39 U.vm ∧ U.heap = h0) (fun _ _ _ _ _ => True) (fun _ U o U' => ∃ v L, o = .returned v ∧ Q29 Z o1 o2 o3 p4 p6 p7 p9 p10 p12 p13 h0 n0 v U'.heap L ∧ FrameEnd U o U' L ({ frames := 0, cells := 0, slots := 0, locals := 0 } : Room).cells ({ frames := 0, cells := 0, slots := 0, locals := 0 } : Room).slots) := by
  refine MetFree.of_bodySF (plainFor_of_name pn2) hisR ?_
  intro p e s m args below meth c s₁ Bd hml0 hP hK
  obtain ⟨rfl, hZ, hh⟩ := hP
  have hx := Bd.exec
  have hby := Bd.bytes
  have hml : c.maxLocals = 6 := hml0
  have hown : s.vm.findClass "com/example/castless/castless/PrimitiveArraysBoxPinLaw" = some m.cls := findClass_of_methodNamed Bd.named
  have hnm := (name_of_methodNamed Bd.named Bd.method).1
  have hret := Bd.returns
  have hlk : meth.locks = false := BodyLoose.notSynchronized Bd
  have X0 : Stand p l e ({ frames := 0, cells := 0, slots := 0, locals := 0 } : Room) s m #[(.ref o1), (.ref o2), (.ref o3), (.int 3), (.int 2), (.int p4)] below meth c s₁ [] 0 0 := Stand.of_body Bd
  have e0 : s₁.heap = h0 := by rw [← hh, Bd.state]; rfl
  have N0 := Fr.nil n0
  have pre0 : ∀ t, Steps p.tables e below (s₁.setTop (mkF m 0 #[.val (.ref o1), .val (.ref o2), .val (.ref o3), .val (.int 3), .val (.int 2), .val (.int p4)] [])) t → Steps p.tables e below (s₁.setTop (entryFrame m #[(.ref o1), (.ref o2), (.ref o3), (.int 3), (.int 2), (.int p4)] 6)) t := fun t k => castTop (ef29 m o1 o2 o3 (3 : Int32) (2 : Int32) p4) k
  obtain ⟨fs, hr, hrun, hended, hW, hsame⟩ := X0.leave (v := some (.int 1)) (fun h => by rw [hret] at h; cases h)
  refine ⟨_, _, pre0 _ ?_, hrun, hended, _, _, rfl, ?_, ⟨_, rfl⟩, hW, hsame.mono (by decide) (by decide)⟩
  ·
    show Steps p.tables e below (s₁.setTop (mkF m 0 #[.val (.ref o1), .val (.ref o2), .val (.ref o3), .val (.int 3), .val (.int 2), .val (.int p4)] [])) _
    refine XS.iloadN X0.here hx rfl (hb hby d3_0) rfl ?_
    refine XS.iload X0.here hx rfl (hb hby d3_1) rfl ?_
    refine XS.icmpNo X0.here hx rfl (hb hby d3_3) rfl (flt (by decide : ¬ ((3 : Int32) < (2 : Int32)))).1 ?_
    refine XS.iconst X0.here hx rfl (hb hby d3_6) ?_
    show Steps p.tables e below (s₁.setTop (mkF m 7 #[.val (.ref o1), .val (.ref o2), .val (.ref o3), .val (.int 3), .val (.int 2), .val (.int p4)] [(.int 1)])) _
    exact retN X0 hx (t := .boolean) hret (by simp) (hb hby d3_7) hr
  ·
    show Q29 Z o1 o2 o3 p4 p6 p7 p9 p10 p12 p13 h0 n0 _ s₁.heap _
    rw [e0]
    exact ⟨rfl, N0, rfl⟩
theorem ef30 (m : MethodId) (x0 : Addr) (x1 : Addr) : entryFrame m #[(.ref x0), (.ref x1)] 2 = mkF m 0 #[.val (.ref x0), .val (.ref x1)] [] := by first | (simp [entryFrame, mkF, argsToLocals, Value.category]; done) | rfl
def Q30 (Z : State) (o1 : Addr) (u2 : Addr) (h0 : Heap) (n0 : Nat) (v : Option Value) (h : Heap) (L : List Loc) : Prop :=
  (v = some (.ref o1) ∧ Fr n0 L ∧ h = h0)
set_option maxRecDepth 65536 in
set_option maxHeartbeats 40000000 in
theorem rm30 (l : Launch) (Z : State) (a0 : Array Value) (hw : ∀ d ∈ tables_1, d.before a0 Z = true) (ws : List Jvm.Cond) (o1 : Addr) (u2 : Addr) (h0 : Heap) (n0 : Nat) (O0 : Old Z n0 h0) (g_o1 : n0 ≤ o1) :
    MetFree l yn0 (head1 (Jvm.Cond.code yn0 jdk_31_method_11_code 2 (some (.object "java/lang/Object")) :: ws) ({ frames := 0, cells := 0, slots := 0, locals := 0 } : Room)) (fun a U => a = #[(.ref o1), (.ref u2)] ∧ Z.Warmed39 U.vm ∧ U.heap = h0) (fun _ _ _ _ _ => True) (fun _ U o U' => ∃ v L, o = .returned v ∧ Q30 Z o1 u2 h0 n0 v U'.heap L ∧ FrameEnd U o U' L ({ frames := 0, cells := 0, slots := 0, locals := 0 } : Room).cells ({ frames := 0, cells := 0, slots := 0, locals := 0 } : Room).slots) := by
  refine MetFree.of_bodySF (plainFor_of_name pn0) hisR ?_
  intro p e s m args below meth c s₁ Bd hml0 hP hK
  obtain ⟨rfl, hZ, hh⟩ := hP
  have hx := Bd.exec
  have hby := Bd.bytes
  have hml : c.maxLocals = 2 := hml0
  have hown : s.vm.findClass "java/util/Objects" = some m.cls := findClass_of_methodNamed Bd.named
  have hnm := (name_of_methodNamed Bd.named Bd.method).1
  have hret := Bd.returns
  have hlk : meth.locks = false := BodyLoose.notSynchronized Bd
  have X0 : Stand p l e ({ frames := 0, cells := 0, slots := 0, locals := 0 } : Room) s m #[(.ref o1), (.ref u2)] below meth c s₁ [] 0 0 := Stand.of_body Bd
  have e0 : s₁.heap = h0 := by rw [← hh, Bd.state]; rfl
  have N0 := Fr.nil n0
  have pre0 : ∀ t, Steps p.tables e below (s₁.setTop (mkF m 0 #[.val (.ref o1), .val (.ref u2)] [])) t → Steps p.tables e below (s₁.setTop (entryFrame m #[(.ref o1), (.ref u2)] 2)) t := fun t k => castTop (ef30 m o1 u2) k
  obtain ⟨fs, hr, hrun, hended, hW, hsame⟩ := X0.leave (v := some (.ref o1)) (fun h => by rw [hret] at h; cases h)
  refine ⟨_, _, pre0 _ ?_, hrun, hended, _, _, rfl, ?_, ⟨_, rfl⟩, hW, hsame.mono (by decide) (by decide)⟩
  ·
    show Steps p.tables e below (s₁.setTop (mkF m 0 #[.val (.ref o1), .val (.ref u2)] [])) _
    refine XS.aloadN X0.here hx rfl (hb hby d1_0) rfl rfl ?_
    refine XS.ifnonnullYes X0.here hx rfl (pc0 := 1) (pc' := 13) rfl (hb hby d1_1) rfl (by decide) (by decide) ?_
    refine XS.aloadN X0.here hx rfl (hb hby d1_13) rfl rfl ?_
    show Steps p.tables e below (s₁.setTop (mkF m 14 #[.val (.ref o1), .val (.ref u2)] [(.ref o1)])) _
    exact retOut X0 hx hret rfl (Or.inr (Or.inr (Or.inr (Or.inr ⟨rfl, rfl, rfl⟩)))) (hb hby d1_14) hr
  ·
    show Q30 Z o1 u2 h0 n0 _ s₁.heap _
    rw [e0]
    exact ⟨rfl, N0, rfl⟩
theorem ef31 (m : MethodId) (x0 : Addr) : entryFrame m #[(.ref x0)] 3 = mkF m 0 #[.val (.ref x0), .unset, .unset] [] := by first | (simp [entryFrame, mkF, argsToLocals, Value.category]; done) | rfl
def Q31 (Z : State) (w1 : Addr) (w2 : Addr) (o1 : Addr) (p3 : Int32) (p4 : Int32) (p5 : Int32) (kc2 : ClassId) (h0 : Heap) (n0 : Nat) (v : Option Value) (h : Heap) (L : List Loc) : Prop :=
  (∃ b8 : Addr, ∃ k8 : ClassId, ∃ v13 : Addr, ∃ v26 : Addr, ∃ v37 : Addr, v = some (.ref b8) ∧ Fr n0 L ∧ Keep h0 h [] ∧ h0.size ≤ b8 ∧ Ovr Z k8 "java/lang/Boolean" ∧ (Arv Z h b8 k8 (.object "java/lang/Boolean") (3 : Int32) [(.ref v13), (.ref v26), (.ref v37)] .null) ∧ (Exa Z h b8 "[Ljava/lang/Boolean;") ∧ (Exa Z Z.heap v13 "java/lang/Boolean") ∧ (Fld Z Z.heap v13 "java/lang/Boolean" "value" "Z" (.int p3)) ∧ (Exa Z Z.heap v26 "java/lang/Boolean") ∧ (Fld Z Z.heap v26 "java/lang/Boolean" "value" "Z" (.int p4)) ∧ (Exa Z Z.heap v37 "java/lang/Boolean") ∧ (Fld Z Z.heap v37 "java/lang/Boolean" "value" "Z" (.int p5)))
set_option maxRecDepth 65536 in
set_option maxHeartbeats 40000000 in
theorem rm31 (l : Launch) (Z : State) (a0 : Array Value) (hw : ∀ d ∈ tables_1, d.before a0 Z = true) (w1 : Addr) (w2 : Addr) (G : GW Z w1 w2) (ws : List Jvm.Cond) (o1 : Addr) (p3 : Int32) (p4 : Int32) (p5 : Int32) (kc2 : ClassId) (h0 : Heap) (n0 : Nat) (O0 : Old Z n0 h0) (g_o1 : n0 ≤ o1) (bd_p3 : 0 ≤ p3.toInt ∧ p3.toInt ≤ 1) (bd_p4 : 0 ≤ p4.toInt ∧ p4.toInt ≤ 1) (bd_p5 : 0 ≤ p5.toInt ∧ p5.toInt ≤ 1) (P0 : Arv Z h0 o1 kc2 .boolean (3 : Int32) [(.int p3), (.int p4), (.int p5)] (.int 0)) :
    MetFree l yn1 (head1 (Jvm.Cond.code yn1 prog_11_method_2_code 3 (some (.array (.object "java/lang/Boolean"))) :: ws) ({ frames := 1, cells := 3, slots := 59, locals := 14 } : Room)) (fun a U => a = #[(.ref o1)] ∧ Z.Warmed39 U.vm ∧ U.heap = h0) (fun _ _ _ _ _ => True) (fun _ U o U' => ∃ v L, o = .returned v ∧ Q31 Z w1 w2 o1 p3 p4 p5 kc2 h0 n0 v U'.heap L ∧ ReturnedEndW U o U' L ({ frames := 1, cells := 3, slots := 59, locals := 14 } : Room).cells ({ frames := 1, cells := 3, slots := 59, locals := 14 } : Room).slots) := by
  obtain ⟨S_w1, E_w1, S_w2, E_w2, F_w1_value, F_w2_value⟩ := id G
  refine MetFree.of_bodySF (plainFor_of_name pn1) hisR ?_
  intro p e s m args below meth c s₁ Bd hml0 hP hK
  obtain ⟨rfl, hZ, hh⟩ := hP
  have hx := Bd.exec
  have hby := Bd.bytes
  have hml : c.maxLocals = 3 := hml0
  have hown : s.vm.findClass "com/example/castless/castless/PrimitiveArrays" = some m.cls := findClass_of_methodNamed Bd.named
  have hnm := (name_of_methodNamed Bd.named Bd.method).1
  have hret := Bd.returns
  have hlk : meth.locks = false := BodyLoose.notSynchronized Bd
  have X0 : Stand p l e ({ frames := 1, cells := 3, slots := 59, locals := 14 } : Room) s m #[(.ref o1)] below meth c s₁ [] 0 0 := Stand.of_body Bd
  have e0 : s₁.heap = h0 := by rw [← hh, Bd.state]; rfl
  have N0 := Fr.nil n0
  have pre0 : ∀ t, Steps p.tables e below (s₁.setTop (mkF m 0 #[.val (.ref o1), .unset, .unset] [])) t → Steps p.tables e below (s₁.setTop (entryFrame m #[(.ref o1)] 3)) t := fun t k => castTop (ef31 m o1) k
  have pre1 : ∀ t, Steps p.tables e below (s₁.setTop (mkF m 1 #[.val (.ref o1), .unset, .unset] [(.ref o1)])) t → Steps p.tables e below (s₁.setTop (entryFrame m #[(.ref o1)] 3)) t := fun t k => by
    refine pre0 _ ?_
    show Steps p.tables e below (s₁.setTop (mkF m 0 #[.val (.ref o1), .unset, .unset] [])) _
    refine XS.aloadN X0.here hx rfl (hb hby d0_0) rfl rfl ?_
    exact k
  obtain ⟨sx2, T2, h2, ks2, X2, e2, E2, hS2, hk2, hZ, hown, st2⟩ := ldcS (s := s) (vm0 := s.vm) X0 hx hZ hown (own_w hw 6 rfl) (own_sa hw) e0 ((State.WarmedH.refl s).since h0.size) (Nat.le_refl _) (g := (mkF m 1 #[.val (.ref o1), .unset, .unset] [(.ref o1)])) rfl (hb hby d0_1) (n := 52) (by decide) (by decide) (by decide) (by decide)
  have M2 : h0.size ≤ h2.size := Nat.le_trans (Nat.le_refl _) E2.1
  have O2 := Old.ext O0 E2
  obtain ⟨_, T3, L3, X3, hQ3, st3⟩ := own_cs X2 hx hZ hown (y := yn0) (own_w hw 14 rfl) (own_w hw 15 rfl) (own_w hw 17 rfl) (own_w hw 16 rfl) e2 (argsL := [(.ref o1), (.ref sx2)]) (rest := []) (rm30 l Z a0 hw [] o1 sx2 h2 n0 O2 g_o1) (g := (mkF m 3 #[.val (.ref o1), .unset, .unset] [(.ref sx2), (.ref o1)])) rfl (by rw [hml]; rfl) rfl (hb hby d0_3) (lenOf pd0 rfl) (W := 0) (c1 := 2) (s1 := 56)
  obtain ⟨rfl, Nq4, e5⟩ := hQ3
  have N3 := Fr.app N0 Nq4
  have f6 := (P0.ext E2)
  obtain ⟨cl7, Ar7, qa7, Sa7, Na7, Ha7, Ga7⟩ := id (f6)
  obtain ⟨T8, h8, k8, X8, e8, E8, A8, EX8, OV8, st8⟩ := newRE X3 hx hZ hown (own_w hw 18 rfl) (own_w hw 19 rfl) e5 (g := (mkF m 9 #[.val (.ref o1), .unset, .unset] [(.int 3)])) rfl (hb hby d0_9) rfl (by decide) (cap := 3) (by decide) (by decide) (by decide) (by decide) (ad := "[Ljava/lang/Boolean;") (by decide)
  obtain ⟨b8, g8⟩ : ∃ z, z = h2.size := ⟨_, rfl⟩
  rw [← g8] at A8 EX8 st8
  have hkk8 := Nat.le_trans hk2 E8.1
  have M8 : h0.size ≤ h8.size := Nat.le_trans M2 E8.1
  have O8 := Old.ext O2 E8
  have sz_b8 : h2.size ≤ b8 := Nat.le_of_eq g8.symm
  have g_b8 : n0 ≤ b8 := Nat.le_trans (own_oz O0) (Nat.le_trans M2 sz_b8)
  have V8_0 := Arv.new A8 (by decide)
  have V8 : Arv Z h8 b8 k8 (.object "java/lang/Boolean") (3 : Int32) [.null, .null, .null] .null := V8_0.pad (pad_rep [] .null 3)
  have f9 := (f6.ext E8)
  obtain ⟨cl10, Ar10, qa10, Sa10, Na10, Ha10, Ga10⟩ := id (f9)
  obtain ⟨cl11, Ar11, qa11, Sa11, Na11, Ha11, Ga11⟩ := id (f9)
  have hin11 : ¬ ((0 : Int32) < 0 ∨ cl11.slots.size ≤ ((0 : Int32)).toNatClampNeg) := inb_of Sa11 ⟨by decide, by decide⟩
  have hat11 : cl11.slots[((0 : Int32)).toNatClampNeg]? = some (.int p3) := Has.at Ha11 hin11 rfl
  obtain ⟨_, T12, L12, X12, hQ12, st12⟩ := own_cs X8 hx hZ hown (y := yn4) (own_w hw 20 rfl) (own_w hw 21 rfl) (own_w hw 23 rfl) (own_w hw 22 rfl) e8 (argsL := [(.int p3)]) (rest := [(.int 0), (.ref b8)]) (rm11 l Z a0 hw w1 w2 G [] p3 h8 n0 O8 (by have q0 := bd_p3; omega)) (g := (mkF m 26 #[.val (.ref o1), .val (.ref b8), .val (.int 0)] [(.int p3), (.int 0), (.ref b8)])) rfl (by rw [hml]; rfl) rfl (hb hby d0_26) (lenOf pd4 rfl) (W := 2) (c1 := 3) (s1 := 59)
  obtain ⟨v13, rfl, Nq14, e15, f16, f17⟩ := hQ12
  have N12 := Fr.app N3 Nq14
  obtain ⟨cl18, Ar18, qa18, Sa18, Na18, Ha18, Ga18⟩ := id (V8)
  have hin18 : ¬ ((0 : Int32) < 0 ∨ cl18.slots.size ≤ ((0 : Int32)).toNatClampNeg) := inb_of Sa18 ⟨by decide, by decide⟩
  obtain ⟨T19, h19, X19, e19, W19, st19⟩ := stR X12 hx hZ e15 Ar18 (j := (0 : Int32)) hin18 rfl (Sto.ofV Ar18 qa18 OV8 (Ins.self (f16.ext O8.2))) (g := (mkF m 29 #[.val (.ref o1), .val (.ref b8), .val (.int 0)] [(.ref v13), (.int 0), (.ref b8)])) rfl rfl (hb hby d0_29)
  have V19 : Arv Z h19 b8 k8 (.object "java/lang/Boolean") (3 : Int32) [(.ref v13), .null, .null] .null := Arv.set Ar18 qa18 Sa18 Na18 Ha18 Ga18 rfl W19 0 rfl (Nat.le_of_ble_eq_true rfl)
  have N19 := Fr.snoc X19 N12 g_b8
  have hkk19 := Nat.le_trans hkk8 (Nat.le_of_eq W19.size.symm)
  have M19 : h0.size ≤ h19.size := Nat.le_trans M8 (Nat.le_of_eq W19.size.symm)
  have O19 := Old.wr O8 W19 g_b8
  have lt20 : o1 < h2.size := (Nat.lt_of_lt_of_le P0.lt E2.1)
  have ne21 : o1 ≠ b8 := Nat.ne_of_lt (Nat.lt_of_lt_of_le lt20 sz_b8)
  have f22 := (f9.other W19 ne21)
  obtain ⟨cl23, Ar23, qa23, Sa23, Na23, Ha23, Ga23⟩ := id (f22)
  obtain ⟨cl24, Ar24, qa24, Sa24, Na24, Ha24, Ga24⟩ := id (f22)
  have hin24 : ¬ ((1 : Int32) < 0 ∨ cl24.slots.size ≤ ((1 : Int32)).toNatClampNeg) := inb_of Sa24 ⟨by decide, by decide⟩
  have hat24 : cl24.slots[((1 : Int32)).toNatClampNeg]? = some (.int p4) := Has.at Ha24 hin24 rfl
  obtain ⟨_, T25, L25, X25, hQ25, st25⟩ := own_cs X19 hx hZ hown (y := yn4) (own_w hw 20 rfl) (own_w hw 21 rfl) (own_w hw 23 rfl) (own_w hw 22 rfl) e19 (argsL := [(.int p4)]) (rest := [(.int 1), (.ref b8)]) (rm11 l Z a0 hw w1 w2 G [] p4 h19 n0 O19 (by have q0 := bd_p4; omega)) (g := (mkF m 26 #[.val (.ref o1), .val (.ref b8), .val (.int 1)] [(.int p4), (.int 1), (.ref b8)])) rfl (by rw [hml]; rfl) rfl (hb hby d0_26) (lenOf pd4 rfl) (W := 2) (c1 := 3) (s1 := 59)
  obtain ⟨v26, rfl, Nq27, e28, f29, f30⟩ := hQ25
  have N25 := Fr.app N19 Nq27
  obtain ⟨cl31, Ar31, qa31, Sa31, Na31, Ha31, Ga31⟩ := id (V19)
  have hin31 : ¬ ((1 : Int32) < 0 ∨ cl31.slots.size ≤ ((1 : Int32)).toNatClampNeg) := inb_of Sa31 ⟨by decide, by decide⟩
  obtain ⟨T32, h32, X32, e32, W32, st32⟩ := stR X25 hx hZ e28 Ar31 (j := (1 : Int32)) hin31 rfl (Sto.ofV Ar31 qa31 OV8 (Ins.self (f29.ext O19.2))) (g := (mkF m 29 #[.val (.ref o1), .val (.ref b8), .val (.int 1)] [(.ref v26), (.int 1), (.ref b8)])) rfl rfl (hb hby d0_29)
  have V32 : Arv Z h32 b8 k8 (.object "java/lang/Boolean") (3 : Int32) [(.ref v13), (.ref v26), .null] .null := Arv.set Ar31 qa31 Sa31 Na31 Ha31 Ga31 rfl W32 1 rfl (Nat.le_of_ble_eq_true rfl)
  have N32 := Fr.snoc X32 N25 g_b8
  have hkk32 := Nat.le_trans hkk19 (Nat.le_of_eq W32.size.symm)
  have M32 : h0.size ≤ h32.size := Nat.le_trans M19 (Nat.le_of_eq W32.size.symm)
  have O32 := Old.wr O19 W32 g_b8
  have f33 := (f22.other W32 ne21)
  obtain ⟨cl34, Ar34, qa34, Sa34, Na34, Ha34, Ga34⟩ := id (f33)
  obtain ⟨cl35, Ar35, qa35, Sa35, Na35, Ha35, Ga35⟩ := id (f33)
  have hin35 : ¬ ((2 : Int32) < 0 ∨ cl35.slots.size ≤ ((2 : Int32)).toNatClampNeg) := inb_of Sa35 ⟨by decide, by decide⟩
  have hat35 : cl35.slots[((2 : Int32)).toNatClampNeg]? = some (.int p5) := Has.at Ha35 hin35 rfl
  obtain ⟨_, T36, L36, X36, hQ36, st36⟩ := own_cs X32 hx hZ hown (y := yn4) (own_w hw 20 rfl) (own_w hw 21 rfl) (own_w hw 23 rfl) (own_w hw 22 rfl) e32 (argsL := [(.int p5)]) (rest := [(.int 2), (.ref b8)]) (rm11 l Z a0 hw w1 w2 G [] p5 h32 n0 O32 (by have q0 := bd_p5; omega)) (g := (mkF m 26 #[.val (.ref o1), .val (.ref b8), .val (.int 2)] [(.int p5), (.int 2), (.ref b8)])) rfl (by rw [hml]; rfl) rfl (hb hby d0_26) (lenOf pd4 rfl) (W := 2) (c1 := 3) (s1 := 59)
  obtain ⟨v37, rfl, Nq38, e39, f40, f41⟩ := hQ36
  have N36 := Fr.app N32 Nq38
  obtain ⟨cl42, Ar42, qa42, Sa42, Na42, Ha42, Ga42⟩ := id (V32)
  have hin42 : ¬ ((2 : Int32) < 0 ∨ cl42.slots.size ≤ ((2 : Int32)).toNatClampNeg) := inb_of Sa42 ⟨by decide, by decide⟩
  obtain ⟨T43, h43, X43, e43, W43, st43⟩ := stR X36 hx hZ e39 Ar42 (j := (2 : Int32)) hin42 rfl (Sto.ofV Ar42 qa42 OV8 (Ins.self (f40.ext O32.2))) (g := (mkF m 29 #[.val (.ref o1), .val (.ref b8), .val (.int 2)] [(.ref v37), (.int 2), (.ref b8)])) rfl rfl (hb hby d0_29)
  have V43 : Arv Z h43 b8 k8 (.object "java/lang/Boolean") (3 : Int32) [(.ref v13), (.ref v26), (.ref v37)] .null := Arv.set Ar42 qa42 Sa42 Na42 Ha42 Ga42 rfl W43 2 rfl (Nat.le_of_ble_eq_true rfl)
  have N43 := Fr.snoc X43 N36 g_b8
  have hkk43 := Nat.le_trans hkk32 (Nat.le_of_eq W43.size.symm)
  have M43 : h0.size ≤ h43.size := Nat.le_trans M32 (Nat.le_of_eq W43.size.symm)
  have O43 := Old.wr O32 W43 g_b8
  have f44 := (f33.other W43 ne21)
  obtain ⟨cl45, Ar45, qa45, Sa45, Na45, Ha45, Ga45⟩ := id (f44)
  obtain ⟨fs, hr, hrun, hended, hRE⟩ := X43.leaveW hS2 (by rw [e43]; exact hkk43) (v := some (.ref b8)) (fun h => by rw [hret] at h; cases h)
  have KL : Keep h0 h43 [] := ((((((Keep.refl h0 []).ext E2).ext E8).wr W19 (Or.inr (Nat.le_trans M2 sz_b8))).wr W32 (Or.inr (Nat.le_trans M2 sz_b8))).wr W43 (Or.inr (Nat.le_trans M2 sz_b8)))
  have f46 := (((EX8.wr W19).wr W32).wr W43)
  refine ⟨_, _, pre1 _ ?_, hrun, hended, _, _, rfl, ?_, hRE.1, hRE.2.1, hRE.2.2.1, hRE.2.2.2.mono (by decide) (by decide)⟩
  ·
    show Steps p.tables e below (s₁.setTop (mkF m 1 #[.val (.ref o1), .unset, .unset] [(.ref o1)])) _
    refine st2 _ ?_
    refine st3 _ ?_
    refine XS.pop X3.here hx rfl (hb hby d0_6) rfl rfl ?_
    refine XS.aloadN X3.here hx rfl (hb hby d0_7) rfl rfl ?_
    refine X3.arraylength hx (by rw [e5]; exact Ar7.1) (State.isArrayOf_alike hZ.alike Ar7.2.1) (g := (mkF m 8 #[.val (.ref o1), .unset, .unset] [(.ref o1)])) rfl rfl (hb hby d0_8) _ ?_
    rw [len_of Sa7 Na7]
    refine st8 _ ?_
    refine XS.astoreN X8.here hx rfl (hb hby d0_12) rfl rfl (l' := #[.val (.ref o1), .val (.ref b8), .unset]) rfl ?_
    refine XS.iconst X8.here hx rfl (hb hby d0_13) ?_
    refine XS.istoreN X8.here hx rfl (hb hby d0_14) rfl (l' := #[.val (.ref o1), .val (.ref b8), .val (.int 0)]) rfl ?_
    refine XS.iloadN X8.here hx rfl (hb hby d0_15) rfl ?_
    refine XS.aloadN X8.here hx rfl (hb hby d0_16) rfl rfl ?_
    refine X8.arraylength hx (by rw [e8]; exact Ar10.1) (State.isArrayOf_alike hZ.alike Ar10.2.1) (g := (mkF m 17 #[.val (.ref o1), .val (.ref b8), .val (.int 0)] [(.ref o1), (.int 0)])) rfl rfl (hb hby d0_17) _ ?_
    rw [len_of Sa10 Na10]
    refine XS.icmpNo X8.here hx rfl (hb hby d0_18) rfl (tlt (by decide : (0 : Int32) < (3 : Int32))).2.1 ?_
    refine XS.aloadN X8.here hx rfl (hb hby d0_21) rfl rfl ?_
    refine XS.iloadN X8.here hx rfl (hb hby d0_22) rfl ?_
    refine XS.aloadN X8.here hx rfl (hb hby d0_23) rfl rfl ?_
    refine XS.iloadN X8.here hx rfl (hb hby d0_24) rfl ?_
    refine X8.baloadBooleans hx (j := (0 : Int32)) (v := (.int p3)) (by rw [e8]; exact Ar11.1) (State.isArrayOf_alike hZ.alike Ar11.2.1) Ar11.2.2 hin11 hat11 (g := (mkF m 25 #[.val (.ref o1), .val (.ref b8), .val (.int 0)] [(.int 0), (.ref o1), (.int 0), (.ref b8)])) rfl rfl (hb hby d0_25) _ ?_
    refine st12 _ ?_
    refine st19 _ ?_
    refine XS.iinc X19.here hx rfl (hb hby d0_30) rfl (l' := #[.val (.ref o1), .val (.ref b8), .val (.int 1)]) rfl ?_
    refine XS.goto X19.here hx rfl (pc0 := 33) (pc' := 15) rfl (hb hby d0_33) (by decide) (by decide) ?_
    refine XS.iloadN X19.here hx rfl (hb hby d0_15) rfl ?_
    refine XS.aloadN X19.here hx rfl (hb hby d0_16) rfl rfl ?_
    refine X19.arraylength hx (by rw [e19]; exact Ar23.1) (State.isArrayOf_alike hZ.alike Ar23.2.1) (g := (mkF m 17 #[.val (.ref o1), .val (.ref b8), .val (.int 1)] [(.ref o1), (.int 1)])) rfl rfl (hb hby d0_17) _ ?_
    rw [len_of Sa23 Na23]
    refine XS.icmpNo X19.here hx rfl (hb hby d0_18) rfl (tlt (by decide : (1 : Int32) < (3 : Int32))).2.1 ?_
    refine XS.aloadN X19.here hx rfl (hb hby d0_21) rfl rfl ?_
    refine XS.iloadN X19.here hx rfl (hb hby d0_22) rfl ?_
    refine XS.aloadN X19.here hx rfl (hb hby d0_23) rfl rfl ?_
    refine XS.iloadN X19.here hx rfl (hb hby d0_24) rfl ?_
    refine X19.baloadBooleans hx (j := (1 : Int32)) (v := (.int p4)) (by rw [e19]; exact Ar24.1) (State.isArrayOf_alike hZ.alike Ar24.2.1) Ar24.2.2 hin24 hat24 (g := (mkF m 25 #[.val (.ref o1), .val (.ref b8), .val (.int 1)] [(.int 1), (.ref o1), (.int 1), (.ref b8)])) rfl rfl (hb hby d0_25) _ ?_
    refine st25 _ ?_
    refine st32 _ ?_
    refine XS.iinc X32.here hx rfl (hb hby d0_30) rfl (l' := #[.val (.ref o1), .val (.ref b8), .val (.int 2)]) rfl ?_
    refine XS.goto X32.here hx rfl (pc0 := 33) (pc' := 15) rfl (hb hby d0_33) (by decide) (by decide) ?_
    refine XS.iloadN X32.here hx rfl (hb hby d0_15) rfl ?_
    refine XS.aloadN X32.here hx rfl (hb hby d0_16) rfl rfl ?_
    refine X32.arraylength hx (by rw [e32]; exact Ar34.1) (State.isArrayOf_alike hZ.alike Ar34.2.1) (g := (mkF m 17 #[.val (.ref o1), .val (.ref b8), .val (.int 2)] [(.ref o1), (.int 2)])) rfl rfl (hb hby d0_17) _ ?_
    rw [len_of Sa34 Na34]
    refine XS.icmpNo X32.here hx rfl (hb hby d0_18) rfl (tlt (by decide : (2 : Int32) < (3 : Int32))).2.1 ?_
    show Steps p.tables e below (T32.setTop (mkF m 21 #[.val (.ref o1), .val (.ref b8), .val (.int 2)] [])) _
    refine XS.aloadN X32.here hx rfl (hb hby d0_21) rfl rfl ?_
    refine XS.iloadN X32.here hx rfl (hb hby d0_22) rfl ?_
    refine XS.aloadN X32.here hx rfl (hb hby d0_23) rfl rfl ?_
    refine XS.iloadN X32.here hx rfl (hb hby d0_24) rfl ?_
    refine X32.baloadBooleans hx (j := (2 : Int32)) (v := (.int p5)) (by rw [e32]; exact Ar35.1) (State.isArrayOf_alike hZ.alike Ar35.2.1) Ar35.2.2 hin35 hat35 (g := (mkF m 25 #[.val (.ref o1), .val (.ref b8), .val (.int 2)] [(.int 2), (.ref o1), (.int 2), (.ref b8)])) rfl rfl (hb hby d0_25) _ ?_
    refine st36 _ ?_
    refine st43 _ ?_
    refine XS.iinc X43.here hx rfl (hb hby d0_30) rfl (l' := #[.val (.ref o1), .val (.ref b8), .val (.int 3)]) rfl ?_
    refine XS.goto X43.here hx rfl (pc0 := 33) (pc' := 15) rfl (hb hby d0_33) (by decide) (by decide) ?_
    refine XS.iloadN X43.here hx rfl (hb hby d0_15) rfl ?_
    refine XS.aloadN X43.here hx rfl (hb hby d0_16) rfl rfl ?_
    refine X43.arraylength hx (by rw [e43]; exact Ar45.1) (State.isArrayOf_alike hZ.alike Ar45.2.1) (g := (mkF m 17 #[.val (.ref o1), .val (.ref b8), .val (.int 3)] [(.ref o1), (.int 3)])) rfl rfl (hb hby d0_17) _ ?_
    rw [len_of Sa45 Na45]
    refine XS.icmpYes X43.here hx rfl (pc0 := 18) (pc' := 36) rfl (hb hby d0_18) rfl (flt (by decide : ¬ ((3 : Int32) < (3 : Int32)))).2.1 (by decide) (by decide) ?_
    refine XS.aloadN X43.here hx rfl (hb hby d0_36) rfl rfl ?_
    show Steps p.tables e below (T43.setTop (mkF m 37 #[.val (.ref o1), .val (.ref b8), .val (.int 3)] [(.ref b8)])) _
    exact retOut X43 hx hret rfl (Or.inr (Or.inr (Or.inr (Or.inr ⟨rfl, rfl, rfl⟩)))) (hb hby d0_37) hr
  ·
    show Q31 Z w1 w2 o1 p3 p4 p5 kc2 h0 n0 _ T43.heap _
    rw [e43]
    exact ⟨b8, k8, v13, v26, v37, rfl, N43, KL, (Nat.le_trans M2 sz_b8), OV8, V43, f46, f16, f17, f29, f30, f40, f41⟩
theorem ef32 (m : MethodId) (x0 : Addr) (x1 : Addr) : entryFrame m #[(.ref x0), (.ref x1)] 2 = mkF m 0 #[.val (.ref x0), .val (.ref x1)] [] := by first | (simp [entryFrame, mkF, argsToLocals, Value.category]; done) | rfl
def Q32 (Z : State) (o1 : Addr) (kc3 : ClassId) (u2 : Addr) (h0 : Heap) (n0 : Nat) (v : Option Value) (h : Heap) (L : List Loc) : Prop :=
  (v = some (.ref o1) ∧ Fr n0 L ∧ h = h0)
set_option maxRecDepth 65536 in
set_option maxHeartbeats 40000000 in
theorem rm32 (l : Launch) (Z : State) (a0 : Array Value) (hw : ∀ d ∈ tables_1, d.before a0 Z = true) (ws : List Jvm.Cond) (o1 : Addr) (kc3 : ClassId) (u2 : Addr) (h0 : Heap) (n0 : Nat) (O0 : Old Z n0 h0) (g_o1 : n0 ≤ o1) (Ov_kc3 : Ovr Z kc3 "java/lang/Boolean") :
    MetFree l yn0 (head1 (Jvm.Cond.code yn0 jdk_31_method_11_code 2 (some (.object "java/lang/Object")) :: ws) ({ frames := 0, cells := 0, slots := 0, locals := 0 } : Room)) (fun a U => a = #[(.ref o1), (.ref u2)] ∧ Z.Warmed39 U.vm ∧ U.heap = h0) (fun _ _ _ _ _ => True) (fun _ U o U' => ∃ v L, o = .returned v ∧ Q32 Z o1 kc3 u2 h0 n0 v U'.heap L ∧ FrameEnd U o U' L ({ frames := 0, cells := 0, slots := 0, locals := 0 } : Room).cells ({ frames := 0, cells := 0, slots := 0, locals := 0 } : Room).slots) := by
  refine MetFree.of_bodySF (plainFor_of_name pn0) hisR ?_
  intro p e s m args below meth c s₁ Bd hml0 hP hK
  obtain ⟨rfl, hZ, hh⟩ := hP
  have hx := Bd.exec
  have hby := Bd.bytes
  have hml : c.maxLocals = 2 := hml0
  have hown : s.vm.findClass "java/util/Objects" = some m.cls := findClass_of_methodNamed Bd.named
  have hnm := (name_of_methodNamed Bd.named Bd.method).1
  have hret := Bd.returns
  have hlk : meth.locks = false := BodyLoose.notSynchronized Bd
  have X0 : Stand p l e ({ frames := 0, cells := 0, slots := 0, locals := 0 } : Room) s m #[(.ref o1), (.ref u2)] below meth c s₁ [] 0 0 := Stand.of_body Bd
  have e0 : s₁.heap = h0 := by rw [← hh, Bd.state]; rfl
  have N0 := Fr.nil n0
  have pre0 : ∀ t, Steps p.tables e below (s₁.setTop (mkF m 0 #[.val (.ref o1), .val (.ref u2)] [])) t → Steps p.tables e below (s₁.setTop (entryFrame m #[(.ref o1), (.ref u2)] 2)) t := fun t k => castTop (ef32 m o1 u2) k
  obtain ⟨fs, hr, hrun, hended, hW, hsame⟩ := X0.leave (v := some (.ref o1)) (fun h => by rw [hret] at h; cases h)
  refine ⟨_, _, pre0 _ ?_, hrun, hended, _, _, rfl, ?_, ⟨_, rfl⟩, hW, hsame.mono (by decide) (by decide)⟩
  ·
    show Steps p.tables e below (s₁.setTop (mkF m 0 #[.val (.ref o1), .val (.ref u2)] [])) _
    refine XS.aloadN X0.here hx rfl (hb hby d1_0) rfl rfl ?_
    refine XS.ifnonnullYes X0.here hx rfl (pc0 := 1) (pc' := 13) rfl (hb hby d1_1) rfl (by decide) (by decide) ?_
    refine XS.aloadN X0.here hx rfl (hb hby d1_13) rfl rfl ?_
    show Steps p.tables e below (s₁.setTop (mkF m 14 #[.val (.ref o1), .val (.ref u2)] [(.ref o1)])) _
    exact retOut X0 hx hret rfl (Or.inr (Or.inr (Or.inr (Or.inr ⟨rfl, rfl, rfl⟩)))) (hb hby d1_14) hr
  ·
    show Q32 Z o1 kc3 u2 h0 n0 _ s₁.heap _
    rw [e0]
    exact ⟨rfl, N0, rfl⟩
theorem ef33 (m : MethodId) (x0 : Addr) (x1 : Int32) : entryFrame m #[(.ref x0), (.int x1)] 5 = mkF m 0 #[.val (.ref x0), .val (.int x1), .unset, .unset, .unset] [] := by first | (simp [entryFrame, mkF, argsToLocals, Value.category]; done) | rfl
def Q33 (Z : State) (o1 : Addr) (kc2 : ClassId) (p6 : Int32) (p7 : Int32) (p8 : Int32) (v3 : Addr) (v4 : Addr) (v5 : Addr) (h0 : Heap) (n0 : Nat) (v : Option Value) (h : Heap) (L : List Loc) : Prop :=
  (∃ b8 : Addr, ∃ k8 : ClassId, v = some (.ref b8) ∧ Fr n0 L ∧ Keep h0 h [] ∧ h0.size ≤ b8 ∧ (Arv Z h b8 k8 .boolean (3 : Int32) [(.int p6), (.int p7), (.int p8)] (.int 0)) ∧ (Exa Z h b8 "[Z"))
set_option maxRecDepth 65536 in
set_option maxHeartbeats 40000000 in
theorem rm33 (l : Launch) (Z : State) (a0 : Array Value) (hw : ∀ d ∈ tables_1, d.before a0 Z = true) (ws : List Jvm.Cond) (o1 : Addr) (kc2 : ClassId) (p6 : Int32) (p7 : Int32) (p8 : Int32) (v3 : Addr) (v4 : Addr) (v5 : Addr) (h0 : Heap) (n0 : Nat) (O0 : Old Z n0 h0) (g_o1 : n0 ≤ o1) (Ov_kc2 : Ovr Z kc2 "java/lang/Boolean") (bd_p6 : 0 ≤ p6.toInt ∧ p6.toInt ≤ 1) (bd_p7 : 0 ≤ p7.toInt ∧ p7.toInt ≤ 1) (bd_p8 : 0 ≤ p8.toInt ∧ p8.toInt ≤ 1) (P0 : Arv Z h0 o1 kc2 (.object "java/lang/Boolean") (3 : Int32) [(.ref v3), (.ref v4), (.ref v5)] .null) (P2 : Exa Z Z.heap v3 "java/lang/Boolean") (P3 : Fld Z Z.heap v3 "java/lang/Boolean" "value" "Z" (.int p6)) (P4 : Exa Z Z.heap v4 "java/lang/Boolean") (P5 : Fld Z Z.heap v4 "java/lang/Boolean" "value" "Z" (.int p7)) (P6 : Exa Z Z.heap v5 "java/lang/Boolean") (P7 : Fld Z Z.heap v5 "java/lang/Boolean" "value" "Z" (.int p8)) :
    MetFree l yn2 (head1 (Jvm.Cond.code yn2 prog_11_method_4_code 5 (some (.array .boolean)) :: ws) ({ frames := 1, cells := 3, slots := 59, locals := 14 } : Room)) (fun a U => a = #[(.ref o1), (.int 0)] ∧ Z.Warmed39 U.vm ∧ U.heap = h0) (fun _ _ _ _ _ => True) (fun _ U o U' => ∃ v L, o = .returned v ∧ Q33 Z o1 kc2 p6 p7 p8 v3 v4 v5 h0 n0 v U'.heap L ∧ ReturnedEndW U o U' L ({ frames := 1, cells := 3, slots := 59, locals := 14 } : Room).cells ({ frames := 1, cells := 3, slots := 59, locals := 14 } : Room).slots) := by
  refine MetFree.of_bodySF (plainFor_of_name pn1) hisR ?_
  intro p e s m args below meth c s₁ Bd hml0 hP hK
  obtain ⟨rfl, hZ, hh⟩ := hP
  have hx := Bd.exec
  have hby := Bd.bytes
  have hml : c.maxLocals = 5 := hml0
  have hown : s.vm.findClass "com/example/castless/castless/PrimitiveArrays" = some m.cls := findClass_of_methodNamed Bd.named
  have hnm := (name_of_methodNamed Bd.named Bd.method).1
  have hret := Bd.returns
  have hlk : meth.locks = false := BodyLoose.notSynchronized Bd
  have X0 : Stand p l e ({ frames := 1, cells := 3, slots := 59, locals := 14 } : Room) s m #[(.ref o1), (.int 0)] below meth c s₁ [] 0 0 := Stand.of_body Bd
  have e0 : s₁.heap = h0 := by rw [← hh, Bd.state]; rfl
  have N0 := Fr.nil n0
  have pre0 : ∀ t, Steps p.tables e below (s₁.setTop (mkF m 0 #[.val (.ref o1), .val (.int 0), .unset, .unset, .unset] [])) t → Steps p.tables e below (s₁.setTop (entryFrame m #[(.ref o1), (.int 0)] 5)) t := fun t k => castTop (ef33 m o1 (0 : Int32)) k
  have pre1 : ∀ t, Steps p.tables e below (s₁.setTop (mkF m 1 #[.val (.ref o1), .val (.int 0), .unset, .unset, .unset] [(.ref o1)])) t → Steps p.tables e below (s₁.setTop (entryFrame m #[(.ref o1), (.int 0)] 5)) t := fun t k => by
    refine pre0 _ ?_
    show Steps p.tables e below (s₁.setTop (mkF m 0 #[.val (.ref o1), .val (.int 0), .unset, .unset, .unset] [])) _
    refine XS.aloadN X0.here hx rfl (hb hby d2_0) rfl rfl ?_
    exact k
  obtain ⟨sx2, T2, h2, ks2, X2, e2, E2, hS2, hk2, hZ, hown, st2⟩ := ldcS (s := s) (vm0 := s.vm) X0 hx hZ hown (own_w hw 6 rfl) (own_sa hw) e0 ((State.WarmedH.refl s).since h0.size) (Nat.le_refl _) (g := (mkF m 1 #[.val (.ref o1), .val (.int 0), .unset, .unset, .unset] [(.ref o1)])) rfl (hb hby d2_1) (n := 52) (by decide) (by decide) (by decide) (by decide)
  have M2 : h0.size ≤ h2.size := Nat.le_trans (Nat.le_refl _) E2.1
  have O2 := Old.ext O0 E2
  obtain ⟨_, T3, L3, X3, hQ3, st3⟩ := own_cs X2 hx hZ hown (y := yn0) (own_w hw 14 rfl) (own_w hw 15 rfl) (own_w hw 17 rfl) (own_w hw 16 rfl) e2 (argsL := [(.ref o1), (.ref sx2)]) (rest := []) (rm32 l Z a0 hw [] o1 kc2 sx2 h2 n0 O2 g_o1 Ov_kc2) (g := (mkF m 3 #[.val (.ref o1), .val (.int 0), .unset, .unset, .unset] [(.ref sx2), (.ref o1)])) rfl (by rw [hml]; rfl) rfl (hb hby d2_3) (lenOf pd0 rfl) (W := 0) (c1 := 2) (s1 := 56)
  obtain ⟨rfl, Nq4, e5⟩ := hQ3
  have N3 := Fr.app N0 Nq4
  have f6 := (P0.ext E2)
  obtain ⟨cl7, Ar7, qa7, Sa7, Na7, Ha7, Ga7⟩ := id (f6)
  obtain ⟨T8, h8, k8, X8, e8, E8, A8, EX8, st8⟩ := newPE X3 hx hZ (own_w hw 1 rfl) e5 (g := (mkF m 9 #[.val (.ref o1), .val (.int 0), .unset, .unset, .unset] [(.int 3)])) rfl (hb hby d2_9) rfl (by decide) (cap := 3) (by decide) (by decide) (by decide) (by decide) (ad := "[Z") (by decide)
  obtain ⟨b8, g8⟩ : ∃ z, z = h2.size := ⟨_, rfl⟩
  rw [← g8] at A8 EX8 st8
  have hkk8 := Nat.le_trans hk2 E8.1
  have M8 : h0.size ≤ h8.size := Nat.le_trans M2 E8.1
  have O8 := Old.ext O2 E8
  have sz_b8 : h2.size ≤ b8 := Nat.le_of_eq g8.symm
  have g_b8 : n0 ≤ b8 := Nat.le_trans (own_oz O0) (Nat.le_trans M2 sz_b8)
  have V8_0 := Arv.new A8 (by decide)
  have V8 : Arv Z h8 b8 k8 .boolean (3 : Int32) [(.int 0), (.int 0), (.int 0)] (.int 0) := V8_0.pad (pad_rep [] (.int 0) 3)
  have f9 := (f6.ext E8)
  obtain ⟨cl10, Ar10, qa10, Sa10, Na10, Ha10, Ga10⟩ := id (f9)
  obtain ⟨cl11, Ar11, qa11, Sa11, Na11, Ha11, Ga11⟩ := id (f9)
  have hin11 : ¬ ((0 : Int32) < 0 ∨ cl11.slots.size ≤ ((0 : Int32)).toNatClampNeg) := inb_of Sa11 ⟨by decide, by decide⟩
  have hat11 : cl11.slots[((0 : Int32)).toNatClampNeg]? = some (.ref v3) := Has.at Ha11 hin11 rfl
  obtain ⟨_, T12, L12, X12, hQ12, st12⟩ := own_vb X8 hx hZ hown (y := yn5) (own_w hw 29 rfl) (own_w hw 30 rfl) (own_w hw 32 rfl) (own_w hw 31 rfl) (own_w hw 33 rfl) (own_w hw 22 rfl) e8 (P2.ext O8.2) (argsL := []) (rest := [(.int 0), (.ref b8)]) (rm14 l Z a0 hw [] p6 v3 h8 n0 O8 (by have q0 := bd_p6; omega) P3) (g := (mkF m 38 #[.val (.ref o1), .val (.int 0), .val (.ref b8), .val (.int 0), .val (.ref v3)] [(.ref v3), (.int 0), (.ref b8)])) rfl (by rw [hml]; rfl) rfl (hb hby d2_38) (lenOf pd5 rfl) (W := 2) (c1 := 3) (s1 := 59)
  obtain ⟨rfl, Nq13, e14⟩ := hQ12
  have N12 := Fr.app N3 Nq13
  obtain ⟨cl15, Ar15, qa15, Sa15, Na15, Ha15, Ga15⟩ := id (V8)
  have hin15 : ¬ ((0 : Int32) < 0 ∨ cl15.slots.size ≤ ((0 : Int32)).toNatClampNeg) := inb_of Sa15 ⟨by decide, by decide⟩
  have hbz16 : 0 ≤ p6.toInt ∧ p6.toInt ≤ 1 := by have q0 := bd_p6; omega
  obtain ⟨T17, h17, X17, e17, W17, st17⟩ := stZ X12 hx hZ e14 Ar15 (j := (0 : Int32)) hin15 (g := (mkF m 41 #[.val (.ref o1), .val (.int 0), .val (.ref b8), .val (.int 0), .val (.ref v3)] [(.int p6), (.int 0), (.ref b8)])) rfl rfl (hb hby d2_41)
  rw [own_nz hbz16] at W17
  have V17 : Arv Z h17 b8 k8 .boolean (3 : Int32) [(.int p6), (.int 0), (.int 0)] (.int 0) := Arv.set Ar15 qa15 Sa15 Na15 Ha15 Ga15 (own_fz hbz16) W17 0 rfl (Nat.le_of_ble_eq_true rfl)
  have N17 := Fr.snoc X17 N12 g_b8
  have hkk17 := Nat.le_trans hkk8 (Nat.le_of_eq W17.size.symm)
  have M17 : h0.size ≤ h17.size := Nat.le_trans M8 (Nat.le_of_eq W17.size.symm)
  have O17 := Old.wr O8 W17 g_b8
  have lt18 : o1 < h2.size := (Nat.lt_of_lt_of_le P0.lt E2.1)
  have ne19 : o1 ≠ b8 := Nat.ne_of_lt (Nat.lt_of_lt_of_le lt18 sz_b8)
  have f20 := (f9.other W17 ne19)
  obtain ⟨cl21, Ar21, qa21, Sa21, Na21, Ha21, Ga21⟩ := id (f20)
  obtain ⟨cl22, Ar22, qa22, Sa22, Na22, Ha22, Ga22⟩ := id (f20)
  have hin22 : ¬ ((1 : Int32) < 0 ∨ cl22.slots.size ≤ ((1 : Int32)).toNatClampNeg) := inb_of Sa22 ⟨by decide, by decide⟩
  have hat22 : cl22.slots[((1 : Int32)).toNatClampNeg]? = some (.ref v4) := Has.at Ha22 hin22 rfl
  obtain ⟨_, T23, L23, X23, hQ23, st23⟩ := own_vb X17 hx hZ hown (y := yn5) (own_w hw 29 rfl) (own_w hw 30 rfl) (own_w hw 32 rfl) (own_w hw 31 rfl) (own_w hw 33 rfl) (own_w hw 22 rfl) e17 (P4.ext O17.2) (argsL := []) (rest := [(.int 1), (.ref b8)]) (rm14 l Z a0 hw [] p7 v4 h17 n0 O17 (by have q0 := bd_p7; omega) P5) (g := (mkF m 38 #[.val (.ref o1), .val (.int 0), .val (.ref b8), .val (.int 1), .val (.ref v4)] [(.ref v4), (.int 1), (.ref b8)])) rfl (by rw [hml]; rfl) rfl (hb hby d2_38) (lenOf pd5 rfl) (W := 2) (c1 := 3) (s1 := 59)
  obtain ⟨rfl, Nq24, e25⟩ := hQ23
  have N23 := Fr.app N17 Nq24
  obtain ⟨cl26, Ar26, qa26, Sa26, Na26, Ha26, Ga26⟩ := id (V17)
  have hin26 : ¬ ((1 : Int32) < 0 ∨ cl26.slots.size ≤ ((1 : Int32)).toNatClampNeg) := inb_of Sa26 ⟨by decide, by decide⟩
  have hbz27 : 0 ≤ p7.toInt ∧ p7.toInt ≤ 1 := by have q0 := bd_p7; omega
  obtain ⟨T28, h28, X28, e28, W28, st28⟩ := stZ X23 hx hZ e25 Ar26 (j := (1 : Int32)) hin26 (g := (mkF m 41 #[.val (.ref o1), .val (.int 0), .val (.ref b8), .val (.int 1), .val (.ref v4)] [(.int p7), (.int 1), (.ref b8)])) rfl rfl (hb hby d2_41)
  rw [own_nz hbz27] at W28
  have V28 : Arv Z h28 b8 k8 .boolean (3 : Int32) [(.int p6), (.int p7), (.int 0)] (.int 0) := Arv.set Ar26 qa26 Sa26 Na26 Ha26 Ga26 (own_fz hbz27) W28 1 rfl (Nat.le_of_ble_eq_true rfl)
  have N28 := Fr.snoc X28 N23 g_b8
  have hkk28 := Nat.le_trans hkk17 (Nat.le_of_eq W28.size.symm)
  have M28 : h0.size ≤ h28.size := Nat.le_trans M17 (Nat.le_of_eq W28.size.symm)
  have O28 := Old.wr O17 W28 g_b8
  have f29 := (f20.other W28 ne19)
  obtain ⟨cl30, Ar30, qa30, Sa30, Na30, Ha30, Ga30⟩ := id (f29)
  obtain ⟨cl31, Ar31, qa31, Sa31, Na31, Ha31, Ga31⟩ := id (f29)
  have hin31 : ¬ ((2 : Int32) < 0 ∨ cl31.slots.size ≤ ((2 : Int32)).toNatClampNeg) := inb_of Sa31 ⟨by decide, by decide⟩
  have hat31 : cl31.slots[((2 : Int32)).toNatClampNeg]? = some (.ref v5) := Has.at Ha31 hin31 rfl
  obtain ⟨_, T32, L32, X32, hQ32, st32⟩ := own_vb X28 hx hZ hown (y := yn5) (own_w hw 29 rfl) (own_w hw 30 rfl) (own_w hw 32 rfl) (own_w hw 31 rfl) (own_w hw 33 rfl) (own_w hw 22 rfl) e28 (P6.ext O28.2) (argsL := []) (rest := [(.int 2), (.ref b8)]) (rm14 l Z a0 hw [] p8 v5 h28 n0 O28 (by have q0 := bd_p8; omega) P7) (g := (mkF m 38 #[.val (.ref o1), .val (.int 0), .val (.ref b8), .val (.int 2), .val (.ref v5)] [(.ref v5), (.int 2), (.ref b8)])) rfl (by rw [hml]; rfl) rfl (hb hby d2_38) (lenOf pd5 rfl) (W := 2) (c1 := 3) (s1 := 59)
  obtain ⟨rfl, Nq33, e34⟩ := hQ32
  have N32 := Fr.app N28 Nq33
  obtain ⟨cl35, Ar35, qa35, Sa35, Na35, Ha35, Ga35⟩ := id (V28)
  have hin35 : ¬ ((2 : Int32) < 0 ∨ cl35.slots.size ≤ ((2 : Int32)).toNatClampNeg) := inb_of Sa35 ⟨by decide, by decide⟩
  have hbz36 : 0 ≤ p8.toInt ∧ p8.toInt ≤ 1 := by have q0 := bd_p8; omega
  obtain ⟨T37, h37, X37, e37, W37, st37⟩ := stZ X32 hx hZ e34 Ar35 (j := (2 : Int32)) hin35 (g := (mkF m 41 #[.val (.ref o1), .val (.int 0), .val (.ref b8), .val (.int 2), .val (.ref v5)] [(.int p8), (.int 2), (.ref b8)])) rfl rfl (hb hby d2_41)
  rw [own_nz hbz36] at W37
  have V37 : Arv Z h37 b8 k8 .boolean (3 : Int32) [(.int p6), (.int p7), (.int p8)] (.int 0) := Arv.set Ar35 qa35 Sa35 Na35 Ha35 Ga35 (own_fz hbz36) W37 2 rfl (Nat.le_of_ble_eq_true rfl)
  have N37 := Fr.snoc X37 N32 g_b8
  have hkk37 := Nat.le_trans hkk28 (Nat.le_of_eq W37.size.symm)
  have M37 : h0.size ≤ h37.size := Nat.le_trans M28 (Nat.le_of_eq W37.size.symm)
  have O37 := Old.wr O28 W37 g_b8
  have f38 := (f29.other W37 ne19)
  obtain ⟨cl39, Ar39, qa39, Sa39, Na39, Ha39, Ga39⟩ := id (f38)
  obtain ⟨fs, hr, hrun, hended, hRE⟩ := X37.leaveW hS2 (by rw [e37]; exact hkk37) (v := some (.ref b8)) (fun h => by rw [hret] at h; cases h)
  have KL : Keep h0 h37 [] := ((((((Keep.refl h0 []).ext E2).ext E8).wr W17 (Or.inr (Nat.le_trans M2 sz_b8))).wr W28 (Or.inr (Nat.le_trans M2 sz_b8))).wr W37 (Or.inr (Nat.le_trans M2 sz_b8)))
  have f40 := (((EX8.wr W17).wr W28).wr W37)
  refine ⟨_, _, pre1 _ ?_, hrun, hended, _, _, rfl, ?_, hRE.1, hRE.2.1, hRE.2.2.1, hRE.2.2.2.mono (by decide) (by decide)⟩
  ·
    show Steps p.tables e below (s₁.setTop (mkF m 1 #[.val (.ref o1), .val (.int 0), .unset, .unset, .unset] [(.ref o1)])) _
    refine st2 _ ?_
    refine st3 _ ?_
    refine XS.pop X3.here hx rfl (hb hby d2_6) rfl rfl ?_
    refine XS.aloadN X3.here hx rfl (hb hby d2_7) rfl rfl ?_
    refine X3.arraylength hx (by rw [e5]; exact Ar7.1) (State.isArrayOf_alike hZ.alike Ar7.2.1) (g := (mkF m 8 #[.val (.ref o1), .val (.int 0), .unset, .unset, .unset] [(.ref o1)])) rfl rfl (hb hby d2_8) _ ?_
    rw [len_of Sa7 Na7]
    refine st8 _ ?_
    refine XS.astoreN X8.here hx rfl (hb hby d2_11) rfl rfl (l' := #[.val (.ref o1), .val (.int 0), .val (.ref b8), .unset, .unset]) rfl ?_
    refine XS.iconst X8.here hx rfl (hb hby d2_12) ?_
    refine XS.istoreN X8.here hx rfl (hb hby d2_13) rfl (l' := #[.val (.ref o1), .val (.int 0), .val (.ref b8), .val (.int 0), .unset]) rfl ?_
    refine XS.iloadN X8.here hx rfl (hb hby d2_14) rfl ?_
    refine XS.aloadN X8.here hx rfl (hb hby d2_15) rfl rfl ?_
    refine X8.arraylength hx (by rw [e8]; exact Ar10.1) (State.isArrayOf_alike hZ.alike Ar10.2.1) (g := (mkF m 16 #[.val (.ref o1), .val (.int 0), .val (.ref b8), .val (.int 0), .unset] [(.ref o1), (.int 0)])) rfl rfl (hb hby d2_16) _ ?_
    rw [len_of Sa10 Na10]
    refine XS.icmpNo X8.here hx rfl (hb hby d2_17) rfl (tlt (by decide : (0 : Int32) < (3 : Int32))).2.1 ?_
    refine XS.aloadN X8.here hx rfl (hb hby d2_20) rfl rfl ?_
    refine XS.iloadN X8.here hx rfl (hb hby d2_21) rfl ?_
    refine X8.aaload hx (j := (0 : Int32)) (v := (.ref v3)) (by rw [e8]; exact Ar11.1) (State.isArrayOf_alike hZ.alike Ar11.2.1) rfl Ar11.2.2 hin11 hat11 (g := (mkF m 22 #[.val (.ref o1), .val (.int 0), .val (.ref b8), .val (.int 0), .unset] [(.int 0), (.ref o1)])) rfl rfl (hb hby d2_22) _ ?_
    refine XS.astore X8.here hx rfl (hb hby d2_23) rfl rfl (l' := #[.val (.ref o1), .val (.int 0), .val (.ref b8), .val (.int 0), .val (.ref v3)]) rfl ?_
    refine XS.aloadN X8.here hx rfl (hb hby d2_25) rfl rfl ?_
    refine XS.iloadN X8.here hx rfl (hb hby d2_26) rfl ?_
    refine XS.aload X8.here hx rfl (hb hby d2_27) rfl rfl ?_
    refine XS.ifnonnullYes X8.here hx rfl (pc0 := 29) (pc' := 36) rfl (hb hby d2_29) rfl (by decide) (by decide) ?_
    refine XS.aload X8.here hx rfl (hb hby d2_36) rfl rfl ?_
    refine st12 _ ?_
    refine st17 _ ?_
    refine XS.iinc X17.here hx rfl (hb hby d2_42) rfl (l' := #[.val (.ref o1), .val (.int 0), .val (.ref b8), .val (.int 1), .val (.ref v3)]) rfl ?_
    refine XS.goto X17.here hx rfl (pc0 := 45) (pc' := 14) rfl (hb hby d2_45) (by decide) (by decide) ?_
    refine XS.iloadN X17.here hx rfl (hb hby d2_14) rfl ?_
    refine XS.aloadN X17.here hx rfl (hb hby d2_15) rfl rfl ?_
    refine X17.arraylength hx (by rw [e17]; exact Ar21.1) (State.isArrayOf_alike hZ.alike Ar21.2.1) (g := (mkF m 16 #[.val (.ref o1), .val (.int 0), .val (.ref b8), .val (.int 1), .val (.ref v3)] [(.ref o1), (.int 1)])) rfl rfl (hb hby d2_16) _ ?_
    rw [len_of Sa21 Na21]
    refine XS.icmpNo X17.here hx rfl (hb hby d2_17) rfl (tlt (by decide : (1 : Int32) < (3 : Int32))).2.1 ?_
    refine XS.aloadN X17.here hx rfl (hb hby d2_20) rfl rfl ?_
    refine XS.iloadN X17.here hx rfl (hb hby d2_21) rfl ?_
    refine X17.aaload hx (j := (1 : Int32)) (v := (.ref v4)) (by rw [e17]; exact Ar22.1) (State.isArrayOf_alike hZ.alike Ar22.2.1) rfl Ar22.2.2 hin22 hat22 (g := (mkF m 22 #[.val (.ref o1), .val (.int 0), .val (.ref b8), .val (.int 1), .val (.ref v3)] [(.int 1), (.ref o1)])) rfl rfl (hb hby d2_22) _ ?_
    refine XS.astore X17.here hx rfl (hb hby d2_23) rfl rfl (l' := #[.val (.ref o1), .val (.int 0), .val (.ref b8), .val (.int 1), .val (.ref v4)]) rfl ?_
    refine XS.aloadN X17.here hx rfl (hb hby d2_25) rfl rfl ?_
    refine XS.iloadN X17.here hx rfl (hb hby d2_26) rfl ?_
    refine XS.aload X17.here hx rfl (hb hby d2_27) rfl rfl ?_
    refine XS.ifnonnullYes X17.here hx rfl (pc0 := 29) (pc' := 36) rfl (hb hby d2_29) rfl (by decide) (by decide) ?_
    refine XS.aload X17.here hx rfl (hb hby d2_36) rfl rfl ?_
    show Steps p.tables e below (T17.setTop (mkF m 38 #[.val (.ref o1), .val (.int 0), .val (.ref b8), .val (.int 1), .val (.ref v4)] [(.ref v4), (.int 1), (.ref b8)])) _
    refine st23 _ ?_
    refine st28 _ ?_
    refine XS.iinc X28.here hx rfl (hb hby d2_42) rfl (l' := #[.val (.ref o1), .val (.int 0), .val (.ref b8), .val (.int 2), .val (.ref v4)]) rfl ?_
    refine XS.goto X28.here hx rfl (pc0 := 45) (pc' := 14) rfl (hb hby d2_45) (by decide) (by decide) ?_
    refine XS.iloadN X28.here hx rfl (hb hby d2_14) rfl ?_
    refine XS.aloadN X28.here hx rfl (hb hby d2_15) rfl rfl ?_
    refine X28.arraylength hx (by rw [e28]; exact Ar30.1) (State.isArrayOf_alike hZ.alike Ar30.2.1) (g := (mkF m 16 #[.val (.ref o1), .val (.int 0), .val (.ref b8), .val (.int 2), .val (.ref v4)] [(.ref o1), (.int 2)])) rfl rfl (hb hby d2_16) _ ?_
    rw [len_of Sa30 Na30]
    refine XS.icmpNo X28.here hx rfl (hb hby d2_17) rfl (tlt (by decide : (2 : Int32) < (3 : Int32))).2.1 ?_
    refine XS.aloadN X28.here hx rfl (hb hby d2_20) rfl rfl ?_
    refine XS.iloadN X28.here hx rfl (hb hby d2_21) rfl ?_
    refine X28.aaload hx (j := (2 : Int32)) (v := (.ref v5)) (by rw [e28]; exact Ar31.1) (State.isArrayOf_alike hZ.alike Ar31.2.1) rfl Ar31.2.2 hin31 hat31 (g := (mkF m 22 #[.val (.ref o1), .val (.int 0), .val (.ref b8), .val (.int 2), .val (.ref v4)] [(.int 2), (.ref o1)])) rfl rfl (hb hby d2_22) _ ?_
    refine XS.astore X28.here hx rfl (hb hby d2_23) rfl rfl (l' := #[.val (.ref o1), .val (.int 0), .val (.ref b8), .val (.int 2), .val (.ref v5)]) rfl ?_
    refine XS.aloadN X28.here hx rfl (hb hby d2_25) rfl rfl ?_
    refine XS.iloadN X28.here hx rfl (hb hby d2_26) rfl ?_
    refine XS.aload X28.here hx rfl (hb hby d2_27) rfl rfl ?_
    refine XS.ifnonnullYes X28.here hx rfl (pc0 := 29) (pc' := 36) rfl (hb hby d2_29) rfl (by decide) (by decide) ?_
    refine XS.aload X28.here hx rfl (hb hby d2_36) rfl rfl ?_
    refine st32 _ ?_
    refine st37 _ ?_
    refine XS.iinc X37.here hx rfl (hb hby d2_42) rfl (l' := #[.val (.ref o1), .val (.int 0), .val (.ref b8), .val (.int 3), .val (.ref v5)]) rfl ?_
    refine XS.goto X37.here hx rfl (pc0 := 45) (pc' := 14) rfl (hb hby d2_45) (by decide) (by decide) ?_
    refine XS.iloadN X37.here hx rfl (hb hby d2_14) rfl ?_
    refine XS.aloadN X37.here hx rfl (hb hby d2_15) rfl rfl ?_
    refine X37.arraylength hx (by rw [e37]; exact Ar39.1) (State.isArrayOf_alike hZ.alike Ar39.2.1) (g := (mkF m 16 #[.val (.ref o1), .val (.int 0), .val (.ref b8), .val (.int 3), .val (.ref v5)] [(.ref o1), (.int 3)])) rfl rfl (hb hby d2_16) _ ?_
    rw [len_of Sa39 Na39]
    refine XS.icmpYes X37.here hx rfl (pc0 := 17) (pc' := 48) rfl (hb hby d2_17) rfl (flt (by decide : ¬ ((3 : Int32) < (3 : Int32)))).2.1 (by decide) (by decide) ?_
    refine XS.aloadN X37.here hx rfl (hb hby d2_48) rfl rfl ?_
    show Steps p.tables e below (T37.setTop (mkF m 49 #[.val (.ref o1), .val (.int 0), .val (.ref b8), .val (.int 3), .val (.ref v5)] [(.ref b8)])) _
    exact retOut X37 hx hret rfl (Or.inr (Or.inr (Or.inr (Or.inr ⟨rfl, rfl, rfl⟩)))) (hb hby d2_49) hr
  ·
    show Q33 Z o1 kc2 p6 p7 p8 v3 v4 v5 h0 n0 _ T37.heap _
    rw [e37]
    exact ⟨b8, k8, rfl, N37, KL, (Nat.le_trans M2 sz_b8), V37, f40⟩
theorem ef34 (m : MethodId) (x0 : Addr) (x1 : Int32) : entryFrame m #[(.ref x0), (.int x1)] 5 = mkF m 0 #[.val (.ref x0), .val (.int x1), .unset, .unset, .unset] [] := by first | (simp [entryFrame, mkF, argsToLocals, Value.category]; done) | rfl
def Q34 (Z : State) (o1 : Addr) (kc2 : ClassId) (p6 : Int32) (p7 : Int32) (p8 : Int32) (v3 : Addr) (v4 : Addr) (v5 : Addr) (h0 : Heap) (n0 : Nat) (v : Option Value) (h : Heap) (L : List Loc) : Prop :=
  (∃ b8 : Addr, ∃ k8 : ClassId, v = some (.ref b8) ∧ Fr n0 L ∧ Keep h0 h [] ∧ h0.size ≤ b8 ∧ (Arv Z h b8 k8 .boolean (3 : Int32) [(.int p6), (.int p7), (.int p8)] (.int 0)) ∧ (Exa Z h b8 "[Z"))
set_option maxRecDepth 65536 in
set_option maxHeartbeats 40000000 in
theorem rm34 (l : Launch) (Z : State) (a0 : Array Value) (hw : ∀ d ∈ tables_1, d.before a0 Z = true) (ws : List Jvm.Cond) (o1 : Addr) (kc2 : ClassId) (p6 : Int32) (p7 : Int32) (p8 : Int32) (v3 : Addr) (v4 : Addr) (v5 : Addr) (h0 : Heap) (n0 : Nat) (O0 : Old Z n0 h0) (g_o1 : n0 ≤ o1) (Ov_kc2 : Ovr Z kc2 "java/lang/Boolean") (bd_p6 : 0 ≤ p6.toInt ∧ p6.toInt ≤ 1) (bd_p7 : 0 ≤ p7.toInt ∧ p7.toInt ≤ 1) (bd_p8 : 0 ≤ p8.toInt ∧ p8.toInt ≤ 1) (P0 : Arv Z h0 o1 kc2 (.object "java/lang/Boolean") (3 : Int32) [(.ref v3), (.ref v4), (.ref v5)] .null) (P2 : Exa Z Z.heap v3 "java/lang/Boolean") (P3 : Fld Z Z.heap v3 "java/lang/Boolean" "value" "Z" (.int p6)) (P4 : Exa Z Z.heap v4 "java/lang/Boolean") (P5 : Fld Z Z.heap v4 "java/lang/Boolean" "value" "Z" (.int p7)) (P6 : Exa Z Z.heap v5 "java/lang/Boolean") (P7 : Fld Z Z.heap v5 "java/lang/Boolean" "value" "Z" (.int p8)) :
    MetFree l yn2 (head1 (Jvm.Cond.code yn2 prog_11_method_4_code 5 (some (.array .boolean)) :: ws) ({ frames := 1, cells := 3, slots := 59, locals := 14 } : Room)) (fun a U => a = #[(.ref o1), (.int 1)] ∧ Z.Warmed39 U.vm ∧ U.heap = h0) (fun _ _ _ _ _ => True) (fun _ U o U' => ∃ v L, o = .returned v ∧ Q34 Z o1 kc2 p6 p7 p8 v3 v4 v5 h0 n0 v U'.heap L ∧ ReturnedEndW U o U' L ({ frames := 1, cells := 3, slots := 59, locals := 14 } : Room).cells ({ frames := 1, cells := 3, slots := 59, locals := 14 } : Room).slots) := by
  refine MetFree.of_bodySF (plainFor_of_name pn1) hisR ?_
  intro p e s m args below meth c s₁ Bd hml0 hP hK
  obtain ⟨rfl, hZ, hh⟩ := hP
  have hx := Bd.exec
  have hby := Bd.bytes
  have hml : c.maxLocals = 5 := hml0
  have hown : s.vm.findClass "com/example/castless/castless/PrimitiveArrays" = some m.cls := findClass_of_methodNamed Bd.named
  have hnm := (name_of_methodNamed Bd.named Bd.method).1
  have hret := Bd.returns
  have hlk : meth.locks = false := BodyLoose.notSynchronized Bd
  have X0 : Stand p l e ({ frames := 1, cells := 3, slots := 59, locals := 14 } : Room) s m #[(.ref o1), (.int 1)] below meth c s₁ [] 0 0 := Stand.of_body Bd
  have e0 : s₁.heap = h0 := by rw [← hh, Bd.state]; rfl
  have N0 := Fr.nil n0
  have pre0 : ∀ t, Steps p.tables e below (s₁.setTop (mkF m 0 #[.val (.ref o1), .val (.int 1), .unset, .unset, .unset] [])) t → Steps p.tables e below (s₁.setTop (entryFrame m #[(.ref o1), (.int 1)] 5)) t := fun t k => castTop (ef34 m o1 (1 : Int32)) k
  have pre1 : ∀ t, Steps p.tables e below (s₁.setTop (mkF m 1 #[.val (.ref o1), .val (.int 1), .unset, .unset, .unset] [(.ref o1)])) t → Steps p.tables e below (s₁.setTop (entryFrame m #[(.ref o1), (.int 1)] 5)) t := fun t k => by
    refine pre0 _ ?_
    show Steps p.tables e below (s₁.setTop (mkF m 0 #[.val (.ref o1), .val (.int 1), .unset, .unset, .unset] [])) _
    refine XS.aloadN X0.here hx rfl (hb hby d2_0) rfl rfl ?_
    exact k
  obtain ⟨sx2, T2, h2, ks2, X2, e2, E2, hS2, hk2, hZ, hown, st2⟩ := ldcS (s := s) (vm0 := s.vm) X0 hx hZ hown (own_w hw 6 rfl) (own_sa hw) e0 ((State.WarmedH.refl s).since h0.size) (Nat.le_refl _) (g := (mkF m 1 #[.val (.ref o1), .val (.int 1), .unset, .unset, .unset] [(.ref o1)])) rfl (hb hby d2_1) (n := 52) (by decide) (by decide) (by decide) (by decide)
  have M2 : h0.size ≤ h2.size := Nat.le_trans (Nat.le_refl _) E2.1
  have O2 := Old.ext O0 E2
  obtain ⟨_, T3, L3, X3, hQ3, st3⟩ := own_cs X2 hx hZ hown (y := yn0) (own_w hw 14 rfl) (own_w hw 15 rfl) (own_w hw 17 rfl) (own_w hw 16 rfl) e2 (argsL := [(.ref o1), (.ref sx2)]) (rest := []) (rm32 l Z a0 hw [] o1 kc2 sx2 h2 n0 O2 g_o1 Ov_kc2) (g := (mkF m 3 #[.val (.ref o1), .val (.int 1), .unset, .unset, .unset] [(.ref sx2), (.ref o1)])) rfl (by rw [hml]; rfl) rfl (hb hby d2_3) (lenOf pd0 rfl) (W := 0) (c1 := 2) (s1 := 56)
  obtain ⟨rfl, Nq4, e5⟩ := hQ3
  have N3 := Fr.app N0 Nq4
  have f6 := (P0.ext E2)
  obtain ⟨cl7, Ar7, qa7, Sa7, Na7, Ha7, Ga7⟩ := id (f6)
  obtain ⟨T8, h8, k8, X8, e8, E8, A8, EX8, st8⟩ := newPE X3 hx hZ (own_w hw 1 rfl) e5 (g := (mkF m 9 #[.val (.ref o1), .val (.int 1), .unset, .unset, .unset] [(.int 3)])) rfl (hb hby d2_9) rfl (by decide) (cap := 3) (by decide) (by decide) (by decide) (by decide) (ad := "[Z") (by decide)
  obtain ⟨b8, g8⟩ : ∃ z, z = h2.size := ⟨_, rfl⟩
  rw [← g8] at A8 EX8 st8
  have hkk8 := Nat.le_trans hk2 E8.1
  have M8 : h0.size ≤ h8.size := Nat.le_trans M2 E8.1
  have O8 := Old.ext O2 E8
  have sz_b8 : h2.size ≤ b8 := Nat.le_of_eq g8.symm
  have g_b8 : n0 ≤ b8 := Nat.le_trans (own_oz O0) (Nat.le_trans M2 sz_b8)
  have V8_0 := Arv.new A8 (by decide)
  have V8 : Arv Z h8 b8 k8 .boolean (3 : Int32) [(.int 0), (.int 0), (.int 0)] (.int 0) := V8_0.pad (pad_rep [] (.int 0) 3)
  have f9 := (f6.ext E8)
  obtain ⟨cl10, Ar10, qa10, Sa10, Na10, Ha10, Ga10⟩ := id (f9)
  obtain ⟨cl11, Ar11, qa11, Sa11, Na11, Ha11, Ga11⟩ := id (f9)
  have hin11 : ¬ ((0 : Int32) < 0 ∨ cl11.slots.size ≤ ((0 : Int32)).toNatClampNeg) := inb_of Sa11 ⟨by decide, by decide⟩
  have hat11 : cl11.slots[((0 : Int32)).toNatClampNeg]? = some (.ref v3) := Has.at Ha11 hin11 rfl
  obtain ⟨_, T12, L12, X12, hQ12, st12⟩ := own_vb X8 hx hZ hown (y := yn5) (own_w hw 29 rfl) (own_w hw 30 rfl) (own_w hw 32 rfl) (own_w hw 31 rfl) (own_w hw 33 rfl) (own_w hw 22 rfl) e8 (P2.ext O8.2) (argsL := []) (rest := [(.int 0), (.ref b8)]) (rm14 l Z a0 hw [] p6 v3 h8 n0 O8 (by have q0 := bd_p6; omega) P3) (g := (mkF m 38 #[.val (.ref o1), .val (.int 1), .val (.ref b8), .val (.int 0), .val (.ref v3)] [(.ref v3), (.int 0), (.ref b8)])) rfl (by rw [hml]; rfl) rfl (hb hby d2_38) (lenOf pd5 rfl) (W := 2) (c1 := 3) (s1 := 59)
  obtain ⟨rfl, Nq13, e14⟩ := hQ12
  have N12 := Fr.app N3 Nq13
  obtain ⟨cl15, Ar15, qa15, Sa15, Na15, Ha15, Ga15⟩ := id (V8)
  have hin15 : ¬ ((0 : Int32) < 0 ∨ cl15.slots.size ≤ ((0 : Int32)).toNatClampNeg) := inb_of Sa15 ⟨by decide, by decide⟩
  have hbz16 : 0 ≤ p6.toInt ∧ p6.toInt ≤ 1 := by have q0 := bd_p6; omega
  obtain ⟨T17, h17, X17, e17, W17, st17⟩ := stZ X12 hx hZ e14 Ar15 (j := (0 : Int32)) hin15 (g := (mkF m 41 #[.val (.ref o1), .val (.int 1), .val (.ref b8), .val (.int 0), .val (.ref v3)] [(.int p6), (.int 0), (.ref b8)])) rfl rfl (hb hby d2_41)
  rw [own_nz hbz16] at W17
  have V17 : Arv Z h17 b8 k8 .boolean (3 : Int32) [(.int p6), (.int 0), (.int 0)] (.int 0) := Arv.set Ar15 qa15 Sa15 Na15 Ha15 Ga15 (own_fz hbz16) W17 0 rfl (Nat.le_of_ble_eq_true rfl)
  have N17 := Fr.snoc X17 N12 g_b8
  have hkk17 := Nat.le_trans hkk8 (Nat.le_of_eq W17.size.symm)
  have M17 : h0.size ≤ h17.size := Nat.le_trans M8 (Nat.le_of_eq W17.size.symm)
  have O17 := Old.wr O8 W17 g_b8
  have lt18 : o1 < h2.size := (Nat.lt_of_lt_of_le P0.lt E2.1)
  have ne19 : o1 ≠ b8 := Nat.ne_of_lt (Nat.lt_of_lt_of_le lt18 sz_b8)
  have f20 := (f9.other W17 ne19)
  obtain ⟨cl21, Ar21, qa21, Sa21, Na21, Ha21, Ga21⟩ := id (f20)
  obtain ⟨cl22, Ar22, qa22, Sa22, Na22, Ha22, Ga22⟩ := id (f20)
  have hin22 : ¬ ((1 : Int32) < 0 ∨ cl22.slots.size ≤ ((1 : Int32)).toNatClampNeg) := inb_of Sa22 ⟨by decide, by decide⟩
  have hat22 : cl22.slots[((1 : Int32)).toNatClampNeg]? = some (.ref v4) := Has.at Ha22 hin22 rfl
  obtain ⟨_, T23, L23, X23, hQ23, st23⟩ := own_vb X17 hx hZ hown (y := yn5) (own_w hw 29 rfl) (own_w hw 30 rfl) (own_w hw 32 rfl) (own_w hw 31 rfl) (own_w hw 33 rfl) (own_w hw 22 rfl) e17 (P4.ext O17.2) (argsL := []) (rest := [(.int 1), (.ref b8)]) (rm14 l Z a0 hw [] p7 v4 h17 n0 O17 (by have q0 := bd_p7; omega) P5) (g := (mkF m 38 #[.val (.ref o1), .val (.int 1), .val (.ref b8), .val (.int 1), .val (.ref v4)] [(.ref v4), (.int 1), (.ref b8)])) rfl (by rw [hml]; rfl) rfl (hb hby d2_38) (lenOf pd5 rfl) (W := 2) (c1 := 3) (s1 := 59)
  obtain ⟨rfl, Nq24, e25⟩ := hQ23
  have N23 := Fr.app N17 Nq24
  obtain ⟨cl26, Ar26, qa26, Sa26, Na26, Ha26, Ga26⟩ := id (V17)
  have hin26 : ¬ ((1 : Int32) < 0 ∨ cl26.slots.size ≤ ((1 : Int32)).toNatClampNeg) := inb_of Sa26 ⟨by decide, by decide⟩
  have hbz27 : 0 ≤ p7.toInt ∧ p7.toInt ≤ 1 := by have q0 := bd_p7; omega
  obtain ⟨T28, h28, X28, e28, W28, st28⟩ := stZ X23 hx hZ e25 Ar26 (j := (1 : Int32)) hin26 (g := (mkF m 41 #[.val (.ref o1), .val (.int 1), .val (.ref b8), .val (.int 1), .val (.ref v4)] [(.int p7), (.int 1), (.ref b8)])) rfl rfl (hb hby d2_41)
  rw [own_nz hbz27] at W28
  have V28 : Arv Z h28 b8 k8 .boolean (3 : Int32) [(.int p6), (.int p7), (.int 0)] (.int 0) := Arv.set Ar26 qa26 Sa26 Na26 Ha26 Ga26 (own_fz hbz27) W28 1 rfl (Nat.le_of_ble_eq_true rfl)
  have N28 := Fr.snoc X28 N23 g_b8
  have hkk28 := Nat.le_trans hkk17 (Nat.le_of_eq W28.size.symm)
  have M28 : h0.size ≤ h28.size := Nat.le_trans M17 (Nat.le_of_eq W28.size.symm)
  have O28 := Old.wr O17 W28 g_b8
  have f29 := (f20.other W28 ne19)
  obtain ⟨cl30, Ar30, qa30, Sa30, Na30, Ha30, Ga30⟩ := id (f29)
  obtain ⟨cl31, Ar31, qa31, Sa31, Na31, Ha31, Ga31⟩ := id (f29)
  have hin31 : ¬ ((2 : Int32) < 0 ∨ cl31.slots.size ≤ ((2 : Int32)).toNatClampNeg) := inb_of Sa31 ⟨by decide, by decide⟩
  have hat31 : cl31.slots[((2 : Int32)).toNatClampNeg]? = some (.ref v5) := Has.at Ha31 hin31 rfl
  obtain ⟨_, T32, L32, X32, hQ32, st32⟩ := own_vb X28 hx hZ hown (y := yn5) (own_w hw 29 rfl) (own_w hw 30 rfl) (own_w hw 32 rfl) (own_w hw 31 rfl) (own_w hw 33 rfl) (own_w hw 22 rfl) e28 (P6.ext O28.2) (argsL := []) (rest := [(.int 2), (.ref b8)]) (rm14 l Z a0 hw [] p8 v5 h28 n0 O28 (by have q0 := bd_p8; omega) P7) (g := (mkF m 38 #[.val (.ref o1), .val (.int 1), .val (.ref b8), .val (.int 2), .val (.ref v5)] [(.ref v5), (.int 2), (.ref b8)])) rfl (by rw [hml]; rfl) rfl (hb hby d2_38) (lenOf pd5 rfl) (W := 2) (c1 := 3) (s1 := 59)
  obtain ⟨rfl, Nq33, e34⟩ := hQ32
  have N32 := Fr.app N28 Nq33
  obtain ⟨cl35, Ar35, qa35, Sa35, Na35, Ha35, Ga35⟩ := id (V28)
  have hin35 : ¬ ((2 : Int32) < 0 ∨ cl35.slots.size ≤ ((2 : Int32)).toNatClampNeg) := inb_of Sa35 ⟨by decide, by decide⟩
  have hbz36 : 0 ≤ p8.toInt ∧ p8.toInt ≤ 1 := by have q0 := bd_p8; omega
  obtain ⟨T37, h37, X37, e37, W37, st37⟩ := stZ X32 hx hZ e34 Ar35 (j := (2 : Int32)) hin35 (g := (mkF m 41 #[.val (.ref o1), .val (.int 1), .val (.ref b8), .val (.int 2), .val (.ref v5)] [(.int p8), (.int 2), (.ref b8)])) rfl rfl (hb hby d2_41)
  rw [own_nz hbz36] at W37
  have V37 : Arv Z h37 b8 k8 .boolean (3 : Int32) [(.int p6), (.int p7), (.int p8)] (.int 0) := Arv.set Ar35 qa35 Sa35 Na35 Ha35 Ga35 (own_fz hbz36) W37 2 rfl (Nat.le_of_ble_eq_true rfl)
  have N37 := Fr.snoc X37 N32 g_b8
  have hkk37 := Nat.le_trans hkk28 (Nat.le_of_eq W37.size.symm)
  have M37 : h0.size ≤ h37.size := Nat.le_trans M28 (Nat.le_of_eq W37.size.symm)
  have O37 := Old.wr O28 W37 g_b8
  have f38 := (f29.other W37 ne19)
  obtain ⟨cl39, Ar39, qa39, Sa39, Na39, Ha39, Ga39⟩ := id (f38)
  obtain ⟨fs, hr, hrun, hended, hRE⟩ := X37.leaveW hS2 (by rw [e37]; exact hkk37) (v := some (.ref b8)) (fun h => by rw [hret] at h; cases h)
  have KL : Keep h0 h37 [] := ((((((Keep.refl h0 []).ext E2).ext E8).wr W17 (Or.inr (Nat.le_trans M2 sz_b8))).wr W28 (Or.inr (Nat.le_trans M2 sz_b8))).wr W37 (Or.inr (Nat.le_trans M2 sz_b8)))
  have f40 := (((EX8.wr W17).wr W28).wr W37)
  refine ⟨_, _, pre1 _ ?_, hrun, hended, _, _, rfl, ?_, hRE.1, hRE.2.1, hRE.2.2.1, hRE.2.2.2.mono (by decide) (by decide)⟩
  ·
    show Steps p.tables e below (s₁.setTop (mkF m 1 #[.val (.ref o1), .val (.int 1), .unset, .unset, .unset] [(.ref o1)])) _
    refine st2 _ ?_
    refine st3 _ ?_
    refine XS.pop X3.here hx rfl (hb hby d2_6) rfl rfl ?_
    refine XS.aloadN X3.here hx rfl (hb hby d2_7) rfl rfl ?_
    refine X3.arraylength hx (by rw [e5]; exact Ar7.1) (State.isArrayOf_alike hZ.alike Ar7.2.1) (g := (mkF m 8 #[.val (.ref o1), .val (.int 1), .unset, .unset, .unset] [(.ref o1)])) rfl rfl (hb hby d2_8) _ ?_
    rw [len_of Sa7 Na7]
    refine st8 _ ?_
    refine XS.astoreN X8.here hx rfl (hb hby d2_11) rfl rfl (l' := #[.val (.ref o1), .val (.int 1), .val (.ref b8), .unset, .unset]) rfl ?_
    refine XS.iconst X8.here hx rfl (hb hby d2_12) ?_
    refine XS.istoreN X8.here hx rfl (hb hby d2_13) rfl (l' := #[.val (.ref o1), .val (.int 1), .val (.ref b8), .val (.int 0), .unset]) rfl ?_
    refine XS.iloadN X8.here hx rfl (hb hby d2_14) rfl ?_
    refine XS.aloadN X8.here hx rfl (hb hby d2_15) rfl rfl ?_
    refine X8.arraylength hx (by rw [e8]; exact Ar10.1) (State.isArrayOf_alike hZ.alike Ar10.2.1) (g := (mkF m 16 #[.val (.ref o1), .val (.int 1), .val (.ref b8), .val (.int 0), .unset] [(.ref o1), (.int 0)])) rfl rfl (hb hby d2_16) _ ?_
    rw [len_of Sa10 Na10]
    refine XS.icmpNo X8.here hx rfl (hb hby d2_17) rfl (tlt (by decide : (0 : Int32) < (3 : Int32))).2.1 ?_
    refine XS.aloadN X8.here hx rfl (hb hby d2_20) rfl rfl ?_
    refine XS.iloadN X8.here hx rfl (hb hby d2_21) rfl ?_
    refine X8.aaload hx (j := (0 : Int32)) (v := (.ref v3)) (by rw [e8]; exact Ar11.1) (State.isArrayOf_alike hZ.alike Ar11.2.1) rfl Ar11.2.2 hin11 hat11 (g := (mkF m 22 #[.val (.ref o1), .val (.int 1), .val (.ref b8), .val (.int 0), .unset] [(.int 0), (.ref o1)])) rfl rfl (hb hby d2_22) _ ?_
    refine XS.astore X8.here hx rfl (hb hby d2_23) rfl rfl (l' := #[.val (.ref o1), .val (.int 1), .val (.ref b8), .val (.int 0), .val (.ref v3)]) rfl ?_
    refine XS.aloadN X8.here hx rfl (hb hby d2_25) rfl rfl ?_
    refine XS.iloadN X8.here hx rfl (hb hby d2_26) rfl ?_
    refine XS.aload X8.here hx rfl (hb hby d2_27) rfl rfl ?_
    refine XS.ifnonnullYes X8.here hx rfl (pc0 := 29) (pc' := 36) rfl (hb hby d2_29) rfl (by decide) (by decide) ?_
    refine XS.aload X8.here hx rfl (hb hby d2_36) rfl rfl ?_
    refine st12 _ ?_
    refine st17 _ ?_
    refine XS.iinc X17.here hx rfl (hb hby d2_42) rfl (l' := #[.val (.ref o1), .val (.int 1), .val (.ref b8), .val (.int 1), .val (.ref v3)]) rfl ?_
    refine XS.goto X17.here hx rfl (pc0 := 45) (pc' := 14) rfl (hb hby d2_45) (by decide) (by decide) ?_
    refine XS.iloadN X17.here hx rfl (hb hby d2_14) rfl ?_
    refine XS.aloadN X17.here hx rfl (hb hby d2_15) rfl rfl ?_
    refine X17.arraylength hx (by rw [e17]; exact Ar21.1) (State.isArrayOf_alike hZ.alike Ar21.2.1) (g := (mkF m 16 #[.val (.ref o1), .val (.int 1), .val (.ref b8), .val (.int 1), .val (.ref v3)] [(.ref o1), (.int 1)])) rfl rfl (hb hby d2_16) _ ?_
    rw [len_of Sa21 Na21]
    refine XS.icmpNo X17.here hx rfl (hb hby d2_17) rfl (tlt (by decide : (1 : Int32) < (3 : Int32))).2.1 ?_
    refine XS.aloadN X17.here hx rfl (hb hby d2_20) rfl rfl ?_
    refine XS.iloadN X17.here hx rfl (hb hby d2_21) rfl ?_
    refine X17.aaload hx (j := (1 : Int32)) (v := (.ref v4)) (by rw [e17]; exact Ar22.1) (State.isArrayOf_alike hZ.alike Ar22.2.1) rfl Ar22.2.2 hin22 hat22 (g := (mkF m 22 #[.val (.ref o1), .val (.int 1), .val (.ref b8), .val (.int 1), .val (.ref v3)] [(.int 1), (.ref o1)])) rfl rfl (hb hby d2_22) _ ?_
    refine XS.astore X17.here hx rfl (hb hby d2_23) rfl rfl (l' := #[.val (.ref o1), .val (.int 1), .val (.ref b8), .val (.int 1), .val (.ref v4)]) rfl ?_
    refine XS.aloadN X17.here hx rfl (hb hby d2_25) rfl rfl ?_
    refine XS.iloadN X17.here hx rfl (hb hby d2_26) rfl ?_
    refine XS.aload X17.here hx rfl (hb hby d2_27) rfl rfl ?_
    refine XS.ifnonnullYes X17.here hx rfl (pc0 := 29) (pc' := 36) rfl (hb hby d2_29) rfl (by decide) (by decide) ?_
    refine XS.aload X17.here hx rfl (hb hby d2_36) rfl rfl ?_
    show Steps p.tables e below (T17.setTop (mkF m 38 #[.val (.ref o1), .val (.int 1), .val (.ref b8), .val (.int 1), .val (.ref v4)] [(.ref v4), (.int 1), (.ref b8)])) _
    refine st23 _ ?_
    refine st28 _ ?_
    refine XS.iinc X28.here hx rfl (hb hby d2_42) rfl (l' := #[.val (.ref o1), .val (.int 1), .val (.ref b8), .val (.int 2), .val (.ref v4)]) rfl ?_
    refine XS.goto X28.here hx rfl (pc0 := 45) (pc' := 14) rfl (hb hby d2_45) (by decide) (by decide) ?_
    refine XS.iloadN X28.here hx rfl (hb hby d2_14) rfl ?_
    refine XS.aloadN X28.here hx rfl (hb hby d2_15) rfl rfl ?_
    refine X28.arraylength hx (by rw [e28]; exact Ar30.1) (State.isArrayOf_alike hZ.alike Ar30.2.1) (g := (mkF m 16 #[.val (.ref o1), .val (.int 1), .val (.ref b8), .val (.int 2), .val (.ref v4)] [(.ref o1), (.int 2)])) rfl rfl (hb hby d2_16) _ ?_
    rw [len_of Sa30 Na30]
    refine XS.icmpNo X28.here hx rfl (hb hby d2_17) rfl (tlt (by decide : (2 : Int32) < (3 : Int32))).2.1 ?_
    refine XS.aloadN X28.here hx rfl (hb hby d2_20) rfl rfl ?_
    refine XS.iloadN X28.here hx rfl (hb hby d2_21) rfl ?_
    refine X28.aaload hx (j := (2 : Int32)) (v := (.ref v5)) (by rw [e28]; exact Ar31.1) (State.isArrayOf_alike hZ.alike Ar31.2.1) rfl Ar31.2.2 hin31 hat31 (g := (mkF m 22 #[.val (.ref o1), .val (.int 1), .val (.ref b8), .val (.int 2), .val (.ref v4)] [(.int 2), (.ref o1)])) rfl rfl (hb hby d2_22) _ ?_
    refine XS.astore X28.here hx rfl (hb hby d2_23) rfl rfl (l' := #[.val (.ref o1), .val (.int 1), .val (.ref b8), .val (.int 2), .val (.ref v5)]) rfl ?_
    refine XS.aloadN X28.here hx rfl (hb hby d2_25) rfl rfl ?_
    refine XS.iloadN X28.here hx rfl (hb hby d2_26) rfl ?_
    refine XS.aload X28.here hx rfl (hb hby d2_27) rfl rfl ?_
    refine XS.ifnonnullYes X28.here hx rfl (pc0 := 29) (pc' := 36) rfl (hb hby d2_29) rfl (by decide) (by decide) ?_
    refine XS.aload X28.here hx rfl (hb hby d2_36) rfl rfl ?_
    refine st32 _ ?_
    refine st37 _ ?_
    refine XS.iinc X37.here hx rfl (hb hby d2_42) rfl (l' := #[.val (.ref o1), .val (.int 1), .val (.ref b8), .val (.int 3), .val (.ref v5)]) rfl ?_
    refine XS.goto X37.here hx rfl (pc0 := 45) (pc' := 14) rfl (hb hby d2_45) (by decide) (by decide) ?_
    refine XS.iloadN X37.here hx rfl (hb hby d2_14) rfl ?_
    refine XS.aloadN X37.here hx rfl (hb hby d2_15) rfl rfl ?_
    refine X37.arraylength hx (by rw [e37]; exact Ar39.1) (State.isArrayOf_alike hZ.alike Ar39.2.1) (g := (mkF m 16 #[.val (.ref o1), .val (.int 1), .val (.ref b8), .val (.int 3), .val (.ref v5)] [(.ref o1), (.int 3)])) rfl rfl (hb hby d2_16) _ ?_
    rw [len_of Sa39 Na39]
    refine XS.icmpYes X37.here hx rfl (pc0 := 17) (pc' := 48) rfl (hb hby d2_17) rfl (flt (by decide : ¬ ((3 : Int32) < (3 : Int32)))).2.1 (by decide) (by decide) ?_
    refine XS.aloadN X37.here hx rfl (hb hby d2_48) rfl rfl ?_
    show Steps p.tables e below (T37.setTop (mkF m 49 #[.val (.ref o1), .val (.int 1), .val (.ref b8), .val (.int 3), .val (.ref v5)] [(.ref b8)])) _
    exact retOut X37 hx hret rfl (Or.inr (Or.inr (Or.inr (Or.inr ⟨rfl, rfl, rfl⟩)))) (hb hby d2_49) hr
  ·
    show Q34 Z o1 kc2 p6 p7 p8 v3 v4 v5 h0 n0 _ T37.heap _
    rw [e37]
    exact ⟨b8, k8, rfl, N37, KL, (Nat.le_trans M2 sz_b8), V37, f40⟩
theorem ef35 (m : MethodId) (x0 : Addr) (x1 : Addr) (x2 : Addr) (x3 : Int32) (x4 : Int32) (x5 : Int32) : entryFrame m #[(.ref x0), (.ref x1), (.ref x2), (.int x3), (.int x4), (.int x5)] 6 = mkF m 0 #[.val (.ref x0), .val (.ref x1), .val (.ref x2), .val (.int x3), .val (.int x4), .val (.int x5)] [] := by first | (simp [entryFrame, mkF, argsToLocals, Value.category]; done) | rfl
def Q35 (Z : State) (o1 : Addr) (o2 : Addr) (o3 : Addr) (p4 : Int32) (p6 : Int32) (p7 : Int32) (p8 : Int32) (p10 : Int32) (p11 : Int32) (p12 : Int32) (p14 : Int32) (p15 : Int32) (p16 : Int32) (kc5 : ClassId) (kc9 : ClassId) (kc13 : ClassId) (h0 : Heap) (n0 : Nat) (v : Option Value) (h : Heap) (L : List Loc) : Prop :=
  ((p6 = p4) ∧ (p10 = p4) ∧ (p14 = p4) ∧ v = some (.int 1) ∧ Fr n0 L ∧ h = h0)
  ∨ ((p6 = p4) ∧ (p10 = p4) ∧ (¬ (p14 = p4)) ∧ v = some (.int 0) ∧ Fr n0 L ∧ h = h0)
  ∨ ((p6 = p4) ∧ (¬ (p10 = p4)) ∧ v = some (.int 0) ∧ Fr n0 L ∧ h = h0)
  ∨ ((¬ (p6 = p4)) ∧ v = some (.int 0) ∧ Fr n0 L ∧ h = h0)
set_option maxRecDepth 65536 in
set_option maxHeartbeats 40000000 in
theorem rm35 (l : Launch) (Z : State) (a0 : Array Value) (hw : ∀ d ∈ tables_1, d.before a0 Z = true) (ws : List Jvm.Cond) (o1 : Addr) (o2 : Addr) (o3 : Addr) (p4 : Int32) (p6 : Int32) (p7 : Int32) (p8 : Int32) (p10 : Int32) (p11 : Int32) (p12 : Int32) (p14 : Int32) (p15 : Int32) (p16 : Int32) (kc5 : ClassId) (kc9 : ClassId) (kc13 : ClassId) (h0 : Heap) (n0 : Nat) (O0 : Old Z n0 h0) (g_o1 : n0 ≤ o1) (g_o2 : n0 ≤ o2) (g_o3 : n0 ≤ o3) (bd_p4 : 0 ≤ p4.toInt ∧ p4.toInt ≤ 1) (bd_p6 : 0 ≤ p6.toInt ∧ p6.toInt ≤ 1) (bd_p7 : 0 ≤ p7.toInt ∧ p7.toInt ≤ 1) (bd_p8 : 0 ≤ p8.toInt ∧ p8.toInt ≤ 1) (bd_p10 : 0 ≤ p10.toInt ∧ p10.toInt ≤ 1) (bd_p11 : 0 ≤ p11.toInt ∧ p11.toInt ≤ 1) (bd_p12 : 0 ≤ p12.toInt ∧ p12.toInt ≤ 1) (bd_p14 : 0 ≤ p14.toInt ∧ p14.toInt ≤ 1) (bd_p15 : 0 ≤ p15.toInt ∧ p15.toInt ≤ 1) (bd_p16 : 0 ≤ p16.toInt ∧ p16.toInt ≤ 1) (P0 : Arv Z h0 o1 kc5 .boolean (3 : Int32) [(.int p6), (.int p7), (.int p8)] (.int 0)) (P2 : Arv Z h0 o2 kc9 .boolean (3 : Int32) [(.int p10), (.int p11), (.int p12)] (.int 0)) (P4 : Arv Z h0 o3 kc13 .boolean (3 : Int32) [(.int p14), (.int p15), (.int p16)] (.int 0)) :
    MetFree l yn3 (head1 (Jvm.Cond.code yn3 method_3_code 6 (some .boolean) :: ws) ({ frames := 0, cells := 0, slots := 0, locals := 0 } : Room)) (fun a U => a = #[(.ref o1), (.ref o2), (.ref o3), (.int 0), (.int 3), (.int p4)] ∧ Z.Warmed39 U.vm ∧ U.heap = h0) (fun _ _ _ _ _ => True) (fun _ U o U' => ∃ v L, o = .returned v ∧ Q35 Z o1 o2 o3 p4 p6 p7 p8 p10 p11 p12 p14 p15 p16 kc5 kc9 kc13 h0 n0 v U'.heap L ∧ FrameEnd U o U' L ({ frames := 0, cells := 0, slots := 0, locals := 0 } : Room).cells ({ frames := 0, cells := 0, slots := 0, locals := 0 } : Room).slots) := by
  refine MetFree.of_bodySF (plainFor_of_name pn2) hisR ?_
  intro p e s m args below meth c s₁ Bd hml0 hP hK
  obtain ⟨rfl, hZ, hh⟩ := hP
  have hx := Bd.exec
  have hby := Bd.bytes
  have hml : c.maxLocals = 6 := hml0
  have hown : s.vm.findClass "com/example/castless/castless/PrimitiveArraysBoxPinLaw" = some m.cls := findClass_of_methodNamed Bd.named
  have hnm := (name_of_methodNamed Bd.named Bd.method).1
  have hret := Bd.returns
  have hlk : meth.locks = false := BodyLoose.notSynchronized Bd
  have X0 : Stand p l e ({ frames := 0, cells := 0, slots := 0, locals := 0 } : Room) s m #[(.ref o1), (.ref o2), (.ref o3), (.int 0), (.int 3), (.int p4)] below meth c s₁ [] 0 0 := Stand.of_body Bd
  have e0 : s₁.heap = h0 := by rw [← hh, Bd.state]; rfl
  have N0 := Fr.nil n0
  have pre0 : ∀ t, Steps p.tables e below (s₁.setTop (mkF m 0 #[.val (.ref o1), .val (.ref o2), .val (.ref o3), .val (.int 0), .val (.int 3), .val (.int p4)] [])) t → Steps p.tables e below (s₁.setTop (entryFrame m #[(.ref o1), (.ref o2), (.ref o3), (.int 0), (.int 3), (.int p4)] 6)) t := fun t k => castTop (ef35 m o1 o2 o3 (0 : Int32) (3 : Int32) p4) k
  obtain ⟨cl1, Ar1, qa1, Sa1, Na1, Ha1, Ga1⟩ := id (P0)
  have hin1 : ¬ ((0 : Int32) < 0 ∨ cl1.slots.size ≤ ((0 : Int32)).toNatClampNeg) := inb_of Sa1 ⟨by decide, by decide⟩
  have hat1 : cl1.slots[((0 : Int32)).toNatClampNeg]? = some (.int p6) := Has.at Ha1 hin1 rfl
  have pre2 : ∀ t, Steps p.tables e below (s₁.setTop (mkF m 13 #[.val (.ref o1), .val (.ref o2), .val (.ref o3), .val (.int 0), .val (.int 3), .val (.int p4)] [(.int p4), (.int p6)])) t → Steps p.tables e below (s₁.setTop (entryFrame m #[(.ref o1), (.ref o2), (.ref o3), (.int 0), (.int 3), (.int p4)] 6)) t := fun t k => by
    refine pre0 _ ?_
    show Steps p.tables e below (s₁.setTop (mkF m 0 #[.val (.ref o1), .val (.ref o2), .val (.ref o3), .val (.int 0), .val (.int 3), .val (.int p4)] [])) _
    refine XS.iloadN X0.here hx rfl (hb hby d3_0) rfl ?_
    refine XS.iload X0.here hx rfl (hb hby d3_1) rfl ?_
    refine XS.icmpYes X0.here hx rfl (pc0 := 3) (pc' := 8) rfl (hb hby d3_3) rfl (tlt (by decide : (0 : Int32) < (3 : Int32))).1 (by decide) (by decide) ?_
    refine XS.aloadN X0.here hx rfl (hb hby d3_8) rfl rfl ?_
    refine XS.iloadN X0.here hx rfl (hb hby d3_9) rfl ?_
    refine X0.baloadBooleans hx (j := (0 : Int32)) (v := (.int p6)) (by rw [e0]; exact Ar1.1) (State.isArrayOf_alike hZ.alike Ar1.2.1) Ar1.2.2 hin1 hat1 (g := (mkF m 10 #[.val (.ref o1), .val (.ref o2), .val (.ref o3), .val (.int 0), .val (.int 3), .val (.int p4)] [(.int 0), (.ref o1)])) rfl rfl (hb hby d3_10) _ ?_
    refine XS.iload X0.here hx rfl (hb hby d3_11) rfl ?_
    exact k
  by_cases hc3 : p6 = p4
  ·
    obtain ⟨cl4, Ar4, qa4, Sa4, Na4, Ha4, Ga4⟩ := id (P2)
    have hin4 : ¬ ((0 : Int32) < 0 ∨ cl4.slots.size ≤ ((0 : Int32)).toNatClampNeg) := inb_of Sa4 ⟨by decide, by decide⟩
    have hat4 : cl4.slots[((0 : Int32)).toNatClampNeg]? = some (.int p10) := Has.at Ha4 hin4 rfl
    have pre5 : ∀ t, Steps p.tables e below (s₁.setTop (mkF m 21 #[.val (.ref o1), .val (.ref o2), .val (.ref o3), .val (.int 0), .val (.int 3), .val (.int p4)] [(.int p4), (.int p10)])) t → Steps p.tables e below (s₁.setTop (entryFrame m #[(.ref o1), (.ref o2), (.ref o3), (.int 0), (.int 3), (.int p4)] 6)) t := fun t k => by
      refine pre2 _ ?_
      show Steps p.tables e below (s₁.setTop (mkF m 13 #[.val (.ref o1), .val (.ref o2), .val (.ref o3), .val (.int 0), .val (.int 3), .val (.int p4)] [(.int p4), (.int p6)])) _
      refine XS.icmpNo X0.here hx rfl (hb hby d3_13) rfl (teq hc3).2 ?_
      refine XS.aloadN X0.here hx rfl (hb hby d3_16) rfl rfl ?_
      refine XS.iloadN X0.here hx rfl (hb hby d3_17) rfl ?_
      refine X0.baloadBooleans hx (j := (0 : Int32)) (v := (.int p10)) (by rw [e0]; exact Ar4.1) (State.isArrayOf_alike hZ.alike Ar4.2.1) Ar4.2.2 hin4 hat4 (g := (mkF m 18 #[.val (.ref o1), .val (.ref o2), .val (.ref o3), .val (.int 0), .val (.int 3), .val (.int p4)] [(.int 0), (.ref o2)])) rfl rfl (hb hby d3_18) _ ?_
      refine XS.iload X0.here hx rfl (hb hby d3_19) rfl ?_
      exact k
    by_cases hc6 : p10 = p4
    ·
      obtain ⟨cl7, Ar7, qa7, Sa7, Na7, Ha7, Ga7⟩ := id (P4)
      have hin7 : ¬ ((0 : Int32) < 0 ∨ cl7.slots.size ≤ ((0 : Int32)).toNatClampNeg) := inb_of Sa7 ⟨by decide, by decide⟩
      have hat7 : cl7.slots[((0 : Int32)).toNatClampNeg]? = some (.int p14) := Has.at Ha7 hin7 rfl
      have pre8 : ∀ t, Steps p.tables e below (s₁.setTop (mkF m 29 #[.val (.ref o1), .val (.ref o2), .val (.ref o3), .val (.int 0), .val (.int 3), .val (.int p4)] [(.int p4), (.int p14)])) t → Steps p.tables e below (s₁.setTop (entryFrame m #[(.ref o1), (.ref o2), (.ref o3), (.int 0), (.int 3), (.int p4)] 6)) t := fun t k => by
        refine pre5 _ ?_
        show Steps p.tables e below (s₁.setTop (mkF m 21 #[.val (.ref o1), .val (.ref o2), .val (.ref o3), .val (.int 0), .val (.int 3), .val (.int p4)] [(.int p4), (.int p10)])) _
        refine XS.icmpNo X0.here hx rfl (hb hby d3_21) rfl (teq hc6).2 ?_
        refine XS.aloadN X0.here hx rfl (hb hby d3_24) rfl rfl ?_
        refine XS.iloadN X0.here hx rfl (hb hby d3_25) rfl ?_
        refine X0.baloadBooleans hx (j := (0 : Int32)) (v := (.int p14)) (by rw [e0]; exact Ar7.1) (State.isArrayOf_alike hZ.alike Ar7.2.1) Ar7.2.2 hin7 hat7 (g := (mkF m 26 #[.val (.ref o1), .val (.ref o2), .val (.ref o3), .val (.int 0), .val (.int 3), .val (.int p4)] [(.int 0), (.ref o3)])) rfl rfl (hb hby d3_26) _ ?_
        refine XS.iload X0.here hx rfl (hb hby d3_27) rfl ?_
        exact k
      by_cases hc9 : p14 = p4
      ·
        obtain ⟨fs, hr, hrun, hended, hW, hsame⟩ := X0.leave (v := some (.int 1)) (fun h => by rw [hret] at h; cases h)
        refine ⟨_, _, pre8 _ ?_, hrun, hended, _, _, rfl, ?_, ⟨_, rfl⟩, hW, hsame.mono (by decide) (by decide)⟩
        ·
          show Steps p.tables e below (s₁.setTop (mkF m 29 #[.val (.ref o1), .val (.ref o2), .val (.ref o3), .val (.int 0), .val (.int 3), .val (.int p4)] [(.int p4), (.int p14)])) _
          refine XS.icmpNo X0.here hx rfl (hb hby d3_29) rfl (teq hc9).2 ?_
          refine XS.iconst X0.here hx rfl (hb hby d3_32) ?_
          refine XS.goto X0.here hx rfl (pc0 := 33) (pc' := 37) rfl (hb hby d3_33) (by decide) (by decide) ?_
          show Steps p.tables e below (s₁.setTop (mkF m 37 #[.val (.ref o1), .val (.ref o2), .val (.ref o3), .val (.int 0), .val (.int 3), .val (.int p4)] [(.int 1)])) _
          exact retN X0 hx (t := .boolean) hret (by simp) (hb hby d3_37) hr
        ·
          show Q35 Z o1 o2 o3 p4 p6 p7 p8 p10 p11 p12 p14 p15 p16 kc5 kc9 kc13 h0 n0 _ s₁.heap _
          rw [e0]
          exact (Or.inl ⟨hc3, hc6, hc9, rfl, N0, rfl⟩)
      ·
        obtain ⟨fs, hr, hrun, hended, hW, hsame⟩ := X0.leave (v := some (.int 0)) (fun h => by rw [hret] at h; cases h)
        refine ⟨_, _, pre8 _ ?_, hrun, hended, _, _, rfl, ?_, ⟨_, rfl⟩, hW, hsame.mono (by decide) (by decide)⟩
        ·
          show Steps p.tables e below (s₁.setTop (mkF m 29 #[.val (.ref o1), .val (.ref o2), .val (.ref o3), .val (.int 0), .val (.int 3), .val (.int p4)] [(.int p4), (.int p14)])) _
          refine XS.icmpYes X0.here hx rfl (pc0 := 29) (pc' := 36) rfl (hb hby d3_29) rfl (feq hc9).2 (by decide) (by decide) ?_
          refine XS.iconst X0.here hx rfl (hb hby d3_36) ?_
          show Steps p.tables e below (s₁.setTop (mkF m 37 #[.val (.ref o1), .val (.ref o2), .val (.ref o3), .val (.int 0), .val (.int 3), .val (.int p4)] [(.int 0)])) _
          exact retN X0 hx (t := .boolean) hret (by simp) (hb hby d3_37) hr
        ·
          show Q35 Z o1 o2 o3 p4 p6 p7 p8 p10 p11 p12 p14 p15 p16 kc5 kc9 kc13 h0 n0 _ s₁.heap _
          rw [e0]
          exact (Or.inr (Or.inl ⟨hc3, hc6, hc9, rfl, N0, rfl⟩))
    ·
      obtain ⟨fs, hr, hrun, hended, hW, hsame⟩ := X0.leave (v := some (.int 0)) (fun h => by rw [hret] at h; cases h)
      refine ⟨_, _, pre5 _ ?_, hrun, hended, _, _, rfl, ?_, ⟨_, rfl⟩, hW, hsame.mono (by decide) (by decide)⟩
      ·
        show Steps p.tables e below (s₁.setTop (mkF m 21 #[.val (.ref o1), .val (.ref o2), .val (.ref o3), .val (.int 0), .val (.int 3), .val (.int p4)] [(.int p4), (.int p10)])) _
        refine XS.icmpYes X0.here hx rfl (pc0 := 21) (pc' := 36) rfl (hb hby d3_21) rfl (feq hc6).2 (by decide) (by decide) ?_
        refine XS.iconst X0.here hx rfl (hb hby d3_36) ?_
        show Steps p.tables e below (s₁.setTop (mkF m 37 #[.val (.ref o1), .val (.ref o2), .val (.ref o3), .val (.int 0), .val (.int 3), .val (.int p4)] [(.int 0)])) _
        exact retN X0 hx (t := .boolean) hret (by simp) (hb hby d3_37) hr
      ·
        show Q35 Z o1 o2 o3 p4 p6 p7 p8 p10 p11 p12 p14 p15 p16 kc5 kc9 kc13 h0 n0 _ s₁.heap _
        rw [e0]
        exact (Or.inr (Or.inr (Or.inl ⟨hc3, hc6, rfl, N0, rfl⟩)))
  ·
    obtain ⟨fs, hr, hrun, hended, hW, hsame⟩ := X0.leave (v := some (.int 0)) (fun h => by rw [hret] at h; cases h)
    refine ⟨_, _, pre2 _ ?_, hrun, hended, _, _, rfl, ?_, ⟨_, rfl⟩, hW, hsame.mono (by decide) (by decide)⟩
    ·
      show Steps p.tables e below (s₁.setTop (mkF m 13 #[.val (.ref o1), .val (.ref o2), .val (.ref o3), .val (.int 0), .val (.int 3), .val (.int p4)] [(.int p4), (.int p6)])) _
      refine XS.icmpYes X0.here hx rfl (pc0 := 13) (pc' := 36) rfl (hb hby d3_13) rfl (feq hc3).2 (by decide) (by decide) ?_
      refine XS.iconst X0.here hx rfl (hb hby d3_36) ?_
      show Steps p.tables e below (s₁.setTop (mkF m 37 #[.val (.ref o1), .val (.ref o2), .val (.ref o3), .val (.int 0), .val (.int 3), .val (.int p4)] [(.int 0)])) _
      exact retN X0 hx (t := .boolean) hret (by simp) (hb hby d3_37) hr
    ·
      show Q35 Z o1 o2 o3 p4 p6 p7 p8 p10 p11 p12 p14 p15 p16 kc5 kc9 kc13 h0 n0 _ s₁.heap _
      rw [e0]
      exact (Or.inr (Or.inr (Or.inr ⟨hc3, rfl, N0, rfl⟩)))
theorem ef36 (m : MethodId) (x0 : Addr) (x1 : Addr) (x2 : Addr) (x3 : Int32) (x4 : Int32) (x5 : Int32) : entryFrame m #[(.ref x0), (.ref x1), (.ref x2), (.int x3), (.int x4), (.int x5)] 6 = mkF m 0 #[.val (.ref x0), .val (.ref x1), .val (.ref x2), .val (.int x3), .val (.int x4), .val (.int x5)] [] := by first | (simp [entryFrame, mkF, argsToLocals, Value.category]; done) | rfl
def Q36 (Z : State) (o1 : Addr) (o2 : Addr) (o3 : Addr) (p4 : Int32) (p6 : Int32) (p7 : Int32) (p8 : Int32) (p10 : Int32) (p11 : Int32) (p12 : Int32) (p14 : Int32) (p15 : Int32) (p16 : Int32) (kc5 : ClassId) (kc9 : ClassId) (kc13 : ClassId) (h0 : Heap) (n0 : Nat) (v : Option Value) (h : Heap) (L : List Loc) : Prop :=
  ((p7 = p4) ∧ (p11 = p4) ∧ (p15 = p4) ∧ v = some (.int 1) ∧ Fr n0 L ∧ h = h0)
  ∨ ((p7 = p4) ∧ (p11 = p4) ∧ (¬ (p15 = p4)) ∧ v = some (.int 0) ∧ Fr n0 L ∧ h = h0)
  ∨ ((p7 = p4) ∧ (¬ (p11 = p4)) ∧ v = some (.int 0) ∧ Fr n0 L ∧ h = h0)
  ∨ ((¬ (p7 = p4)) ∧ v = some (.int 0) ∧ Fr n0 L ∧ h = h0)
set_option maxRecDepth 65536 in
set_option maxHeartbeats 40000000 in
theorem rm36 (l : Launch) (Z : State) (a0 : Array Value) (hw : ∀ d ∈ tables_1, d.before a0 Z = true) (ws : List Jvm.Cond) (o1 : Addr) (o2 : Addr) (o3 : Addr) (p4 : Int32) (p6 : Int32) (p7 : Int32) (p8 : Int32) (p10 : Int32) (p11 : Int32) (p12 : Int32) (p14 : Int32) (p15 : Int32) (p16 : Int32) (kc5 : ClassId) (kc9 : ClassId) (kc13 : ClassId) (h0 : Heap) (n0 : Nat) (O0 : Old Z n0 h0) (g_o1 : n0 ≤ o1) (g_o2 : n0 ≤ o2) (g_o3 : n0 ≤ o3) (bd_p4 : 0 ≤ p4.toInt ∧ p4.toInt ≤ 1) (bd_p6 : 0 ≤ p6.toInt ∧ p6.toInt ≤ 1) (bd_p7 : 0 ≤ p7.toInt ∧ p7.toInt ≤ 1) (bd_p8 : 0 ≤ p8.toInt ∧ p8.toInt ≤ 1) (bd_p10 : 0 ≤ p10.toInt ∧ p10.toInt ≤ 1) (bd_p11 : 0 ≤ p11.toInt ∧ p11.toInt ≤ 1) (bd_p12 : 0 ≤ p12.toInt ∧ p12.toInt ≤ 1) (bd_p14 : 0 ≤ p14.toInt ∧ p14.toInt ≤ 1) (bd_p15 : 0 ≤ p15.toInt ∧ p15.toInt ≤ 1) (bd_p16 : 0 ≤ p16.toInt ∧ p16.toInt ≤ 1) (P0 : Arv Z h0 o1 kc5 .boolean (3 : Int32) [(.int p6), (.int p7), (.int p8)] (.int 0)) (P2 : Arv Z h0 o2 kc9 .boolean (3 : Int32) [(.int p10), (.int p11), (.int p12)] (.int 0)) (P4 : Arv Z h0 o3 kc13 .boolean (3 : Int32) [(.int p14), (.int p15), (.int p16)] (.int 0)) :
    MetFree l yn3 (head1 (Jvm.Cond.code yn3 method_3_code 6 (some .boolean) :: ws) ({ frames := 0, cells := 0, slots := 0, locals := 0 } : Room)) (fun a U => a = #[(.ref o1), (.ref o2), (.ref o3), (.int 1), (.int 3), (.int p4)] ∧ Z.Warmed39 U.vm ∧ U.heap = h0) (fun _ _ _ _ _ => True) (fun _ U o U' => ∃ v L, o = .returned v ∧ Q36 Z o1 o2 o3 p4 p6 p7 p8 p10 p11 p12 p14 p15 p16 kc5 kc9 kc13 h0 n0 v U'.heap L ∧ FrameEnd U o U' L ({ frames := 0, cells := 0, slots := 0, locals := 0 } : Room).cells ({ frames := 0, cells := 0, slots := 0, locals := 0 } : Room).slots) := by
  refine MetFree.of_bodySF (plainFor_of_name pn2) hisR ?_
  intro p e s m args below meth c s₁ Bd hml0 hP hK
  obtain ⟨rfl, hZ, hh⟩ := hP
  have hx := Bd.exec
  have hby := Bd.bytes
  have hml : c.maxLocals = 6 := hml0
  have hown : s.vm.findClass "com/example/castless/castless/PrimitiveArraysBoxPinLaw" = some m.cls := findClass_of_methodNamed Bd.named
  have hnm := (name_of_methodNamed Bd.named Bd.method).1
  have hret := Bd.returns
  have hlk : meth.locks = false := BodyLoose.notSynchronized Bd
  have X0 : Stand p l e ({ frames := 0, cells := 0, slots := 0, locals := 0 } : Room) s m #[(.ref o1), (.ref o2), (.ref o3), (.int 1), (.int 3), (.int p4)] below meth c s₁ [] 0 0 := Stand.of_body Bd
  have e0 : s₁.heap = h0 := by rw [← hh, Bd.state]; rfl
  have N0 := Fr.nil n0
  have pre0 : ∀ t, Steps p.tables e below (s₁.setTop (mkF m 0 #[.val (.ref o1), .val (.ref o2), .val (.ref o3), .val (.int 1), .val (.int 3), .val (.int p4)] [])) t → Steps p.tables e below (s₁.setTop (entryFrame m #[(.ref o1), (.ref o2), (.ref o3), (.int 1), (.int 3), (.int p4)] 6)) t := fun t k => castTop (ef36 m o1 o2 o3 (1 : Int32) (3 : Int32) p4) k
  obtain ⟨cl1, Ar1, qa1, Sa1, Na1, Ha1, Ga1⟩ := id (P0)
  have hin1 : ¬ ((1 : Int32) < 0 ∨ cl1.slots.size ≤ ((1 : Int32)).toNatClampNeg) := inb_of Sa1 ⟨by decide, by decide⟩
  have hat1 : cl1.slots[((1 : Int32)).toNatClampNeg]? = some (.int p7) := Has.at Ha1 hin1 rfl
  have pre2 : ∀ t, Steps p.tables e below (s₁.setTop (mkF m 13 #[.val (.ref o1), .val (.ref o2), .val (.ref o3), .val (.int 1), .val (.int 3), .val (.int p4)] [(.int p4), (.int p7)])) t → Steps p.tables e below (s₁.setTop (entryFrame m #[(.ref o1), (.ref o2), (.ref o3), (.int 1), (.int 3), (.int p4)] 6)) t := fun t k => by
    refine pre0 _ ?_
    show Steps p.tables e below (s₁.setTop (mkF m 0 #[.val (.ref o1), .val (.ref o2), .val (.ref o3), .val (.int 1), .val (.int 3), .val (.int p4)] [])) _
    refine XS.iloadN X0.here hx rfl (hb hby d3_0) rfl ?_
    refine XS.iload X0.here hx rfl (hb hby d3_1) rfl ?_
    refine XS.icmpYes X0.here hx rfl (pc0 := 3) (pc' := 8) rfl (hb hby d3_3) rfl (tlt (by decide : (1 : Int32) < (3 : Int32))).1 (by decide) (by decide) ?_
    refine XS.aloadN X0.here hx rfl (hb hby d3_8) rfl rfl ?_
    refine XS.iloadN X0.here hx rfl (hb hby d3_9) rfl ?_
    refine X0.baloadBooleans hx (j := (1 : Int32)) (v := (.int p7)) (by rw [e0]; exact Ar1.1) (State.isArrayOf_alike hZ.alike Ar1.2.1) Ar1.2.2 hin1 hat1 (g := (mkF m 10 #[.val (.ref o1), .val (.ref o2), .val (.ref o3), .val (.int 1), .val (.int 3), .val (.int p4)] [(.int 1), (.ref o1)])) rfl rfl (hb hby d3_10) _ ?_
    refine XS.iload X0.here hx rfl (hb hby d3_11) rfl ?_
    exact k
  by_cases hc3 : p7 = p4
  ·
    obtain ⟨cl4, Ar4, qa4, Sa4, Na4, Ha4, Ga4⟩ := id (P2)
    have hin4 : ¬ ((1 : Int32) < 0 ∨ cl4.slots.size ≤ ((1 : Int32)).toNatClampNeg) := inb_of Sa4 ⟨by decide, by decide⟩
    have hat4 : cl4.slots[((1 : Int32)).toNatClampNeg]? = some (.int p11) := Has.at Ha4 hin4 rfl
    have pre5 : ∀ t, Steps p.tables e below (s₁.setTop (mkF m 21 #[.val (.ref o1), .val (.ref o2), .val (.ref o3), .val (.int 1), .val (.int 3), .val (.int p4)] [(.int p4), (.int p11)])) t → Steps p.tables e below (s₁.setTop (entryFrame m #[(.ref o1), (.ref o2), (.ref o3), (.int 1), (.int 3), (.int p4)] 6)) t := fun t k => by
      refine pre2 _ ?_
      show Steps p.tables e below (s₁.setTop (mkF m 13 #[.val (.ref o1), .val (.ref o2), .val (.ref o3), .val (.int 1), .val (.int 3), .val (.int p4)] [(.int p4), (.int p7)])) _
      refine XS.icmpNo X0.here hx rfl (hb hby d3_13) rfl (teq hc3).2 ?_
      refine XS.aloadN X0.here hx rfl (hb hby d3_16) rfl rfl ?_
      refine XS.iloadN X0.here hx rfl (hb hby d3_17) rfl ?_
      refine X0.baloadBooleans hx (j := (1 : Int32)) (v := (.int p11)) (by rw [e0]; exact Ar4.1) (State.isArrayOf_alike hZ.alike Ar4.2.1) Ar4.2.2 hin4 hat4 (g := (mkF m 18 #[.val (.ref o1), .val (.ref o2), .val (.ref o3), .val (.int 1), .val (.int 3), .val (.int p4)] [(.int 1), (.ref o2)])) rfl rfl (hb hby d3_18) _ ?_
      refine XS.iload X0.here hx rfl (hb hby d3_19) rfl ?_
      exact k
    by_cases hc6 : p11 = p4
    ·
      obtain ⟨cl7, Ar7, qa7, Sa7, Na7, Ha7, Ga7⟩ := id (P4)
      have hin7 : ¬ ((1 : Int32) < 0 ∨ cl7.slots.size ≤ ((1 : Int32)).toNatClampNeg) := inb_of Sa7 ⟨by decide, by decide⟩
      have hat7 : cl7.slots[((1 : Int32)).toNatClampNeg]? = some (.int p15) := Has.at Ha7 hin7 rfl
      have pre8 : ∀ t, Steps p.tables e below (s₁.setTop (mkF m 29 #[.val (.ref o1), .val (.ref o2), .val (.ref o3), .val (.int 1), .val (.int 3), .val (.int p4)] [(.int p4), (.int p15)])) t → Steps p.tables e below (s₁.setTop (entryFrame m #[(.ref o1), (.ref o2), (.ref o3), (.int 1), (.int 3), (.int p4)] 6)) t := fun t k => by
        refine pre5 _ ?_
        show Steps p.tables e below (s₁.setTop (mkF m 21 #[.val (.ref o1), .val (.ref o2), .val (.ref o3), .val (.int 1), .val (.int 3), .val (.int p4)] [(.int p4), (.int p11)])) _
        refine XS.icmpNo X0.here hx rfl (hb hby d3_21) rfl (teq hc6).2 ?_
        refine XS.aloadN X0.here hx rfl (hb hby d3_24) rfl rfl ?_
        refine XS.iloadN X0.here hx rfl (hb hby d3_25) rfl ?_
        refine X0.baloadBooleans hx (j := (1 : Int32)) (v := (.int p15)) (by rw [e0]; exact Ar7.1) (State.isArrayOf_alike hZ.alike Ar7.2.1) Ar7.2.2 hin7 hat7 (g := (mkF m 26 #[.val (.ref o1), .val (.ref o2), .val (.ref o3), .val (.int 1), .val (.int 3), .val (.int p4)] [(.int 1), (.ref o3)])) rfl rfl (hb hby d3_26) _ ?_
        refine XS.iload X0.here hx rfl (hb hby d3_27) rfl ?_
        exact k
      by_cases hc9 : p15 = p4
      ·
        obtain ⟨fs, hr, hrun, hended, hW, hsame⟩ := X0.leave (v := some (.int 1)) (fun h => by rw [hret] at h; cases h)
        refine ⟨_, _, pre8 _ ?_, hrun, hended, _, _, rfl, ?_, ⟨_, rfl⟩, hW, hsame.mono (by decide) (by decide)⟩
        ·
          show Steps p.tables e below (s₁.setTop (mkF m 29 #[.val (.ref o1), .val (.ref o2), .val (.ref o3), .val (.int 1), .val (.int 3), .val (.int p4)] [(.int p4), (.int p15)])) _
          refine XS.icmpNo X0.here hx rfl (hb hby d3_29) rfl (teq hc9).2 ?_
          refine XS.iconst X0.here hx rfl (hb hby d3_32) ?_
          refine XS.goto X0.here hx rfl (pc0 := 33) (pc' := 37) rfl (hb hby d3_33) (by decide) (by decide) ?_
          show Steps p.tables e below (s₁.setTop (mkF m 37 #[.val (.ref o1), .val (.ref o2), .val (.ref o3), .val (.int 1), .val (.int 3), .val (.int p4)] [(.int 1)])) _
          exact retN X0 hx (t := .boolean) hret (by simp) (hb hby d3_37) hr
        ·
          show Q36 Z o1 o2 o3 p4 p6 p7 p8 p10 p11 p12 p14 p15 p16 kc5 kc9 kc13 h0 n0 _ s₁.heap _
          rw [e0]
          exact (Or.inl ⟨hc3, hc6, hc9, rfl, N0, rfl⟩)
      ·
        obtain ⟨fs, hr, hrun, hended, hW, hsame⟩ := X0.leave (v := some (.int 0)) (fun h => by rw [hret] at h; cases h)
        refine ⟨_, _, pre8 _ ?_, hrun, hended, _, _, rfl, ?_, ⟨_, rfl⟩, hW, hsame.mono (by decide) (by decide)⟩
        ·
          show Steps p.tables e below (s₁.setTop (mkF m 29 #[.val (.ref o1), .val (.ref o2), .val (.ref o3), .val (.int 1), .val (.int 3), .val (.int p4)] [(.int p4), (.int p15)])) _
          refine XS.icmpYes X0.here hx rfl (pc0 := 29) (pc' := 36) rfl (hb hby d3_29) rfl (feq hc9).2 (by decide) (by decide) ?_
          refine XS.iconst X0.here hx rfl (hb hby d3_36) ?_
          show Steps p.tables e below (s₁.setTop (mkF m 37 #[.val (.ref o1), .val (.ref o2), .val (.ref o3), .val (.int 1), .val (.int 3), .val (.int p4)] [(.int 0)])) _
          exact retN X0 hx (t := .boolean) hret (by simp) (hb hby d3_37) hr
        ·
          show Q36 Z o1 o2 o3 p4 p6 p7 p8 p10 p11 p12 p14 p15 p16 kc5 kc9 kc13 h0 n0 _ s₁.heap _
          rw [e0]
          exact (Or.inr (Or.inl ⟨hc3, hc6, hc9, rfl, N0, rfl⟩))
    ·
      obtain ⟨fs, hr, hrun, hended, hW, hsame⟩ := X0.leave (v := some (.int 0)) (fun h => by rw [hret] at h; cases h)
      refine ⟨_, _, pre5 _ ?_, hrun, hended, _, _, rfl, ?_, ⟨_, rfl⟩, hW, hsame.mono (by decide) (by decide)⟩
      ·
        show Steps p.tables e below (s₁.setTop (mkF m 21 #[.val (.ref o1), .val (.ref o2), .val (.ref o3), .val (.int 1), .val (.int 3), .val (.int p4)] [(.int p4), (.int p11)])) _
        refine XS.icmpYes X0.here hx rfl (pc0 := 21) (pc' := 36) rfl (hb hby d3_21) rfl (feq hc6).2 (by decide) (by decide) ?_
        refine XS.iconst X0.here hx rfl (hb hby d3_36) ?_
        show Steps p.tables e below (s₁.setTop (mkF m 37 #[.val (.ref o1), .val (.ref o2), .val (.ref o3), .val (.int 1), .val (.int 3), .val (.int p4)] [(.int 0)])) _
        exact retN X0 hx (t := .boolean) hret (by simp) (hb hby d3_37) hr
      ·
        show Q36 Z o1 o2 o3 p4 p6 p7 p8 p10 p11 p12 p14 p15 p16 kc5 kc9 kc13 h0 n0 _ s₁.heap _
        rw [e0]
        exact (Or.inr (Or.inr (Or.inl ⟨hc3, hc6, rfl, N0, rfl⟩)))
  ·
    obtain ⟨fs, hr, hrun, hended, hW, hsame⟩ := X0.leave (v := some (.int 0)) (fun h => by rw [hret] at h; cases h)
    refine ⟨_, _, pre2 _ ?_, hrun, hended, _, _, rfl, ?_, ⟨_, rfl⟩, hW, hsame.mono (by decide) (by decide)⟩
    ·
      show Steps p.tables e below (s₁.setTop (mkF m 13 #[.val (.ref o1), .val (.ref o2), .val (.ref o3), .val (.int 1), .val (.int 3), .val (.int p4)] [(.int p4), (.int p7)])) _
      refine XS.icmpYes X0.here hx rfl (pc0 := 13) (pc' := 36) rfl (hb hby d3_13) rfl (feq hc3).2 (by decide) (by decide) ?_
      refine XS.iconst X0.here hx rfl (hb hby d3_36) ?_
      show Steps p.tables e below (s₁.setTop (mkF m 37 #[.val (.ref o1), .val (.ref o2), .val (.ref o3), .val (.int 1), .val (.int 3), .val (.int p4)] [(.int 0)])) _
      exact retN X0 hx (t := .boolean) hret (by simp) (hb hby d3_37) hr
    ·
      show Q36 Z o1 o2 o3 p4 p6 p7 p8 p10 p11 p12 p14 p15 p16 kc5 kc9 kc13 h0 n0 _ s₁.heap _
      rw [e0]
      exact (Or.inr (Or.inr (Or.inr ⟨hc3, rfl, N0, rfl⟩)))
theorem ef37 (m : MethodId) (x0 : Addr) (x1 : Addr) (x2 : Addr) (x3 : Int32) (x4 : Int32) (x5 : Int32) : entryFrame m #[(.ref x0), (.ref x1), (.ref x2), (.int x3), (.int x4), (.int x5)] 6 = mkF m 0 #[.val (.ref x0), .val (.ref x1), .val (.ref x2), .val (.int x3), .val (.int x4), .val (.int x5)] [] := by first | (simp [entryFrame, mkF, argsToLocals, Value.category]; done) | rfl
def Q37 (Z : State) (o1 : Addr) (o2 : Addr) (o3 : Addr) (p4 : Int32) (p6 : Int32) (p7 : Int32) (p8 : Int32) (p10 : Int32) (p11 : Int32) (p12 : Int32) (p14 : Int32) (p15 : Int32) (p16 : Int32) (kc5 : ClassId) (kc9 : ClassId) (kc13 : ClassId) (h0 : Heap) (n0 : Nat) (v : Option Value) (h : Heap) (L : List Loc) : Prop :=
  ((p8 = p4) ∧ (p12 = p4) ∧ (p16 = p4) ∧ v = some (.int 1) ∧ Fr n0 L ∧ h = h0)
  ∨ ((p8 = p4) ∧ (p12 = p4) ∧ (¬ (p16 = p4)) ∧ v = some (.int 0) ∧ Fr n0 L ∧ h = h0)
  ∨ ((p8 = p4) ∧ (¬ (p12 = p4)) ∧ v = some (.int 0) ∧ Fr n0 L ∧ h = h0)
  ∨ ((¬ (p8 = p4)) ∧ v = some (.int 0) ∧ Fr n0 L ∧ h = h0)
set_option maxRecDepth 65536 in
set_option maxHeartbeats 40000000 in
theorem rm37 (l : Launch) (Z : State) (a0 : Array Value) (hw : ∀ d ∈ tables_1, d.before a0 Z = true) (ws : List Jvm.Cond) (o1 : Addr) (o2 : Addr) (o3 : Addr) (p4 : Int32) (p6 : Int32) (p7 : Int32) (p8 : Int32) (p10 : Int32) (p11 : Int32) (p12 : Int32) (p14 : Int32) (p15 : Int32) (p16 : Int32) (kc5 : ClassId) (kc9 : ClassId) (kc13 : ClassId) (h0 : Heap) (n0 : Nat) (O0 : Old Z n0 h0) (g_o1 : n0 ≤ o1) (g_o2 : n0 ≤ o2) (g_o3 : n0 ≤ o3) (bd_p4 : 0 ≤ p4.toInt ∧ p4.toInt ≤ 1) (bd_p6 : 0 ≤ p6.toInt ∧ p6.toInt ≤ 1) (bd_p7 : 0 ≤ p7.toInt ∧ p7.toInt ≤ 1) (bd_p8 : 0 ≤ p8.toInt ∧ p8.toInt ≤ 1) (bd_p10 : 0 ≤ p10.toInt ∧ p10.toInt ≤ 1) (bd_p11 : 0 ≤ p11.toInt ∧ p11.toInt ≤ 1) (bd_p12 : 0 ≤ p12.toInt ∧ p12.toInt ≤ 1) (bd_p14 : 0 ≤ p14.toInt ∧ p14.toInt ≤ 1) (bd_p15 : 0 ≤ p15.toInt ∧ p15.toInt ≤ 1) (bd_p16 : 0 ≤ p16.toInt ∧ p16.toInt ≤ 1) (P0 : Arv Z h0 o1 kc5 .boolean (3 : Int32) [(.int p6), (.int p7), (.int p8)] (.int 0)) (P2 : Arv Z h0 o2 kc9 .boolean (3 : Int32) [(.int p10), (.int p11), (.int p12)] (.int 0)) (P4 : Arv Z h0 o3 kc13 .boolean (3 : Int32) [(.int p14), (.int p15), (.int p16)] (.int 0)) :
    MetFree l yn3 (head1 (Jvm.Cond.code yn3 method_3_code 6 (some .boolean) :: ws) ({ frames := 0, cells := 0, slots := 0, locals := 0 } : Room)) (fun a U => a = #[(.ref o1), (.ref o2), (.ref o3), (.int 2), (.int 3), (.int p4)] ∧ Z.Warmed39 U.vm ∧ U.heap = h0) (fun _ _ _ _ _ => True) (fun _ U o U' => ∃ v L, o = .returned v ∧ Q37 Z o1 o2 o3 p4 p6 p7 p8 p10 p11 p12 p14 p15 p16 kc5 kc9 kc13 h0 n0 v U'.heap L ∧ FrameEnd U o U' L ({ frames := 0, cells := 0, slots := 0, locals := 0 } : Room).cells ({ frames := 0, cells := 0, slots := 0, locals := 0 } : Room).slots) := by
  refine MetFree.of_bodySF (plainFor_of_name pn2) hisR ?_
  intro p e s m args below meth c s₁ Bd hml0 hP hK
  obtain ⟨rfl, hZ, hh⟩ := hP
  have hx := Bd.exec
  have hby := Bd.bytes
  have hml : c.maxLocals = 6 := hml0
  have hown : s.vm.findClass "com/example/castless/castless/PrimitiveArraysBoxPinLaw" = some m.cls := findClass_of_methodNamed Bd.named
  have hnm := (name_of_methodNamed Bd.named Bd.method).1
  have hret := Bd.returns
  have hlk : meth.locks = false := BodyLoose.notSynchronized Bd
  have X0 : Stand p l e ({ frames := 0, cells := 0, slots := 0, locals := 0 } : Room) s m #[(.ref o1), (.ref o2), (.ref o3), (.int 2), (.int 3), (.int p4)] below meth c s₁ [] 0 0 := Stand.of_body Bd
  have e0 : s₁.heap = h0 := by rw [← hh, Bd.state]; rfl
  have N0 := Fr.nil n0
  have pre0 : ∀ t, Steps p.tables e below (s₁.setTop (mkF m 0 #[.val (.ref o1), .val (.ref o2), .val (.ref o3), .val (.int 2), .val (.int 3), .val (.int p4)] [])) t → Steps p.tables e below (s₁.setTop (entryFrame m #[(.ref o1), (.ref o2), (.ref o3), (.int 2), (.int 3), (.int p4)] 6)) t := fun t k => castTop (ef37 m o1 o2 o3 (2 : Int32) (3 : Int32) p4) k
  obtain ⟨cl1, Ar1, qa1, Sa1, Na1, Ha1, Ga1⟩ := id (P0)
  have hin1 : ¬ ((2 : Int32) < 0 ∨ cl1.slots.size ≤ ((2 : Int32)).toNatClampNeg) := inb_of Sa1 ⟨by decide, by decide⟩
  have hat1 : cl1.slots[((2 : Int32)).toNatClampNeg]? = some (.int p8) := Has.at Ha1 hin1 rfl
  have pre2 : ∀ t, Steps p.tables e below (s₁.setTop (mkF m 13 #[.val (.ref o1), .val (.ref o2), .val (.ref o3), .val (.int 2), .val (.int 3), .val (.int p4)] [(.int p4), (.int p8)])) t → Steps p.tables e below (s₁.setTop (entryFrame m #[(.ref o1), (.ref o2), (.ref o3), (.int 2), (.int 3), (.int p4)] 6)) t := fun t k => by
    refine pre0 _ ?_
    show Steps p.tables e below (s₁.setTop (mkF m 0 #[.val (.ref o1), .val (.ref o2), .val (.ref o3), .val (.int 2), .val (.int 3), .val (.int p4)] [])) _
    refine XS.iloadN X0.here hx rfl (hb hby d3_0) rfl ?_
    refine XS.iload X0.here hx rfl (hb hby d3_1) rfl ?_
    refine XS.icmpYes X0.here hx rfl (pc0 := 3) (pc' := 8) rfl (hb hby d3_3) rfl (tlt (by decide : (2 : Int32) < (3 : Int32))).1 (by decide) (by decide) ?_
    refine XS.aloadN X0.here hx rfl (hb hby d3_8) rfl rfl ?_
    refine XS.iloadN X0.here hx rfl (hb hby d3_9) rfl ?_
    refine X0.baloadBooleans hx (j := (2 : Int32)) (v := (.int p8)) (by rw [e0]; exact Ar1.1) (State.isArrayOf_alike hZ.alike Ar1.2.1) Ar1.2.2 hin1 hat1 (g := (mkF m 10 #[.val (.ref o1), .val (.ref o2), .val (.ref o3), .val (.int 2), .val (.int 3), .val (.int p4)] [(.int 2), (.ref o1)])) rfl rfl (hb hby d3_10) _ ?_
    refine XS.iload X0.here hx rfl (hb hby d3_11) rfl ?_
    exact k
  by_cases hc3 : p8 = p4
  ·
    obtain ⟨cl4, Ar4, qa4, Sa4, Na4, Ha4, Ga4⟩ := id (P2)
    have hin4 : ¬ ((2 : Int32) < 0 ∨ cl4.slots.size ≤ ((2 : Int32)).toNatClampNeg) := inb_of Sa4 ⟨by decide, by decide⟩
    have hat4 : cl4.slots[((2 : Int32)).toNatClampNeg]? = some (.int p12) := Has.at Ha4 hin4 rfl
    have pre5 : ∀ t, Steps p.tables e below (s₁.setTop (mkF m 21 #[.val (.ref o1), .val (.ref o2), .val (.ref o3), .val (.int 2), .val (.int 3), .val (.int p4)] [(.int p4), (.int p12)])) t → Steps p.tables e below (s₁.setTop (entryFrame m #[(.ref o1), (.ref o2), (.ref o3), (.int 2), (.int 3), (.int p4)] 6)) t := fun t k => by
      refine pre2 _ ?_
      show Steps p.tables e below (s₁.setTop (mkF m 13 #[.val (.ref o1), .val (.ref o2), .val (.ref o3), .val (.int 2), .val (.int 3), .val (.int p4)] [(.int p4), (.int p8)])) _
      refine XS.icmpNo X0.here hx rfl (hb hby d3_13) rfl (teq hc3).2 ?_
      refine XS.aloadN X0.here hx rfl (hb hby d3_16) rfl rfl ?_
      refine XS.iloadN X0.here hx rfl (hb hby d3_17) rfl ?_
      refine X0.baloadBooleans hx (j := (2 : Int32)) (v := (.int p12)) (by rw [e0]; exact Ar4.1) (State.isArrayOf_alike hZ.alike Ar4.2.1) Ar4.2.2 hin4 hat4 (g := (mkF m 18 #[.val (.ref o1), .val (.ref o2), .val (.ref o3), .val (.int 2), .val (.int 3), .val (.int p4)] [(.int 2), (.ref o2)])) rfl rfl (hb hby d3_18) _ ?_
      refine XS.iload X0.here hx rfl (hb hby d3_19) rfl ?_
      exact k
    by_cases hc6 : p12 = p4
    ·
      obtain ⟨cl7, Ar7, qa7, Sa7, Na7, Ha7, Ga7⟩ := id (P4)
      have hin7 : ¬ ((2 : Int32) < 0 ∨ cl7.slots.size ≤ ((2 : Int32)).toNatClampNeg) := inb_of Sa7 ⟨by decide, by decide⟩
      have hat7 : cl7.slots[((2 : Int32)).toNatClampNeg]? = some (.int p16) := Has.at Ha7 hin7 rfl
      have pre8 : ∀ t, Steps p.tables e below (s₁.setTop (mkF m 29 #[.val (.ref o1), .val (.ref o2), .val (.ref o3), .val (.int 2), .val (.int 3), .val (.int p4)] [(.int p4), (.int p16)])) t → Steps p.tables e below (s₁.setTop (entryFrame m #[(.ref o1), (.ref o2), (.ref o3), (.int 2), (.int 3), (.int p4)] 6)) t := fun t k => by
        refine pre5 _ ?_
        show Steps p.tables e below (s₁.setTop (mkF m 21 #[.val (.ref o1), .val (.ref o2), .val (.ref o3), .val (.int 2), .val (.int 3), .val (.int p4)] [(.int p4), (.int p12)])) _
        refine XS.icmpNo X0.here hx rfl (hb hby d3_21) rfl (teq hc6).2 ?_
        refine XS.aloadN X0.here hx rfl (hb hby d3_24) rfl rfl ?_
        refine XS.iloadN X0.here hx rfl (hb hby d3_25) rfl ?_
        refine X0.baloadBooleans hx (j := (2 : Int32)) (v := (.int p16)) (by rw [e0]; exact Ar7.1) (State.isArrayOf_alike hZ.alike Ar7.2.1) Ar7.2.2 hin7 hat7 (g := (mkF m 26 #[.val (.ref o1), .val (.ref o2), .val (.ref o3), .val (.int 2), .val (.int 3), .val (.int p4)] [(.int 2), (.ref o3)])) rfl rfl (hb hby d3_26) _ ?_
        refine XS.iload X0.here hx rfl (hb hby d3_27) rfl ?_
        exact k
      by_cases hc9 : p16 = p4
      ·
        obtain ⟨fs, hr, hrun, hended, hW, hsame⟩ := X0.leave (v := some (.int 1)) (fun h => by rw [hret] at h; cases h)
        refine ⟨_, _, pre8 _ ?_, hrun, hended, _, _, rfl, ?_, ⟨_, rfl⟩, hW, hsame.mono (by decide) (by decide)⟩
        ·
          show Steps p.tables e below (s₁.setTop (mkF m 29 #[.val (.ref o1), .val (.ref o2), .val (.ref o3), .val (.int 2), .val (.int 3), .val (.int p4)] [(.int p4), (.int p16)])) _
          refine XS.icmpNo X0.here hx rfl (hb hby d3_29) rfl (teq hc9).2 ?_
          refine XS.iconst X0.here hx rfl (hb hby d3_32) ?_
          refine XS.goto X0.here hx rfl (pc0 := 33) (pc' := 37) rfl (hb hby d3_33) (by decide) (by decide) ?_
          show Steps p.tables e below (s₁.setTop (mkF m 37 #[.val (.ref o1), .val (.ref o2), .val (.ref o3), .val (.int 2), .val (.int 3), .val (.int p4)] [(.int 1)])) _
          exact retN X0 hx (t := .boolean) hret (by simp) (hb hby d3_37) hr
        ·
          show Q37 Z o1 o2 o3 p4 p6 p7 p8 p10 p11 p12 p14 p15 p16 kc5 kc9 kc13 h0 n0 _ s₁.heap _
          rw [e0]
          exact (Or.inl ⟨hc3, hc6, hc9, rfl, N0, rfl⟩)
      ·
        obtain ⟨fs, hr, hrun, hended, hW, hsame⟩ := X0.leave (v := some (.int 0)) (fun h => by rw [hret] at h; cases h)
        refine ⟨_, _, pre8 _ ?_, hrun, hended, _, _, rfl, ?_, ⟨_, rfl⟩, hW, hsame.mono (by decide) (by decide)⟩
        ·
          show Steps p.tables e below (s₁.setTop (mkF m 29 #[.val (.ref o1), .val (.ref o2), .val (.ref o3), .val (.int 2), .val (.int 3), .val (.int p4)] [(.int p4), (.int p16)])) _
          refine XS.icmpYes X0.here hx rfl (pc0 := 29) (pc' := 36) rfl (hb hby d3_29) rfl (feq hc9).2 (by decide) (by decide) ?_
          refine XS.iconst X0.here hx rfl (hb hby d3_36) ?_
          show Steps p.tables e below (s₁.setTop (mkF m 37 #[.val (.ref o1), .val (.ref o2), .val (.ref o3), .val (.int 2), .val (.int 3), .val (.int p4)] [(.int 0)])) _
          exact retN X0 hx (t := .boolean) hret (by simp) (hb hby d3_37) hr
        ·
          show Q37 Z o1 o2 o3 p4 p6 p7 p8 p10 p11 p12 p14 p15 p16 kc5 kc9 kc13 h0 n0 _ s₁.heap _
          rw [e0]
          exact (Or.inr (Or.inl ⟨hc3, hc6, hc9, rfl, N0, rfl⟩))
    ·
      obtain ⟨fs, hr, hrun, hended, hW, hsame⟩ := X0.leave (v := some (.int 0)) (fun h => by rw [hret] at h; cases h)
      refine ⟨_, _, pre5 _ ?_, hrun, hended, _, _, rfl, ?_, ⟨_, rfl⟩, hW, hsame.mono (by decide) (by decide)⟩
      ·
        show Steps p.tables e below (s₁.setTop (mkF m 21 #[.val (.ref o1), .val (.ref o2), .val (.ref o3), .val (.int 2), .val (.int 3), .val (.int p4)] [(.int p4), (.int p12)])) _
        refine XS.icmpYes X0.here hx rfl (pc0 := 21) (pc' := 36) rfl (hb hby d3_21) rfl (feq hc6).2 (by decide) (by decide) ?_
        refine XS.iconst X0.here hx rfl (hb hby d3_36) ?_
        show Steps p.tables e below (s₁.setTop (mkF m 37 #[.val (.ref o1), .val (.ref o2), .val (.ref o3), .val (.int 2), .val (.int 3), .val (.int p4)] [(.int 0)])) _
        exact retN X0 hx (t := .boolean) hret (by simp) (hb hby d3_37) hr
      ·
        show Q37 Z o1 o2 o3 p4 p6 p7 p8 p10 p11 p12 p14 p15 p16 kc5 kc9 kc13 h0 n0 _ s₁.heap _
        rw [e0]
        exact (Or.inr (Or.inr (Or.inl ⟨hc3, hc6, rfl, N0, rfl⟩)))
  ·
    obtain ⟨fs, hr, hrun, hended, hW, hsame⟩ := X0.leave (v := some (.int 0)) (fun h => by rw [hret] at h; cases h)
    refine ⟨_, _, pre2 _ ?_, hrun, hended, _, _, rfl, ?_, ⟨_, rfl⟩, hW, hsame.mono (by decide) (by decide)⟩
    ·
      show Steps p.tables e below (s₁.setTop (mkF m 13 #[.val (.ref o1), .val (.ref o2), .val (.ref o3), .val (.int 2), .val (.int 3), .val (.int p4)] [(.int p4), (.int p8)])) _
      refine XS.icmpYes X0.here hx rfl (pc0 := 13) (pc' := 36) rfl (hb hby d3_13) rfl (feq hc3).2 (by decide) (by decide) ?_
      refine XS.iconst X0.here hx rfl (hb hby d3_36) ?_
      show Steps p.tables e below (s₁.setTop (mkF m 37 #[.val (.ref o1), .val (.ref o2), .val (.ref o3), .val (.int 2), .val (.int 3), .val (.int p4)] [(.int 0)])) _
      exact retN X0 hx (t := .boolean) hret (by simp) (hb hby d3_37) hr
    ·
      show Q37 Z o1 o2 o3 p4 p6 p7 p8 p10 p11 p12 p14 p15 p16 kc5 kc9 kc13 h0 n0 _ s₁.heap _
      rw [e0]
      exact (Or.inr (Or.inr (Or.inr ⟨hc3, rfl, N0, rfl⟩)))
theorem ef38 (m : MethodId) (x0 : Addr) (x1 : Addr) (x2 : Addr) (x3 : Int32) (x4 : Int32) (x5 : Int32) : entryFrame m #[(.ref x0), (.ref x1), (.ref x2), (.int x3), (.int x4), (.int x5)] 6 = mkF m 0 #[.val (.ref x0), .val (.ref x1), .val (.ref x2), .val (.int x3), .val (.int x4), .val (.int x5)] [] := by first | (simp [entryFrame, mkF, argsToLocals, Value.category]; done) | rfl
def Q38 (Z : State) (o1 : Addr) (o2 : Addr) (o3 : Addr) (p4 : Int32) (p6 : Int32) (p7 : Int32) (p8 : Int32) (p10 : Int32) (p11 : Int32) (p12 : Int32) (p14 : Int32) (p15 : Int32) (p16 : Int32) (h0 : Heap) (n0 : Nat) (v : Option Value) (h : Heap) (L : List Loc) : Prop :=
  (v = some (.int 1) ∧ Fr n0 L ∧ h = h0)
set_option maxRecDepth 65536 in
set_option maxHeartbeats 40000000 in
theorem rm38 (l : Launch) (Z : State) (a0 : Array Value) (hw : ∀ d ∈ tables_1, d.before a0 Z = true) (ws : List Jvm.Cond) (o1 : Addr) (o2 : Addr) (o3 : Addr) (p4 : Int32) (p6 : Int32) (p7 : Int32) (p8 : Int32) (p10 : Int32) (p11 : Int32) (p12 : Int32) (p14 : Int32) (p15 : Int32) (p16 : Int32) (h0 : Heap) (n0 : Nat) (O0 : Old Z n0 h0) (g_o1 : n0 ≤ o1) (g_o2 : n0 ≤ o2) (g_o3 : n0 ≤ o3) (bd_p4 : 0 ≤ p4.toInt ∧ p4.toInt ≤ 1) (bd_p6 : 0 ≤ p6.toInt ∧ p6.toInt ≤ 1) (bd_p7 : 0 ≤ p7.toInt ∧ p7.toInt ≤ 1) (bd_p8 : 0 ≤ p8.toInt ∧ p8.toInt ≤ 1) (bd_p10 : 0 ≤ p10.toInt ∧ p10.toInt ≤ 1) (bd_p11 : 0 ≤ p11.toInt ∧ p11.toInt ≤ 1) (bd_p12 : 0 ≤ p12.toInt ∧ p12.toInt ≤ 1) (bd_p14 : 0 ≤ p14.toInt ∧ p14.toInt ≤ 1) (bd_p15 : 0 ≤ p15.toInt ∧ p15.toInt ≤ 1) (bd_p16 : 0 ≤ p16.toInt ∧ p16.toInt ≤ 1) :
    MetFree l yn3 (head1 (Jvm.Cond.code yn3 method_3_code 6 (some .boolean) :: ws) ({ frames := 0, cells := 0, slots := 0, locals := 0 } : Room)) (fun a U => a = #[(.ref o1), (.ref o2), (.ref o3), (.int 3), (.int 3), (.int p4)] ∧ Z.Warmed39 U.vm ∧ U.heap = h0) (fun _ _ _ _ _ => True) (fun _ U o U' => ∃ v L, o = .returned v ∧ Q38 Z o1 o2 o3 p4 p6 p7 p8 p10 p11 p12 p14 p15 p16 h0 n0 v U'.heap L ∧ FrameEnd U o U' L ({ frames := 0, cells := 0, slots := 0, locals := 0 } : Room).cells ({ frames := 0, cells := 0, slots := 0, locals := 0 } : Room).slots) := by
  refine MetFree.of_bodySF (plainFor_of_name pn2) hisR ?_
  intro p e s m args below meth c s₁ Bd hml0 hP hK
  obtain ⟨rfl, hZ, hh⟩ := hP
  have hx := Bd.exec
  have hby := Bd.bytes
  have hml : c.maxLocals = 6 := hml0
  have hown : s.vm.findClass "com/example/castless/castless/PrimitiveArraysBoxPinLaw" = some m.cls := findClass_of_methodNamed Bd.named
  have hnm := (name_of_methodNamed Bd.named Bd.method).1
  have hret := Bd.returns
  have hlk : meth.locks = false := BodyLoose.notSynchronized Bd
  have X0 : Stand p l e ({ frames := 0, cells := 0, slots := 0, locals := 0 } : Room) s m #[(.ref o1), (.ref o2), (.ref o3), (.int 3), (.int 3), (.int p4)] below meth c s₁ [] 0 0 := Stand.of_body Bd
  have e0 : s₁.heap = h0 := by rw [← hh, Bd.state]; rfl
  have N0 := Fr.nil n0
  have pre0 : ∀ t, Steps p.tables e below (s₁.setTop (mkF m 0 #[.val (.ref o1), .val (.ref o2), .val (.ref o3), .val (.int 3), .val (.int 3), .val (.int p4)] [])) t → Steps p.tables e below (s₁.setTop (entryFrame m #[(.ref o1), (.ref o2), (.ref o3), (.int 3), (.int 3), (.int p4)] 6)) t := fun t k => castTop (ef38 m o1 o2 o3 (3 : Int32) (3 : Int32) p4) k
  obtain ⟨fs, hr, hrun, hended, hW, hsame⟩ := X0.leave (v := some (.int 1)) (fun h => by rw [hret] at h; cases h)
  refine ⟨_, _, pre0 _ ?_, hrun, hended, _, _, rfl, ?_, ⟨_, rfl⟩, hW, hsame.mono (by decide) (by decide)⟩
  ·
    show Steps p.tables e below (s₁.setTop (mkF m 0 #[.val (.ref o1), .val (.ref o2), .val (.ref o3), .val (.int 3), .val (.int 3), .val (.int p4)] [])) _
    refine XS.iloadN X0.here hx rfl (hb hby d3_0) rfl ?_
    refine XS.iload X0.here hx rfl (hb hby d3_1) rfl ?_
    refine XS.icmpNo X0.here hx rfl (hb hby d3_3) rfl (flt (by decide : ¬ ((3 : Int32) < (3 : Int32)))).1 ?_
    refine XS.iconst X0.here hx rfl (hb hby d3_6) ?_
    show Steps p.tables e below (s₁.setTop (mkF m 7 #[.val (.ref o1), .val (.ref o2), .val (.ref o3), .val (.int 3), .val (.int 3), .val (.int p4)] [(.int 1)])) _
    exact retN X0 hx (t := .boolean) hret (by simp) (hb hby d3_7) hr
  ·
    show Q38 Z o1 o2 o3 p4 p6 p7 p8 p10 p11 p12 p14 p15 p16 h0 n0 _ s₁.heap _
    rw [e0]
    exact ⟨rfl, N0, rfl⟩
theorem ef39 (m : MethodId) (x0 : Addr) (x1 : Addr) : entryFrame m #[(.ref x0), (.ref x1)] 2 = mkF m 0 #[.val (.ref x0), .val (.ref x1)] [] := by first | (simp [entryFrame, mkF, argsToLocals, Value.category]; done) | rfl
def Q39 (Z : State) (o1 : Addr) (u2 : Addr) (h0 : Heap) (n0 : Nat) (v : Option Value) (h : Heap) (L : List Loc) : Prop :=
  (v = some (.ref o1) ∧ Fr n0 L ∧ h = h0)
set_option maxRecDepth 65536 in
set_option maxHeartbeats 40000000 in
theorem rm39 (l : Launch) (Z : State) (a0 : Array Value) (hw : ∀ d ∈ tables_1, d.before a0 Z = true) (ws : List Jvm.Cond) (o1 : Addr) (u2 : Addr) (h0 : Heap) (n0 : Nat) (O0 : Old Z n0 h0) (g_o1 : n0 ≤ o1) :
    MetFree l yn0 (head1 (Jvm.Cond.code yn0 jdk_31_method_11_code 2 (some (.object "java/lang/Object")) :: ws) ({ frames := 0, cells := 0, slots := 0, locals := 0 } : Room)) (fun a U => a = #[(.ref o1), (.ref u2)] ∧ Z.Warmed39 U.vm ∧ U.heap = h0) (fun _ _ _ _ _ => True) (fun _ U o U' => ∃ v L, o = .returned v ∧ Q39 Z o1 u2 h0 n0 v U'.heap L ∧ FrameEnd U o U' L ({ frames := 0, cells := 0, slots := 0, locals := 0 } : Room).cells ({ frames := 0, cells := 0, slots := 0, locals := 0 } : Room).slots) := by
  refine MetFree.of_bodySF (plainFor_of_name pn0) hisR ?_
  intro p e s m args below meth c s₁ Bd hml0 hP hK
  obtain ⟨rfl, hZ, hh⟩ := hP
  have hx := Bd.exec
  have hby := Bd.bytes
  have hml : c.maxLocals = 2 := hml0
  have hown : s.vm.findClass "java/util/Objects" = some m.cls := findClass_of_methodNamed Bd.named
  have hnm := (name_of_methodNamed Bd.named Bd.method).1
  have hret := Bd.returns
  have hlk : meth.locks = false := BodyLoose.notSynchronized Bd
  have X0 : Stand p l e ({ frames := 0, cells := 0, slots := 0, locals := 0 } : Room) s m #[(.ref o1), (.ref u2)] below meth c s₁ [] 0 0 := Stand.of_body Bd
  have e0 : s₁.heap = h0 := by rw [← hh, Bd.state]; rfl
  have N0 := Fr.nil n0
  have pre0 : ∀ t, Steps p.tables e below (s₁.setTop (mkF m 0 #[.val (.ref o1), .val (.ref u2)] [])) t → Steps p.tables e below (s₁.setTop (entryFrame m #[(.ref o1), (.ref u2)] 2)) t := fun t k => castTop (ef39 m o1 u2) k
  obtain ⟨fs, hr, hrun, hended, hW, hsame⟩ := X0.leave (v := some (.ref o1)) (fun h => by rw [hret] at h; cases h)
  refine ⟨_, _, pre0 _ ?_, hrun, hended, _, _, rfl, ?_, ⟨_, rfl⟩, hW, hsame.mono (by decide) (by decide)⟩
  ·
    show Steps p.tables e below (s₁.setTop (mkF m 0 #[.val (.ref o1), .val (.ref u2)] [])) _
    refine XS.aloadN X0.here hx rfl (hb hby d1_0) rfl rfl ?_
    refine XS.ifnonnullYes X0.here hx rfl (pc0 := 1) (pc' := 13) rfl (hb hby d1_1) rfl (by decide) (by decide) ?_
    refine XS.aloadN X0.here hx rfl (hb hby d1_13) rfl rfl ?_
    show Steps p.tables e below (s₁.setTop (mkF m 14 #[.val (.ref o1), .val (.ref u2)] [(.ref o1)])) _
    exact retOut X0 hx hret rfl (Or.inr (Or.inr (Or.inr (Or.inr ⟨rfl, rfl, rfl⟩)))) (hb hby d1_14) hr
  ·
    show Q39 Z o1 u2 h0 n0 _ s₁.heap _
    rw [e0]
    exact ⟨rfl, N0, rfl⟩
theorem ef40 (m : MethodId) (x0 : Addr) : entryFrame m #[(.ref x0)] 3 = mkF m 0 #[.val (.ref x0), .unset, .unset] [] := by first | (simp [entryFrame, mkF, argsToLocals, Value.category]; done) | rfl
def Q40 (Z : State) (w1 : Addr) (w2 : Addr) (o1 : Addr) (p3 : Int32) (p4 : Int32) (p5 : Int32) (p6 : Int32) (kc2 : ClassId) (h0 : Heap) (n0 : Nat) (v : Option Value) (h : Heap) (L : List Loc) : Prop :=
  (∃ b8 : Addr, ∃ k8 : ClassId, ∃ v13 : Addr, ∃ v26 : Addr, ∃ v37 : Addr, ∃ v48 : Addr, v = some (.ref b8) ∧ Fr n0 L ∧ Keep h0 h [] ∧ h0.size ≤ b8 ∧ Ovr Z k8 "java/lang/Boolean" ∧ (Arv Z h b8 k8 (.object "java/lang/Boolean") (4 : Int32) [(.ref v13), (.ref v26), (.ref v37), (.ref v48)] .null) ∧ (Exa Z h b8 "[Ljava/lang/Boolean;") ∧ (Exa Z Z.heap v13 "java/lang/Boolean") ∧ (Fld Z Z.heap v13 "java/lang/Boolean" "value" "Z" (.int p3)) ∧ (Exa Z Z.heap v26 "java/lang/Boolean") ∧ (Fld Z Z.heap v26 "java/lang/Boolean" "value" "Z" (.int p4)) ∧ (Exa Z Z.heap v37 "java/lang/Boolean") ∧ (Fld Z Z.heap v37 "java/lang/Boolean" "value" "Z" (.int p5)) ∧ (Exa Z Z.heap v48 "java/lang/Boolean") ∧ (Fld Z Z.heap v48 "java/lang/Boolean" "value" "Z" (.int p6)))
set_option maxRecDepth 65536 in
set_option maxHeartbeats 40000000 in
theorem rm40 (l : Launch) (Z : State) (a0 : Array Value) (hw : ∀ d ∈ tables_1, d.before a0 Z = true) (w1 : Addr) (w2 : Addr) (G : GW Z w1 w2) (ws : List Jvm.Cond) (o1 : Addr) (p3 : Int32) (p4 : Int32) (p5 : Int32) (p6 : Int32) (kc2 : ClassId) (h0 : Heap) (n0 : Nat) (O0 : Old Z n0 h0) (g_o1 : n0 ≤ o1) (bd_p3 : 0 ≤ p3.toInt ∧ p3.toInt ≤ 1) (bd_p4 : 0 ≤ p4.toInt ∧ p4.toInt ≤ 1) (bd_p5 : 0 ≤ p5.toInt ∧ p5.toInt ≤ 1) (bd_p6 : 0 ≤ p6.toInt ∧ p6.toInt ≤ 1) (P0 : Arv Z h0 o1 kc2 .boolean (4 : Int32) [(.int p3), (.int p4), (.int p5), (.int p6)] (.int 0)) :
    MetFree l yn1 (head1 (Jvm.Cond.code yn1 prog_11_method_2_code 3 (some (.array (.object "java/lang/Boolean"))) :: ws) ({ frames := 1, cells := 3, slots := 60, locals := 14 } : Room)) (fun a U => a = #[(.ref o1)] ∧ Z.Warmed39 U.vm ∧ U.heap = h0) (fun _ _ _ _ _ => True) (fun _ U o U' => ∃ v L, o = .returned v ∧ Q40 Z w1 w2 o1 p3 p4 p5 p6 kc2 h0 n0 v U'.heap L ∧ ReturnedEndW U o U' L ({ frames := 1, cells := 3, slots := 60, locals := 14 } : Room).cells ({ frames := 1, cells := 3, slots := 60, locals := 14 } : Room).slots) := by
  obtain ⟨S_w1, E_w1, S_w2, E_w2, F_w1_value, F_w2_value⟩ := id G
  refine MetFree.of_bodySF (plainFor_of_name pn1) hisR ?_
  intro p e s m args below meth c s₁ Bd hml0 hP hK
  obtain ⟨rfl, hZ, hh⟩ := hP
  have hx := Bd.exec
  have hby := Bd.bytes
  have hml : c.maxLocals = 3 := hml0
  have hown : s.vm.findClass "com/example/castless/castless/PrimitiveArrays" = some m.cls := findClass_of_methodNamed Bd.named
  have hnm := (name_of_methodNamed Bd.named Bd.method).1
  have hret := Bd.returns
  have hlk : meth.locks = false := BodyLoose.notSynchronized Bd
  have X0 : Stand p l e ({ frames := 1, cells := 3, slots := 60, locals := 14 } : Room) s m #[(.ref o1)] below meth c s₁ [] 0 0 := Stand.of_body Bd
  have e0 : s₁.heap = h0 := by rw [← hh, Bd.state]; rfl
  have N0 := Fr.nil n0
  have pre0 : ∀ t, Steps p.tables e below (s₁.setTop (mkF m 0 #[.val (.ref o1), .unset, .unset] [])) t → Steps p.tables e below (s₁.setTop (entryFrame m #[(.ref o1)] 3)) t := fun t k => castTop (ef40 m o1) k
  have pre1 : ∀ t, Steps p.tables e below (s₁.setTop (mkF m 1 #[.val (.ref o1), .unset, .unset] [(.ref o1)])) t → Steps p.tables e below (s₁.setTop (entryFrame m #[(.ref o1)] 3)) t := fun t k => by
    refine pre0 _ ?_
    show Steps p.tables e below (s₁.setTop (mkF m 0 #[.val (.ref o1), .unset, .unset] [])) _
    refine XS.aloadN X0.here hx rfl (hb hby d0_0) rfl rfl ?_
    exact k
  obtain ⟨sx2, T2, h2, ks2, X2, e2, E2, hS2, hk2, hZ, hown, st2⟩ := ldcS (s := s) (vm0 := s.vm) X0 hx hZ hown (own_w hw 6 rfl) (own_sa hw) e0 ((State.WarmedH.refl s).since h0.size) (Nat.le_refl _) (g := (mkF m 1 #[.val (.ref o1), .unset, .unset] [(.ref o1)])) rfl (hb hby d0_1) (n := 52) (by decide) (by decide) (by decide) (by decide)
  have M2 : h0.size ≤ h2.size := Nat.le_trans (Nat.le_refl _) E2.1
  have O2 := Old.ext O0 E2
  obtain ⟨_, T3, L3, X3, hQ3, st3⟩ := own_cs X2 hx hZ hown (y := yn0) (own_w hw 14 rfl) (own_w hw 15 rfl) (own_w hw 17 rfl) (own_w hw 16 rfl) e2 (argsL := [(.ref o1), (.ref sx2)]) (rest := []) (rm39 l Z a0 hw [] o1 sx2 h2 n0 O2 g_o1) (g := (mkF m 3 #[.val (.ref o1), .unset, .unset] [(.ref sx2), (.ref o1)])) rfl (by rw [hml]; rfl) rfl (hb hby d0_3) (lenOf pd0 rfl) (W := 0) (c1 := 2) (s1 := 56)
  obtain ⟨rfl, Nq4, e5⟩ := hQ3
  have N3 := Fr.app N0 Nq4
  have f6 := (P0.ext E2)
  obtain ⟨cl7, Ar7, qa7, Sa7, Na7, Ha7, Ga7⟩ := id (f6)
  obtain ⟨T8, h8, k8, X8, e8, E8, A8, EX8, OV8, st8⟩ := newRE X3 hx hZ hown (own_w hw 18 rfl) (own_w hw 19 rfl) e5 (g := (mkF m 9 #[.val (.ref o1), .unset, .unset] [(.int 4)])) rfl (hb hby d0_9) rfl (by decide) (cap := 4) (by decide) (by decide) (by decide) (by decide) (ad := "[Ljava/lang/Boolean;") (by decide)
  obtain ⟨b8, g8⟩ : ∃ z, z = h2.size := ⟨_, rfl⟩
  rw [← g8] at A8 EX8 st8
  have hkk8 := Nat.le_trans hk2 E8.1
  have M8 : h0.size ≤ h8.size := Nat.le_trans M2 E8.1
  have O8 := Old.ext O2 E8
  have sz_b8 : h2.size ≤ b8 := Nat.le_of_eq g8.symm
  have g_b8 : n0 ≤ b8 := Nat.le_trans (own_oz O0) (Nat.le_trans M2 sz_b8)
  have V8_0 := Arv.new A8 (by decide)
  have V8 : Arv Z h8 b8 k8 (.object "java/lang/Boolean") (4 : Int32) [.null, .null, .null, .null] .null := V8_0.pad (pad_rep [] .null 4)
  have f9 := (f6.ext E8)
  obtain ⟨cl10, Ar10, qa10, Sa10, Na10, Ha10, Ga10⟩ := id (f9)
  obtain ⟨cl11, Ar11, qa11, Sa11, Na11, Ha11, Ga11⟩ := id (f9)
  have hin11 : ¬ ((0 : Int32) < 0 ∨ cl11.slots.size ≤ ((0 : Int32)).toNatClampNeg) := inb_of Sa11 ⟨by decide, by decide⟩
  have hat11 : cl11.slots[((0 : Int32)).toNatClampNeg]? = some (.int p3) := Has.at Ha11 hin11 rfl
  obtain ⟨_, T12, L12, X12, hQ12, st12⟩ := own_cs X8 hx hZ hown (y := yn4) (own_w hw 20 rfl) (own_w hw 21 rfl) (own_w hw 23 rfl) (own_w hw 22 rfl) e8 (argsL := [(.int p3)]) (rest := [(.int 0), (.ref b8)]) (rm11 l Z a0 hw w1 w2 G [] p3 h8 n0 O8 (by have q0 := bd_p3; omega)) (g := (mkF m 26 #[.val (.ref o1), .val (.ref b8), .val (.int 0)] [(.int p3), (.int 0), (.ref b8)])) rfl (by rw [hml]; rfl) rfl (hb hby d0_26) (lenOf pd4 rfl) (W := 2) (c1 := 3) (s1 := 60)
  obtain ⟨v13, rfl, Nq14, e15, f16, f17⟩ := hQ12
  have N12 := Fr.app N3 Nq14
  obtain ⟨cl18, Ar18, qa18, Sa18, Na18, Ha18, Ga18⟩ := id (V8)
  have hin18 : ¬ ((0 : Int32) < 0 ∨ cl18.slots.size ≤ ((0 : Int32)).toNatClampNeg) := inb_of Sa18 ⟨by decide, by decide⟩
  obtain ⟨T19, h19, X19, e19, W19, st19⟩ := stR X12 hx hZ e15 Ar18 (j := (0 : Int32)) hin18 rfl (Sto.ofV Ar18 qa18 OV8 (Ins.self (f16.ext O8.2))) (g := (mkF m 29 #[.val (.ref o1), .val (.ref b8), .val (.int 0)] [(.ref v13), (.int 0), (.ref b8)])) rfl rfl (hb hby d0_29)
  have V19 : Arv Z h19 b8 k8 (.object "java/lang/Boolean") (4 : Int32) [(.ref v13), .null, .null, .null] .null := Arv.set Ar18 qa18 Sa18 Na18 Ha18 Ga18 rfl W19 0 rfl (Nat.le_of_ble_eq_true rfl)
  have N19 := Fr.snoc X19 N12 g_b8
  have hkk19 := Nat.le_trans hkk8 (Nat.le_of_eq W19.size.symm)
  have M19 : h0.size ≤ h19.size := Nat.le_trans M8 (Nat.le_of_eq W19.size.symm)
  have O19 := Old.wr O8 W19 g_b8
  have lt20 : o1 < h2.size := (Nat.lt_of_lt_of_le P0.lt E2.1)
  have ne21 : o1 ≠ b8 := Nat.ne_of_lt (Nat.lt_of_lt_of_le lt20 sz_b8)
  have f22 := (f9.other W19 ne21)
  obtain ⟨cl23, Ar23, qa23, Sa23, Na23, Ha23, Ga23⟩ := id (f22)
  obtain ⟨cl24, Ar24, qa24, Sa24, Na24, Ha24, Ga24⟩ := id (f22)
  have hin24 : ¬ ((1 : Int32) < 0 ∨ cl24.slots.size ≤ ((1 : Int32)).toNatClampNeg) := inb_of Sa24 ⟨by decide, by decide⟩
  have hat24 : cl24.slots[((1 : Int32)).toNatClampNeg]? = some (.int p4) := Has.at Ha24 hin24 rfl
  obtain ⟨_, T25, L25, X25, hQ25, st25⟩ := own_cs X19 hx hZ hown (y := yn4) (own_w hw 20 rfl) (own_w hw 21 rfl) (own_w hw 23 rfl) (own_w hw 22 rfl) e19 (argsL := [(.int p4)]) (rest := [(.int 1), (.ref b8)]) (rm11 l Z a0 hw w1 w2 G [] p4 h19 n0 O19 (by have q0 := bd_p4; omega)) (g := (mkF m 26 #[.val (.ref o1), .val (.ref b8), .val (.int 1)] [(.int p4), (.int 1), (.ref b8)])) rfl (by rw [hml]; rfl) rfl (hb hby d0_26) (lenOf pd4 rfl) (W := 2) (c1 := 3) (s1 := 60)
  obtain ⟨v26, rfl, Nq27, e28, f29, f30⟩ := hQ25
  have N25 := Fr.app N19 Nq27
  obtain ⟨cl31, Ar31, qa31, Sa31, Na31, Ha31, Ga31⟩ := id (V19)
  have hin31 : ¬ ((1 : Int32) < 0 ∨ cl31.slots.size ≤ ((1 : Int32)).toNatClampNeg) := inb_of Sa31 ⟨by decide, by decide⟩
  obtain ⟨T32, h32, X32, e32, W32, st32⟩ := stR X25 hx hZ e28 Ar31 (j := (1 : Int32)) hin31 rfl (Sto.ofV Ar31 qa31 OV8 (Ins.self (f29.ext O19.2))) (g := (mkF m 29 #[.val (.ref o1), .val (.ref b8), .val (.int 1)] [(.ref v26), (.int 1), (.ref b8)])) rfl rfl (hb hby d0_29)
  have V32 : Arv Z h32 b8 k8 (.object "java/lang/Boolean") (4 : Int32) [(.ref v13), (.ref v26), .null, .null] .null := Arv.set Ar31 qa31 Sa31 Na31 Ha31 Ga31 rfl W32 1 rfl (Nat.le_of_ble_eq_true rfl)
  have N32 := Fr.snoc X32 N25 g_b8
  have hkk32 := Nat.le_trans hkk19 (Nat.le_of_eq W32.size.symm)
  have M32 : h0.size ≤ h32.size := Nat.le_trans M19 (Nat.le_of_eq W32.size.symm)
  have O32 := Old.wr O19 W32 g_b8
  have f33 := (f22.other W32 ne21)
  obtain ⟨cl34, Ar34, qa34, Sa34, Na34, Ha34, Ga34⟩ := id (f33)
  obtain ⟨cl35, Ar35, qa35, Sa35, Na35, Ha35, Ga35⟩ := id (f33)
  have hin35 : ¬ ((2 : Int32) < 0 ∨ cl35.slots.size ≤ ((2 : Int32)).toNatClampNeg) := inb_of Sa35 ⟨by decide, by decide⟩
  have hat35 : cl35.slots[((2 : Int32)).toNatClampNeg]? = some (.int p5) := Has.at Ha35 hin35 rfl
  obtain ⟨_, T36, L36, X36, hQ36, st36⟩ := own_cs X32 hx hZ hown (y := yn4) (own_w hw 20 rfl) (own_w hw 21 rfl) (own_w hw 23 rfl) (own_w hw 22 rfl) e32 (argsL := [(.int p5)]) (rest := [(.int 2), (.ref b8)]) (rm11 l Z a0 hw w1 w2 G [] p5 h32 n0 O32 (by have q0 := bd_p5; omega)) (g := (mkF m 26 #[.val (.ref o1), .val (.ref b8), .val (.int 2)] [(.int p5), (.int 2), (.ref b8)])) rfl (by rw [hml]; rfl) rfl (hb hby d0_26) (lenOf pd4 rfl) (W := 2) (c1 := 3) (s1 := 60)
  obtain ⟨v37, rfl, Nq38, e39, f40, f41⟩ := hQ36
  have N36 := Fr.app N32 Nq38
  obtain ⟨cl42, Ar42, qa42, Sa42, Na42, Ha42, Ga42⟩ := id (V32)
  have hin42 : ¬ ((2 : Int32) < 0 ∨ cl42.slots.size ≤ ((2 : Int32)).toNatClampNeg) := inb_of Sa42 ⟨by decide, by decide⟩
  obtain ⟨T43, h43, X43, e43, W43, st43⟩ := stR X36 hx hZ e39 Ar42 (j := (2 : Int32)) hin42 rfl (Sto.ofV Ar42 qa42 OV8 (Ins.self (f40.ext O32.2))) (g := (mkF m 29 #[.val (.ref o1), .val (.ref b8), .val (.int 2)] [(.ref v37), (.int 2), (.ref b8)])) rfl rfl (hb hby d0_29)
  have V43 : Arv Z h43 b8 k8 (.object "java/lang/Boolean") (4 : Int32) [(.ref v13), (.ref v26), (.ref v37), .null] .null := Arv.set Ar42 qa42 Sa42 Na42 Ha42 Ga42 rfl W43 2 rfl (Nat.le_of_ble_eq_true rfl)
  have N43 := Fr.snoc X43 N36 g_b8
  have hkk43 := Nat.le_trans hkk32 (Nat.le_of_eq W43.size.symm)
  have M43 : h0.size ≤ h43.size := Nat.le_trans M32 (Nat.le_of_eq W43.size.symm)
  have O43 := Old.wr O32 W43 g_b8
  have f44 := (f33.other W43 ne21)
  obtain ⟨cl45, Ar45, qa45, Sa45, Na45, Ha45, Ga45⟩ := id (f44)
  obtain ⟨cl46, Ar46, qa46, Sa46, Na46, Ha46, Ga46⟩ := id (f44)
  have hin46 : ¬ ((3 : Int32) < 0 ∨ cl46.slots.size ≤ ((3 : Int32)).toNatClampNeg) := inb_of Sa46 ⟨by decide, by decide⟩
  have hat46 : cl46.slots[((3 : Int32)).toNatClampNeg]? = some (.int p6) := Has.at Ha46 hin46 rfl
  obtain ⟨_, T47, L47, X47, hQ47, st47⟩ := own_cs X43 hx hZ hown (y := yn4) (own_w hw 20 rfl) (own_w hw 21 rfl) (own_w hw 23 rfl) (own_w hw 22 rfl) e43 (argsL := [(.int p6)]) (rest := [(.int 3), (.ref b8)]) (rm11 l Z a0 hw w1 w2 G [] p6 h43 n0 O43 (by have q0 := bd_p6; omega)) (g := (mkF m 26 #[.val (.ref o1), .val (.ref b8), .val (.int 3)] [(.int p6), (.int 3), (.ref b8)])) rfl (by rw [hml]; rfl) rfl (hb hby d0_26) (lenOf pd4 rfl) (W := 2) (c1 := 3) (s1 := 60)
  obtain ⟨v48, rfl, Nq49, e50, f51, f52⟩ := hQ47
  have N47 := Fr.app N43 Nq49
  obtain ⟨cl53, Ar53, qa53, Sa53, Na53, Ha53, Ga53⟩ := id (V43)
  have hin53 : ¬ ((3 : Int32) < 0 ∨ cl53.slots.size ≤ ((3 : Int32)).toNatClampNeg) := inb_of Sa53 ⟨by decide, by decide⟩
  obtain ⟨T54, h54, X54, e54, W54, st54⟩ := stR X47 hx hZ e50 Ar53 (j := (3 : Int32)) hin53 rfl (Sto.ofV Ar53 qa53 OV8 (Ins.self (f51.ext O43.2))) (g := (mkF m 29 #[.val (.ref o1), .val (.ref b8), .val (.int 3)] [(.ref v48), (.int 3), (.ref b8)])) rfl rfl (hb hby d0_29)
  have V54 : Arv Z h54 b8 k8 (.object "java/lang/Boolean") (4 : Int32) [(.ref v13), (.ref v26), (.ref v37), (.ref v48)] .null := Arv.set Ar53 qa53 Sa53 Na53 Ha53 Ga53 rfl W54 3 rfl (Nat.le_of_ble_eq_true rfl)
  have N54 := Fr.snoc X54 N47 g_b8
  have hkk54 := Nat.le_trans hkk43 (Nat.le_of_eq W54.size.symm)
  have M54 : h0.size ≤ h54.size := Nat.le_trans M43 (Nat.le_of_eq W54.size.symm)
  have O54 := Old.wr O43 W54 g_b8
  have f55 := (f44.other W54 ne21)
  obtain ⟨cl56, Ar56, qa56, Sa56, Na56, Ha56, Ga56⟩ := id (f55)
  obtain ⟨fs, hr, hrun, hended, hRE⟩ := X54.leaveW hS2 (by rw [e54]; exact hkk54) (v := some (.ref b8)) (fun h => by rw [hret] at h; cases h)
  have KL : Keep h0 h54 [] := (((((((Keep.refl h0 []).ext E2).ext E8).wr W19 (Or.inr (Nat.le_trans M2 sz_b8))).wr W32 (Or.inr (Nat.le_trans M2 sz_b8))).wr W43 (Or.inr (Nat.le_trans M2 sz_b8))).wr W54 (Or.inr (Nat.le_trans M2 sz_b8)))
  have f57 := ((((EX8.wr W19).wr W32).wr W43).wr W54)
  refine ⟨_, _, pre1 _ ?_, hrun, hended, _, _, rfl, ?_, hRE.1, hRE.2.1, hRE.2.2.1, hRE.2.2.2.mono (by decide) (by decide)⟩
  ·
    show Steps p.tables e below (s₁.setTop (mkF m 1 #[.val (.ref o1), .unset, .unset] [(.ref o1)])) _
    refine st2 _ ?_
    refine st3 _ ?_
    refine XS.pop X3.here hx rfl (hb hby d0_6) rfl rfl ?_
    refine XS.aloadN X3.here hx rfl (hb hby d0_7) rfl rfl ?_
    refine X3.arraylength hx (by rw [e5]; exact Ar7.1) (State.isArrayOf_alike hZ.alike Ar7.2.1) (g := (mkF m 8 #[.val (.ref o1), .unset, .unset] [(.ref o1)])) rfl rfl (hb hby d0_8) _ ?_
    rw [len_of Sa7 Na7]
    refine st8 _ ?_
    refine XS.astoreN X8.here hx rfl (hb hby d0_12) rfl rfl (l' := #[.val (.ref o1), .val (.ref b8), .unset]) rfl ?_
    refine XS.iconst X8.here hx rfl (hb hby d0_13) ?_
    refine XS.istoreN X8.here hx rfl (hb hby d0_14) rfl (l' := #[.val (.ref o1), .val (.ref b8), .val (.int 0)]) rfl ?_
    refine XS.iloadN X8.here hx rfl (hb hby d0_15) rfl ?_
    refine XS.aloadN X8.here hx rfl (hb hby d0_16) rfl rfl ?_
    refine X8.arraylength hx (by rw [e8]; exact Ar10.1) (State.isArrayOf_alike hZ.alike Ar10.2.1) (g := (mkF m 17 #[.val (.ref o1), .val (.ref b8), .val (.int 0)] [(.ref o1), (.int 0)])) rfl rfl (hb hby d0_17) _ ?_
    rw [len_of Sa10 Na10]
    refine XS.icmpNo X8.here hx rfl (hb hby d0_18) rfl (tlt (by decide : (0 : Int32) < (4 : Int32))).2.1 ?_
    refine XS.aloadN X8.here hx rfl (hb hby d0_21) rfl rfl ?_
    refine XS.iloadN X8.here hx rfl (hb hby d0_22) rfl ?_
    refine XS.aloadN X8.here hx rfl (hb hby d0_23) rfl rfl ?_
    refine XS.iloadN X8.here hx rfl (hb hby d0_24) rfl ?_
    refine X8.baloadBooleans hx (j := (0 : Int32)) (v := (.int p3)) (by rw [e8]; exact Ar11.1) (State.isArrayOf_alike hZ.alike Ar11.2.1) Ar11.2.2 hin11 hat11 (g := (mkF m 25 #[.val (.ref o1), .val (.ref b8), .val (.int 0)] [(.int 0), (.ref o1), (.int 0), (.ref b8)])) rfl rfl (hb hby d0_25) _ ?_
    refine st12 _ ?_
    refine st19 _ ?_
    refine XS.iinc X19.here hx rfl (hb hby d0_30) rfl (l' := #[.val (.ref o1), .val (.ref b8), .val (.int 1)]) rfl ?_
    refine XS.goto X19.here hx rfl (pc0 := 33) (pc' := 15) rfl (hb hby d0_33) (by decide) (by decide) ?_
    refine XS.iloadN X19.here hx rfl (hb hby d0_15) rfl ?_
    refine XS.aloadN X19.here hx rfl (hb hby d0_16) rfl rfl ?_
    refine X19.arraylength hx (by rw [e19]; exact Ar23.1) (State.isArrayOf_alike hZ.alike Ar23.2.1) (g := (mkF m 17 #[.val (.ref o1), .val (.ref b8), .val (.int 1)] [(.ref o1), (.int 1)])) rfl rfl (hb hby d0_17) _ ?_
    rw [len_of Sa23 Na23]
    refine XS.icmpNo X19.here hx rfl (hb hby d0_18) rfl (tlt (by decide : (1 : Int32) < (4 : Int32))).2.1 ?_
    refine XS.aloadN X19.here hx rfl (hb hby d0_21) rfl rfl ?_
    refine XS.iloadN X19.here hx rfl (hb hby d0_22) rfl ?_
    refine XS.aloadN X19.here hx rfl (hb hby d0_23) rfl rfl ?_
    refine XS.iloadN X19.here hx rfl (hb hby d0_24) rfl ?_
    refine X19.baloadBooleans hx (j := (1 : Int32)) (v := (.int p4)) (by rw [e19]; exact Ar24.1) (State.isArrayOf_alike hZ.alike Ar24.2.1) Ar24.2.2 hin24 hat24 (g := (mkF m 25 #[.val (.ref o1), .val (.ref b8), .val (.int 1)] [(.int 1), (.ref o1), (.int 1), (.ref b8)])) rfl rfl (hb hby d0_25) _ ?_
    refine st25 _ ?_
    refine st32 _ ?_
    refine XS.iinc X32.here hx rfl (hb hby d0_30) rfl (l' := #[.val (.ref o1), .val (.ref b8), .val (.int 2)]) rfl ?_
    refine XS.goto X32.here hx rfl (pc0 := 33) (pc' := 15) rfl (hb hby d0_33) (by decide) (by decide) ?_
    refine XS.iloadN X32.here hx rfl (hb hby d0_15) rfl ?_
    refine XS.aloadN X32.here hx rfl (hb hby d0_16) rfl rfl ?_
    refine X32.arraylength hx (by rw [e32]; exact Ar34.1) (State.isArrayOf_alike hZ.alike Ar34.2.1) (g := (mkF m 17 #[.val (.ref o1), .val (.ref b8), .val (.int 2)] [(.ref o1), (.int 2)])) rfl rfl (hb hby d0_17) _ ?_
    rw [len_of Sa34 Na34]
    refine XS.icmpNo X32.here hx rfl (hb hby d0_18) rfl (tlt (by decide : (2 : Int32) < (4 : Int32))).2.1 ?_
    show Steps p.tables e below (T32.setTop (mkF m 21 #[.val (.ref o1), .val (.ref b8), .val (.int 2)] [])) _
    refine XS.aloadN X32.here hx rfl (hb hby d0_21) rfl rfl ?_
    refine XS.iloadN X32.here hx rfl (hb hby d0_22) rfl ?_
    refine XS.aloadN X32.here hx rfl (hb hby d0_23) rfl rfl ?_
    refine XS.iloadN X32.here hx rfl (hb hby d0_24) rfl ?_
    refine X32.baloadBooleans hx (j := (2 : Int32)) (v := (.int p5)) (by rw [e32]; exact Ar35.1) (State.isArrayOf_alike hZ.alike Ar35.2.1) Ar35.2.2 hin35 hat35 (g := (mkF m 25 #[.val (.ref o1), .val (.ref b8), .val (.int 2)] [(.int 2), (.ref o1), (.int 2), (.ref b8)])) rfl rfl (hb hby d0_25) _ ?_
    refine st36 _ ?_
    refine st43 _ ?_
    refine XS.iinc X43.here hx rfl (hb hby d0_30) rfl (l' := #[.val (.ref o1), .val (.ref b8), .val (.int 3)]) rfl ?_
    refine XS.goto X43.here hx rfl (pc0 := 33) (pc' := 15) rfl (hb hby d0_33) (by decide) (by decide) ?_
    refine XS.iloadN X43.here hx rfl (hb hby d0_15) rfl ?_
    refine XS.aloadN X43.here hx rfl (hb hby d0_16) rfl rfl ?_
    refine X43.arraylength hx (by rw [e43]; exact Ar45.1) (State.isArrayOf_alike hZ.alike Ar45.2.1) (g := (mkF m 17 #[.val (.ref o1), .val (.ref b8), .val (.int 3)] [(.ref o1), (.int 3)])) rfl rfl (hb hby d0_17) _ ?_
    rw [len_of Sa45 Na45]
    refine XS.icmpNo X43.here hx rfl (hb hby d0_18) rfl (tlt (by decide : (3 : Int32) < (4 : Int32))).2.1 ?_
    refine XS.aloadN X43.here hx rfl (hb hby d0_21) rfl rfl ?_
    refine XS.iloadN X43.here hx rfl (hb hby d0_22) rfl ?_
    refine XS.aloadN X43.here hx rfl (hb hby d0_23) rfl rfl ?_
    refine XS.iloadN X43.here hx rfl (hb hby d0_24) rfl ?_
    refine X43.baloadBooleans hx (j := (3 : Int32)) (v := (.int p6)) (by rw [e43]; exact Ar46.1) (State.isArrayOf_alike hZ.alike Ar46.2.1) Ar46.2.2 hin46 hat46 (g := (mkF m 25 #[.val (.ref o1), .val (.ref b8), .val (.int 3)] [(.int 3), (.ref o1), (.int 3), (.ref b8)])) rfl rfl (hb hby d0_25) _ ?_
    refine st47 _ ?_
    refine st54 _ ?_
    refine XS.iinc X54.here hx rfl (hb hby d0_30) rfl (l' := #[.val (.ref o1), .val (.ref b8), .val (.int 4)]) rfl ?_
    refine XS.goto X54.here hx rfl (pc0 := 33) (pc' := 15) rfl (hb hby d0_33) (by decide) (by decide) ?_
    refine XS.iloadN X54.here hx rfl (hb hby d0_15) rfl ?_
    refine XS.aloadN X54.here hx rfl (hb hby d0_16) rfl rfl ?_
    refine X54.arraylength hx (by rw [e54]; exact Ar56.1) (State.isArrayOf_alike hZ.alike Ar56.2.1) (g := (mkF m 17 #[.val (.ref o1), .val (.ref b8), .val (.int 4)] [(.ref o1), (.int 4)])) rfl rfl (hb hby d0_17) _ ?_
    rw [len_of Sa56 Na56]
    refine XS.icmpYes X54.here hx rfl (pc0 := 18) (pc' := 36) rfl (hb hby d0_18) rfl (flt (by decide : ¬ ((4 : Int32) < (4 : Int32)))).2.1 (by decide) (by decide) ?_
    refine XS.aloadN X54.here hx rfl (hb hby d0_36) rfl rfl ?_
    show Steps p.tables e below (T54.setTop (mkF m 37 #[.val (.ref o1), .val (.ref b8), .val (.int 4)] [(.ref b8)])) _
    exact retOut X54 hx hret rfl (Or.inr (Or.inr (Or.inr (Or.inr ⟨rfl, rfl, rfl⟩)))) (hb hby d0_37) hr
  ·
    show Q40 Z w1 w2 o1 p3 p4 p5 p6 kc2 h0 n0 _ T54.heap _
    rw [e54]
    exact ⟨b8, k8, v13, v26, v37, v48, rfl, N54, KL, (Nat.le_trans M2 sz_b8), OV8, V54, f57, f16, f17, f29, f30, f40, f41, f51, f52⟩
theorem ef41 (m : MethodId) (x0 : Addr) (x1 : Addr) : entryFrame m #[(.ref x0), (.ref x1)] 2 = mkF m 0 #[.val (.ref x0), .val (.ref x1)] [] := by first | (simp [entryFrame, mkF, argsToLocals, Value.category]; done) | rfl
def Q41 (Z : State) (o1 : Addr) (kc3 : ClassId) (u2 : Addr) (h0 : Heap) (n0 : Nat) (v : Option Value) (h : Heap) (L : List Loc) : Prop :=
  (v = some (.ref o1) ∧ Fr n0 L ∧ h = h0)
set_option maxRecDepth 65536 in
set_option maxHeartbeats 40000000 in
theorem rm41 (l : Launch) (Z : State) (a0 : Array Value) (hw : ∀ d ∈ tables_1, d.before a0 Z = true) (ws : List Jvm.Cond) (o1 : Addr) (kc3 : ClassId) (u2 : Addr) (h0 : Heap) (n0 : Nat) (O0 : Old Z n0 h0) (g_o1 : n0 ≤ o1) (Ov_kc3 : Ovr Z kc3 "java/lang/Boolean") :
    MetFree l yn0 (head1 (Jvm.Cond.code yn0 jdk_31_method_11_code 2 (some (.object "java/lang/Object")) :: ws) ({ frames := 0, cells := 0, slots := 0, locals := 0 } : Room)) (fun a U => a = #[(.ref o1), (.ref u2)] ∧ Z.Warmed39 U.vm ∧ U.heap = h0) (fun _ _ _ _ _ => True) (fun _ U o U' => ∃ v L, o = .returned v ∧ Q41 Z o1 kc3 u2 h0 n0 v U'.heap L ∧ FrameEnd U o U' L ({ frames := 0, cells := 0, slots := 0, locals := 0 } : Room).cells ({ frames := 0, cells := 0, slots := 0, locals := 0 } : Room).slots) := by
  refine MetFree.of_bodySF (plainFor_of_name pn0) hisR ?_
  intro p e s m args below meth c s₁ Bd hml0 hP hK
  obtain ⟨rfl, hZ, hh⟩ := hP
  have hx := Bd.exec
  have hby := Bd.bytes
  have hml : c.maxLocals = 2 := hml0
  have hown : s.vm.findClass "java/util/Objects" = some m.cls := findClass_of_methodNamed Bd.named
  have hnm := (name_of_methodNamed Bd.named Bd.method).1
  have hret := Bd.returns
  have hlk : meth.locks = false := BodyLoose.notSynchronized Bd
  have X0 : Stand p l e ({ frames := 0, cells := 0, slots := 0, locals := 0 } : Room) s m #[(.ref o1), (.ref u2)] below meth c s₁ [] 0 0 := Stand.of_body Bd
  have e0 : s₁.heap = h0 := by rw [← hh, Bd.state]; rfl
  have N0 := Fr.nil n0
  have pre0 : ∀ t, Steps p.tables e below (s₁.setTop (mkF m 0 #[.val (.ref o1), .val (.ref u2)] [])) t → Steps p.tables e below (s₁.setTop (entryFrame m #[(.ref o1), (.ref u2)] 2)) t := fun t k => castTop (ef41 m o1 u2) k
  obtain ⟨fs, hr, hrun, hended, hW, hsame⟩ := X0.leave (v := some (.ref o1)) (fun h => by rw [hret] at h; cases h)
  refine ⟨_, _, pre0 _ ?_, hrun, hended, _, _, rfl, ?_, ⟨_, rfl⟩, hW, hsame.mono (by decide) (by decide)⟩
  ·
    show Steps p.tables e below (s₁.setTop (mkF m 0 #[.val (.ref o1), .val (.ref u2)] [])) _
    refine XS.aloadN X0.here hx rfl (hb hby d1_0) rfl rfl ?_
    refine XS.ifnonnullYes X0.here hx rfl (pc0 := 1) (pc' := 13) rfl (hb hby d1_1) rfl (by decide) (by decide) ?_
    refine XS.aloadN X0.here hx rfl (hb hby d1_13) rfl rfl ?_
    show Steps p.tables e below (s₁.setTop (mkF m 14 #[.val (.ref o1), .val (.ref u2)] [(.ref o1)])) _
    exact retOut X0 hx hret rfl (Or.inr (Or.inr (Or.inr (Or.inr ⟨rfl, rfl, rfl⟩)))) (hb hby d1_14) hr
  ·
    show Q41 Z o1 kc3 u2 h0 n0 _ s₁.heap _
    rw [e0]
    exact ⟨rfl, N0, rfl⟩
theorem ef42 (m : MethodId) (x0 : Addr) (x1 : Int32) : entryFrame m #[(.ref x0), (.int x1)] 5 = mkF m 0 #[.val (.ref x0), .val (.int x1), .unset, .unset, .unset] [] := by first | (simp [entryFrame, mkF, argsToLocals, Value.category]; done) | rfl
def Q42 (Z : State) (o1 : Addr) (kc2 : ClassId) (p7 : Int32) (p8 : Int32) (p9 : Int32) (p10 : Int32) (v3 : Addr) (v4 : Addr) (v5 : Addr) (v6 : Addr) (h0 : Heap) (n0 : Nat) (v : Option Value) (h : Heap) (L : List Loc) : Prop :=
  (∃ b8 : Addr, ∃ k8 : ClassId, v = some (.ref b8) ∧ Fr n0 L ∧ Keep h0 h [] ∧ h0.size ≤ b8 ∧ (Arv Z h b8 k8 .boolean (4 : Int32) [(.int p7), (.int p8), (.int p9), (.int p10)] (.int 0)) ∧ (Exa Z h b8 "[Z"))
set_option maxRecDepth 65536 in
set_option maxHeartbeats 40000000 in
theorem rm42 (l : Launch) (Z : State) (a0 : Array Value) (hw : ∀ d ∈ tables_1, d.before a0 Z = true) (ws : List Jvm.Cond) (o1 : Addr) (kc2 : ClassId) (p7 : Int32) (p8 : Int32) (p9 : Int32) (p10 : Int32) (v3 : Addr) (v4 : Addr) (v5 : Addr) (v6 : Addr) (h0 : Heap) (n0 : Nat) (O0 : Old Z n0 h0) (g_o1 : n0 ≤ o1) (Ov_kc2 : Ovr Z kc2 "java/lang/Boolean") (bd_p7 : 0 ≤ p7.toInt ∧ p7.toInt ≤ 1) (bd_p8 : 0 ≤ p8.toInt ∧ p8.toInt ≤ 1) (bd_p9 : 0 ≤ p9.toInt ∧ p9.toInt ≤ 1) (bd_p10 : 0 ≤ p10.toInt ∧ p10.toInt ≤ 1) (P0 : Arv Z h0 o1 kc2 (.object "java/lang/Boolean") (4 : Int32) [(.ref v3), (.ref v4), (.ref v5), (.ref v6)] .null) (P2 : Exa Z Z.heap v3 "java/lang/Boolean") (P3 : Fld Z Z.heap v3 "java/lang/Boolean" "value" "Z" (.int p7)) (P4 : Exa Z Z.heap v4 "java/lang/Boolean") (P5 : Fld Z Z.heap v4 "java/lang/Boolean" "value" "Z" (.int p8)) (P6 : Exa Z Z.heap v5 "java/lang/Boolean") (P7 : Fld Z Z.heap v5 "java/lang/Boolean" "value" "Z" (.int p9)) (P8 : Exa Z Z.heap v6 "java/lang/Boolean") (P9 : Fld Z Z.heap v6 "java/lang/Boolean" "value" "Z" (.int p10)) :
    MetFree l yn2 (head1 (Jvm.Cond.code yn2 prog_11_method_4_code 5 (some (.array .boolean)) :: ws) ({ frames := 1, cells := 3, slots := 60, locals := 14 } : Room)) (fun a U => a = #[(.ref o1), (.int 0)] ∧ Z.Warmed39 U.vm ∧ U.heap = h0) (fun _ _ _ _ _ => True) (fun _ U o U' => ∃ v L, o = .returned v ∧ Q42 Z o1 kc2 p7 p8 p9 p10 v3 v4 v5 v6 h0 n0 v U'.heap L ∧ ReturnedEndW U o U' L ({ frames := 1, cells := 3, slots := 60, locals := 14 } : Room).cells ({ frames := 1, cells := 3, slots := 60, locals := 14 } : Room).slots) := by
  refine MetFree.of_bodySF (plainFor_of_name pn1) hisR ?_
  intro p e s m args below meth c s₁ Bd hml0 hP hK
  obtain ⟨rfl, hZ, hh⟩ := hP
  have hx := Bd.exec
  have hby := Bd.bytes
  have hml : c.maxLocals = 5 := hml0
  have hown : s.vm.findClass "com/example/castless/castless/PrimitiveArrays" = some m.cls := findClass_of_methodNamed Bd.named
  have hnm := (name_of_methodNamed Bd.named Bd.method).1
  have hret := Bd.returns
  have hlk : meth.locks = false := BodyLoose.notSynchronized Bd
  have X0 : Stand p l e ({ frames := 1, cells := 3, slots := 60, locals := 14 } : Room) s m #[(.ref o1), (.int 0)] below meth c s₁ [] 0 0 := Stand.of_body Bd
  have e0 : s₁.heap = h0 := by rw [← hh, Bd.state]; rfl
  have N0 := Fr.nil n0
  have pre0 : ∀ t, Steps p.tables e below (s₁.setTop (mkF m 0 #[.val (.ref o1), .val (.int 0), .unset, .unset, .unset] [])) t → Steps p.tables e below (s₁.setTop (entryFrame m #[(.ref o1), (.int 0)] 5)) t := fun t k => castTop (ef42 m o1 (0 : Int32)) k
  have pre1 : ∀ t, Steps p.tables e below (s₁.setTop (mkF m 1 #[.val (.ref o1), .val (.int 0), .unset, .unset, .unset] [(.ref o1)])) t → Steps p.tables e below (s₁.setTop (entryFrame m #[(.ref o1), (.int 0)] 5)) t := fun t k => by
    refine pre0 _ ?_
    show Steps p.tables e below (s₁.setTop (mkF m 0 #[.val (.ref o1), .val (.int 0), .unset, .unset, .unset] [])) _
    refine XS.aloadN X0.here hx rfl (hb hby d2_0) rfl rfl ?_
    exact k
  obtain ⟨sx2, T2, h2, ks2, X2, e2, E2, hS2, hk2, hZ, hown, st2⟩ := ldcS (s := s) (vm0 := s.vm) X0 hx hZ hown (own_w hw 6 rfl) (own_sa hw) e0 ((State.WarmedH.refl s).since h0.size) (Nat.le_refl _) (g := (mkF m 1 #[.val (.ref o1), .val (.int 0), .unset, .unset, .unset] [(.ref o1)])) rfl (hb hby d2_1) (n := 52) (by decide) (by decide) (by decide) (by decide)
  have M2 : h0.size ≤ h2.size := Nat.le_trans (Nat.le_refl _) E2.1
  have O2 := Old.ext O0 E2
  obtain ⟨_, T3, L3, X3, hQ3, st3⟩ := own_cs X2 hx hZ hown (y := yn0) (own_w hw 14 rfl) (own_w hw 15 rfl) (own_w hw 17 rfl) (own_w hw 16 rfl) e2 (argsL := [(.ref o1), (.ref sx2)]) (rest := []) (rm41 l Z a0 hw [] o1 kc2 sx2 h2 n0 O2 g_o1 Ov_kc2) (g := (mkF m 3 #[.val (.ref o1), .val (.int 0), .unset, .unset, .unset] [(.ref sx2), (.ref o1)])) rfl (by rw [hml]; rfl) rfl (hb hby d2_3) (lenOf pd0 rfl) (W := 0) (c1 := 2) (s1 := 56)
  obtain ⟨rfl, Nq4, e5⟩ := hQ3
  have N3 := Fr.app N0 Nq4
  have f6 := (P0.ext E2)
  obtain ⟨cl7, Ar7, qa7, Sa7, Na7, Ha7, Ga7⟩ := id (f6)
  obtain ⟨T8, h8, k8, X8, e8, E8, A8, EX8, st8⟩ := newPE X3 hx hZ (own_w hw 1 rfl) e5 (g := (mkF m 9 #[.val (.ref o1), .val (.int 0), .unset, .unset, .unset] [(.int 4)])) rfl (hb hby d2_9) rfl (by decide) (cap := 4) (by decide) (by decide) (by decide) (by decide) (ad := "[Z") (by decide)
  obtain ⟨b8, g8⟩ : ∃ z, z = h2.size := ⟨_, rfl⟩
  rw [← g8] at A8 EX8 st8
  have hkk8 := Nat.le_trans hk2 E8.1
  have M8 : h0.size ≤ h8.size := Nat.le_trans M2 E8.1
  have O8 := Old.ext O2 E8
  have sz_b8 : h2.size ≤ b8 := Nat.le_of_eq g8.symm
  have g_b8 : n0 ≤ b8 := Nat.le_trans (own_oz O0) (Nat.le_trans M2 sz_b8)
  have V8_0 := Arv.new A8 (by decide)
  have V8 : Arv Z h8 b8 k8 .boolean (4 : Int32) [(.int 0), (.int 0), (.int 0), (.int 0)] (.int 0) := V8_0.pad (pad_rep [] (.int 0) 4)
  have f9 := (f6.ext E8)
  obtain ⟨cl10, Ar10, qa10, Sa10, Na10, Ha10, Ga10⟩ := id (f9)
  obtain ⟨cl11, Ar11, qa11, Sa11, Na11, Ha11, Ga11⟩ := id (f9)
  have hin11 : ¬ ((0 : Int32) < 0 ∨ cl11.slots.size ≤ ((0 : Int32)).toNatClampNeg) := inb_of Sa11 ⟨by decide, by decide⟩
  have hat11 : cl11.slots[((0 : Int32)).toNatClampNeg]? = some (.ref v3) := Has.at Ha11 hin11 rfl
  obtain ⟨_, T12, L12, X12, hQ12, st12⟩ := own_vb X8 hx hZ hown (y := yn5) (own_w hw 29 rfl) (own_w hw 30 rfl) (own_w hw 32 rfl) (own_w hw 31 rfl) (own_w hw 33 rfl) (own_w hw 22 rfl) e8 (P2.ext O8.2) (argsL := []) (rest := [(.int 0), (.ref b8)]) (rm14 l Z a0 hw [] p7 v3 h8 n0 O8 (by have q0 := bd_p7; omega) P3) (g := (mkF m 38 #[.val (.ref o1), .val (.int 0), .val (.ref b8), .val (.int 0), .val (.ref v3)] [(.ref v3), (.int 0), (.ref b8)])) rfl (by rw [hml]; rfl) rfl (hb hby d2_38) (lenOf pd5 rfl) (W := 2) (c1 := 3) (s1 := 60)
  obtain ⟨rfl, Nq13, e14⟩ := hQ12
  have N12 := Fr.app N3 Nq13
  obtain ⟨cl15, Ar15, qa15, Sa15, Na15, Ha15, Ga15⟩ := id (V8)
  have hin15 : ¬ ((0 : Int32) < 0 ∨ cl15.slots.size ≤ ((0 : Int32)).toNatClampNeg) := inb_of Sa15 ⟨by decide, by decide⟩
  have hbz16 : 0 ≤ p7.toInt ∧ p7.toInt ≤ 1 := by have q0 := bd_p7; omega
  obtain ⟨T17, h17, X17, e17, W17, st17⟩ := stZ X12 hx hZ e14 Ar15 (j := (0 : Int32)) hin15 (g := (mkF m 41 #[.val (.ref o1), .val (.int 0), .val (.ref b8), .val (.int 0), .val (.ref v3)] [(.int p7), (.int 0), (.ref b8)])) rfl rfl (hb hby d2_41)
  rw [own_nz hbz16] at W17
  have V17 : Arv Z h17 b8 k8 .boolean (4 : Int32) [(.int p7), (.int 0), (.int 0), (.int 0)] (.int 0) := Arv.set Ar15 qa15 Sa15 Na15 Ha15 Ga15 (own_fz hbz16) W17 0 rfl (Nat.le_of_ble_eq_true rfl)
  have N17 := Fr.snoc X17 N12 g_b8
  have hkk17 := Nat.le_trans hkk8 (Nat.le_of_eq W17.size.symm)
  have M17 : h0.size ≤ h17.size := Nat.le_trans M8 (Nat.le_of_eq W17.size.symm)
  have O17 := Old.wr O8 W17 g_b8
  have lt18 : o1 < h2.size := (Nat.lt_of_lt_of_le P0.lt E2.1)
  have ne19 : o1 ≠ b8 := Nat.ne_of_lt (Nat.lt_of_lt_of_le lt18 sz_b8)
  have f20 := (f9.other W17 ne19)
  obtain ⟨cl21, Ar21, qa21, Sa21, Na21, Ha21, Ga21⟩ := id (f20)
  obtain ⟨cl22, Ar22, qa22, Sa22, Na22, Ha22, Ga22⟩ := id (f20)
  have hin22 : ¬ ((1 : Int32) < 0 ∨ cl22.slots.size ≤ ((1 : Int32)).toNatClampNeg) := inb_of Sa22 ⟨by decide, by decide⟩
  have hat22 : cl22.slots[((1 : Int32)).toNatClampNeg]? = some (.ref v4) := Has.at Ha22 hin22 rfl
  obtain ⟨_, T23, L23, X23, hQ23, st23⟩ := own_vb X17 hx hZ hown (y := yn5) (own_w hw 29 rfl) (own_w hw 30 rfl) (own_w hw 32 rfl) (own_w hw 31 rfl) (own_w hw 33 rfl) (own_w hw 22 rfl) e17 (P4.ext O17.2) (argsL := []) (rest := [(.int 1), (.ref b8)]) (rm14 l Z a0 hw [] p8 v4 h17 n0 O17 (by have q0 := bd_p8; omega) P5) (g := (mkF m 38 #[.val (.ref o1), .val (.int 0), .val (.ref b8), .val (.int 1), .val (.ref v4)] [(.ref v4), (.int 1), (.ref b8)])) rfl (by rw [hml]; rfl) rfl (hb hby d2_38) (lenOf pd5 rfl) (W := 2) (c1 := 3) (s1 := 60)
  obtain ⟨rfl, Nq24, e25⟩ := hQ23
  have N23 := Fr.app N17 Nq24
  obtain ⟨cl26, Ar26, qa26, Sa26, Na26, Ha26, Ga26⟩ := id (V17)
  have hin26 : ¬ ((1 : Int32) < 0 ∨ cl26.slots.size ≤ ((1 : Int32)).toNatClampNeg) := inb_of Sa26 ⟨by decide, by decide⟩
  have hbz27 : 0 ≤ p8.toInt ∧ p8.toInt ≤ 1 := by have q0 := bd_p8; omega
  obtain ⟨T28, h28, X28, e28, W28, st28⟩ := stZ X23 hx hZ e25 Ar26 (j := (1 : Int32)) hin26 (g := (mkF m 41 #[.val (.ref o1), .val (.int 0), .val (.ref b8), .val (.int 1), .val (.ref v4)] [(.int p8), (.int 1), (.ref b8)])) rfl rfl (hb hby d2_41)
  rw [own_nz hbz27] at W28
  have V28 : Arv Z h28 b8 k8 .boolean (4 : Int32) [(.int p7), (.int p8), (.int 0), (.int 0)] (.int 0) := Arv.set Ar26 qa26 Sa26 Na26 Ha26 Ga26 (own_fz hbz27) W28 1 rfl (Nat.le_of_ble_eq_true rfl)
  have N28 := Fr.snoc X28 N23 g_b8
  have hkk28 := Nat.le_trans hkk17 (Nat.le_of_eq W28.size.symm)
  have M28 : h0.size ≤ h28.size := Nat.le_trans M17 (Nat.le_of_eq W28.size.symm)
  have O28 := Old.wr O17 W28 g_b8
  have f29 := (f20.other W28 ne19)
  obtain ⟨cl30, Ar30, qa30, Sa30, Na30, Ha30, Ga30⟩ := id (f29)
  obtain ⟨cl31, Ar31, qa31, Sa31, Na31, Ha31, Ga31⟩ := id (f29)
  have hin31 : ¬ ((2 : Int32) < 0 ∨ cl31.slots.size ≤ ((2 : Int32)).toNatClampNeg) := inb_of Sa31 ⟨by decide, by decide⟩
  have hat31 : cl31.slots[((2 : Int32)).toNatClampNeg]? = some (.ref v5) := Has.at Ha31 hin31 rfl
  obtain ⟨_, T32, L32, X32, hQ32, st32⟩ := own_vb X28 hx hZ hown (y := yn5) (own_w hw 29 rfl) (own_w hw 30 rfl) (own_w hw 32 rfl) (own_w hw 31 rfl) (own_w hw 33 rfl) (own_w hw 22 rfl) e28 (P6.ext O28.2) (argsL := []) (rest := [(.int 2), (.ref b8)]) (rm14 l Z a0 hw [] p9 v5 h28 n0 O28 (by have q0 := bd_p9; omega) P7) (g := (mkF m 38 #[.val (.ref o1), .val (.int 0), .val (.ref b8), .val (.int 2), .val (.ref v5)] [(.ref v5), (.int 2), (.ref b8)])) rfl (by rw [hml]; rfl) rfl (hb hby d2_38) (lenOf pd5 rfl) (W := 2) (c1 := 3) (s1 := 60)
  obtain ⟨rfl, Nq33, e34⟩ := hQ32
  have N32 := Fr.app N28 Nq33
  obtain ⟨cl35, Ar35, qa35, Sa35, Na35, Ha35, Ga35⟩ := id (V28)
  have hin35 : ¬ ((2 : Int32) < 0 ∨ cl35.slots.size ≤ ((2 : Int32)).toNatClampNeg) := inb_of Sa35 ⟨by decide, by decide⟩
  have hbz36 : 0 ≤ p9.toInt ∧ p9.toInt ≤ 1 := by have q0 := bd_p9; omega
  obtain ⟨T37, h37, X37, e37, W37, st37⟩ := stZ X32 hx hZ e34 Ar35 (j := (2 : Int32)) hin35 (g := (mkF m 41 #[.val (.ref o1), .val (.int 0), .val (.ref b8), .val (.int 2), .val (.ref v5)] [(.int p9), (.int 2), (.ref b8)])) rfl rfl (hb hby d2_41)
  rw [own_nz hbz36] at W37
  have V37 : Arv Z h37 b8 k8 .boolean (4 : Int32) [(.int p7), (.int p8), (.int p9), (.int 0)] (.int 0) := Arv.set Ar35 qa35 Sa35 Na35 Ha35 Ga35 (own_fz hbz36) W37 2 rfl (Nat.le_of_ble_eq_true rfl)
  have N37 := Fr.snoc X37 N32 g_b8
  have hkk37 := Nat.le_trans hkk28 (Nat.le_of_eq W37.size.symm)
  have M37 : h0.size ≤ h37.size := Nat.le_trans M28 (Nat.le_of_eq W37.size.symm)
  have O37 := Old.wr O28 W37 g_b8
  have f38 := (f29.other W37 ne19)
  obtain ⟨cl39, Ar39, qa39, Sa39, Na39, Ha39, Ga39⟩ := id (f38)
  obtain ⟨cl40, Ar40, qa40, Sa40, Na40, Ha40, Ga40⟩ := id (f38)
  have hin40 : ¬ ((3 : Int32) < 0 ∨ cl40.slots.size ≤ ((3 : Int32)).toNatClampNeg) := inb_of Sa40 ⟨by decide, by decide⟩
  have hat40 : cl40.slots[((3 : Int32)).toNatClampNeg]? = some (.ref v6) := Has.at Ha40 hin40 rfl
  obtain ⟨_, T41, L41, X41, hQ41, st41⟩ := own_vb X37 hx hZ hown (y := yn5) (own_w hw 29 rfl) (own_w hw 30 rfl) (own_w hw 32 rfl) (own_w hw 31 rfl) (own_w hw 33 rfl) (own_w hw 22 rfl) e37 (P8.ext O37.2) (argsL := []) (rest := [(.int 3), (.ref b8)]) (rm14 l Z a0 hw [] p10 v6 h37 n0 O37 (by have q0 := bd_p10; omega) P9) (g := (mkF m 38 #[.val (.ref o1), .val (.int 0), .val (.ref b8), .val (.int 3), .val (.ref v6)] [(.ref v6), (.int 3), (.ref b8)])) rfl (by rw [hml]; rfl) rfl (hb hby d2_38) (lenOf pd5 rfl) (W := 2) (c1 := 3) (s1 := 60)
  obtain ⟨rfl, Nq42, e43⟩ := hQ41
  have N41 := Fr.app N37 Nq42
  obtain ⟨cl44, Ar44, qa44, Sa44, Na44, Ha44, Ga44⟩ := id (V37)
  have hin44 : ¬ ((3 : Int32) < 0 ∨ cl44.slots.size ≤ ((3 : Int32)).toNatClampNeg) := inb_of Sa44 ⟨by decide, by decide⟩
  have hbz45 : 0 ≤ p10.toInt ∧ p10.toInt ≤ 1 := by have q0 := bd_p10; omega
  obtain ⟨T46, h46, X46, e46, W46, st46⟩ := stZ X41 hx hZ e43 Ar44 (j := (3 : Int32)) hin44 (g := (mkF m 41 #[.val (.ref o1), .val (.int 0), .val (.ref b8), .val (.int 3), .val (.ref v6)] [(.int p10), (.int 3), (.ref b8)])) rfl rfl (hb hby d2_41)
  rw [own_nz hbz45] at W46
  have V46 : Arv Z h46 b8 k8 .boolean (4 : Int32) [(.int p7), (.int p8), (.int p9), (.int p10)] (.int 0) := Arv.set Ar44 qa44 Sa44 Na44 Ha44 Ga44 (own_fz hbz45) W46 3 rfl (Nat.le_of_ble_eq_true rfl)
  have N46 := Fr.snoc X46 N41 g_b8
  have hkk46 := Nat.le_trans hkk37 (Nat.le_of_eq W46.size.symm)
  have M46 : h0.size ≤ h46.size := Nat.le_trans M37 (Nat.le_of_eq W46.size.symm)
  have O46 := Old.wr O37 W46 g_b8
  have f47 := (f38.other W46 ne19)
  obtain ⟨cl48, Ar48, qa48, Sa48, Na48, Ha48, Ga48⟩ := id (f47)
  obtain ⟨fs, hr, hrun, hended, hRE⟩ := X46.leaveW hS2 (by rw [e46]; exact hkk46) (v := some (.ref b8)) (fun h => by rw [hret] at h; cases h)
  have KL : Keep h0 h46 [] := (((((((Keep.refl h0 []).ext E2).ext E8).wr W17 (Or.inr (Nat.le_trans M2 sz_b8))).wr W28 (Or.inr (Nat.le_trans M2 sz_b8))).wr W37 (Or.inr (Nat.le_trans M2 sz_b8))).wr W46 (Or.inr (Nat.le_trans M2 sz_b8)))
  have f49 := ((((EX8.wr W17).wr W28).wr W37).wr W46)
  refine ⟨_, _, pre1 _ ?_, hrun, hended, _, _, rfl, ?_, hRE.1, hRE.2.1, hRE.2.2.1, hRE.2.2.2.mono (by decide) (by decide)⟩
  ·
    show Steps p.tables e below (s₁.setTop (mkF m 1 #[.val (.ref o1), .val (.int 0), .unset, .unset, .unset] [(.ref o1)])) _
    refine st2 _ ?_
    refine st3 _ ?_
    refine XS.pop X3.here hx rfl (hb hby d2_6) rfl rfl ?_
    refine XS.aloadN X3.here hx rfl (hb hby d2_7) rfl rfl ?_
    refine X3.arraylength hx (by rw [e5]; exact Ar7.1) (State.isArrayOf_alike hZ.alike Ar7.2.1) (g := (mkF m 8 #[.val (.ref o1), .val (.int 0), .unset, .unset, .unset] [(.ref o1)])) rfl rfl (hb hby d2_8) _ ?_
    rw [len_of Sa7 Na7]
    refine st8 _ ?_
    refine XS.astoreN X8.here hx rfl (hb hby d2_11) rfl rfl (l' := #[.val (.ref o1), .val (.int 0), .val (.ref b8), .unset, .unset]) rfl ?_
    refine XS.iconst X8.here hx rfl (hb hby d2_12) ?_
    refine XS.istoreN X8.here hx rfl (hb hby d2_13) rfl (l' := #[.val (.ref o1), .val (.int 0), .val (.ref b8), .val (.int 0), .unset]) rfl ?_
    refine XS.iloadN X8.here hx rfl (hb hby d2_14) rfl ?_
    refine XS.aloadN X8.here hx rfl (hb hby d2_15) rfl rfl ?_
    refine X8.arraylength hx (by rw [e8]; exact Ar10.1) (State.isArrayOf_alike hZ.alike Ar10.2.1) (g := (mkF m 16 #[.val (.ref o1), .val (.int 0), .val (.ref b8), .val (.int 0), .unset] [(.ref o1), (.int 0)])) rfl rfl (hb hby d2_16) _ ?_
    rw [len_of Sa10 Na10]
    refine XS.icmpNo X8.here hx rfl (hb hby d2_17) rfl (tlt (by decide : (0 : Int32) < (4 : Int32))).2.1 ?_
    refine XS.aloadN X8.here hx rfl (hb hby d2_20) rfl rfl ?_
    refine XS.iloadN X8.here hx rfl (hb hby d2_21) rfl ?_
    refine X8.aaload hx (j := (0 : Int32)) (v := (.ref v3)) (by rw [e8]; exact Ar11.1) (State.isArrayOf_alike hZ.alike Ar11.2.1) rfl Ar11.2.2 hin11 hat11 (g := (mkF m 22 #[.val (.ref o1), .val (.int 0), .val (.ref b8), .val (.int 0), .unset] [(.int 0), (.ref o1)])) rfl rfl (hb hby d2_22) _ ?_
    refine XS.astore X8.here hx rfl (hb hby d2_23) rfl rfl (l' := #[.val (.ref o1), .val (.int 0), .val (.ref b8), .val (.int 0), .val (.ref v3)]) rfl ?_
    refine XS.aloadN X8.here hx rfl (hb hby d2_25) rfl rfl ?_
    refine XS.iloadN X8.here hx rfl (hb hby d2_26) rfl ?_
    refine XS.aload X8.here hx rfl (hb hby d2_27) rfl rfl ?_
    refine XS.ifnonnullYes X8.here hx rfl (pc0 := 29) (pc' := 36) rfl (hb hby d2_29) rfl (by decide) (by decide) ?_
    refine XS.aload X8.here hx rfl (hb hby d2_36) rfl rfl ?_
    refine st12 _ ?_
    refine st17 _ ?_
    refine XS.iinc X17.here hx rfl (hb hby d2_42) rfl (l' := #[.val (.ref o1), .val (.int 0), .val (.ref b8), .val (.int 1), .val (.ref v3)]) rfl ?_
    refine XS.goto X17.here hx rfl (pc0 := 45) (pc' := 14) rfl (hb hby d2_45) (by decide) (by decide) ?_
    refine XS.iloadN X17.here hx rfl (hb hby d2_14) rfl ?_
    refine XS.aloadN X17.here hx rfl (hb hby d2_15) rfl rfl ?_
    refine X17.arraylength hx (by rw [e17]; exact Ar21.1) (State.isArrayOf_alike hZ.alike Ar21.2.1) (g := (mkF m 16 #[.val (.ref o1), .val (.int 0), .val (.ref b8), .val (.int 1), .val (.ref v3)] [(.ref o1), (.int 1)])) rfl rfl (hb hby d2_16) _ ?_
    rw [len_of Sa21 Na21]
    refine XS.icmpNo X17.here hx rfl (hb hby d2_17) rfl (tlt (by decide : (1 : Int32) < (4 : Int32))).2.1 ?_
    refine XS.aloadN X17.here hx rfl (hb hby d2_20) rfl rfl ?_
    refine XS.iloadN X17.here hx rfl (hb hby d2_21) rfl ?_
    refine X17.aaload hx (j := (1 : Int32)) (v := (.ref v4)) (by rw [e17]; exact Ar22.1) (State.isArrayOf_alike hZ.alike Ar22.2.1) rfl Ar22.2.2 hin22 hat22 (g := (mkF m 22 #[.val (.ref o1), .val (.int 0), .val (.ref b8), .val (.int 1), .val (.ref v3)] [(.int 1), (.ref o1)])) rfl rfl (hb hby d2_22) _ ?_
    refine XS.astore X17.here hx rfl (hb hby d2_23) rfl rfl (l' := #[.val (.ref o1), .val (.int 0), .val (.ref b8), .val (.int 1), .val (.ref v4)]) rfl ?_
    refine XS.aloadN X17.here hx rfl (hb hby d2_25) rfl rfl ?_
    refine XS.iloadN X17.here hx rfl (hb hby d2_26) rfl ?_
    refine XS.aload X17.here hx rfl (hb hby d2_27) rfl rfl ?_
    refine XS.ifnonnullYes X17.here hx rfl (pc0 := 29) (pc' := 36) rfl (hb hby d2_29) rfl (by decide) (by decide) ?_
    refine XS.aload X17.here hx rfl (hb hby d2_36) rfl rfl ?_
    show Steps p.tables e below (T17.setTop (mkF m 38 #[.val (.ref o1), .val (.int 0), .val (.ref b8), .val (.int 1), .val (.ref v4)] [(.ref v4), (.int 1), (.ref b8)])) _
    refine st23 _ ?_
    refine st28 _ ?_
    refine XS.iinc X28.here hx rfl (hb hby d2_42) rfl (l' := #[.val (.ref o1), .val (.int 0), .val (.ref b8), .val (.int 2), .val (.ref v4)]) rfl ?_
    refine XS.goto X28.here hx rfl (pc0 := 45) (pc' := 14) rfl (hb hby d2_45) (by decide) (by decide) ?_
    refine XS.iloadN X28.here hx rfl (hb hby d2_14) rfl ?_
    refine XS.aloadN X28.here hx rfl (hb hby d2_15) rfl rfl ?_
    refine X28.arraylength hx (by rw [e28]; exact Ar30.1) (State.isArrayOf_alike hZ.alike Ar30.2.1) (g := (mkF m 16 #[.val (.ref o1), .val (.int 0), .val (.ref b8), .val (.int 2), .val (.ref v4)] [(.ref o1), (.int 2)])) rfl rfl (hb hby d2_16) _ ?_
    rw [len_of Sa30 Na30]
    refine XS.icmpNo X28.here hx rfl (hb hby d2_17) rfl (tlt (by decide : (2 : Int32) < (4 : Int32))).2.1 ?_
    refine XS.aloadN X28.here hx rfl (hb hby d2_20) rfl rfl ?_
    refine XS.iloadN X28.here hx rfl (hb hby d2_21) rfl ?_
    refine X28.aaload hx (j := (2 : Int32)) (v := (.ref v5)) (by rw [e28]; exact Ar31.1) (State.isArrayOf_alike hZ.alike Ar31.2.1) rfl Ar31.2.2 hin31 hat31 (g := (mkF m 22 #[.val (.ref o1), .val (.int 0), .val (.ref b8), .val (.int 2), .val (.ref v4)] [(.int 2), (.ref o1)])) rfl rfl (hb hby d2_22) _ ?_
    refine XS.astore X28.here hx rfl (hb hby d2_23) rfl rfl (l' := #[.val (.ref o1), .val (.int 0), .val (.ref b8), .val (.int 2), .val (.ref v5)]) rfl ?_
    refine XS.aloadN X28.here hx rfl (hb hby d2_25) rfl rfl ?_
    refine XS.iloadN X28.here hx rfl (hb hby d2_26) rfl ?_
    refine XS.aload X28.here hx rfl (hb hby d2_27) rfl rfl ?_
    refine XS.ifnonnullYes X28.here hx rfl (pc0 := 29) (pc' := 36) rfl (hb hby d2_29) rfl (by decide) (by decide) ?_
    refine XS.aload X28.here hx rfl (hb hby d2_36) rfl rfl ?_
    refine st32 _ ?_
    refine st37 _ ?_
    refine XS.iinc X37.here hx rfl (hb hby d2_42) rfl (l' := #[.val (.ref o1), .val (.int 0), .val (.ref b8), .val (.int 3), .val (.ref v5)]) rfl ?_
    refine XS.goto X37.here hx rfl (pc0 := 45) (pc' := 14) rfl (hb hby d2_45) (by decide) (by decide) ?_
    refine XS.iloadN X37.here hx rfl (hb hby d2_14) rfl ?_
    refine XS.aloadN X37.here hx rfl (hb hby d2_15) rfl rfl ?_
    refine X37.arraylength hx (by rw [e37]; exact Ar39.1) (State.isArrayOf_alike hZ.alike Ar39.2.1) (g := (mkF m 16 #[.val (.ref o1), .val (.int 0), .val (.ref b8), .val (.int 3), .val (.ref v5)] [(.ref o1), (.int 3)])) rfl rfl (hb hby d2_16) _ ?_
    rw [len_of Sa39 Na39]
    refine XS.icmpNo X37.here hx rfl (hb hby d2_17) rfl (tlt (by decide : (3 : Int32) < (4 : Int32))).2.1 ?_
    refine XS.aloadN X37.here hx rfl (hb hby d2_20) rfl rfl ?_
    refine XS.iloadN X37.here hx rfl (hb hby d2_21) rfl ?_
    refine X37.aaload hx (j := (3 : Int32)) (v := (.ref v6)) (by rw [e37]; exact Ar40.1) (State.isArrayOf_alike hZ.alike Ar40.2.1) rfl Ar40.2.2 hin40 hat40 (g := (mkF m 22 #[.val (.ref o1), .val (.int 0), .val (.ref b8), .val (.int 3), .val (.ref v5)] [(.int 3), (.ref o1)])) rfl rfl (hb hby d2_22) _ ?_
    refine XS.astore X37.here hx rfl (hb hby d2_23) rfl rfl (l' := #[.val (.ref o1), .val (.int 0), .val (.ref b8), .val (.int 3), .val (.ref v6)]) rfl ?_
    refine XS.aloadN X37.here hx rfl (hb hby d2_25) rfl rfl ?_
    refine XS.iloadN X37.here hx rfl (hb hby d2_26) rfl ?_
    refine XS.aload X37.here hx rfl (hb hby d2_27) rfl rfl ?_
    refine XS.ifnonnullYes X37.here hx rfl (pc0 := 29) (pc' := 36) rfl (hb hby d2_29) rfl (by decide) (by decide) ?_
    refine XS.aload X37.here hx rfl (hb hby d2_36) rfl rfl ?_
    refine st41 _ ?_
    refine st46 _ ?_
    refine XS.iinc X46.here hx rfl (hb hby d2_42) rfl (l' := #[.val (.ref o1), .val (.int 0), .val (.ref b8), .val (.int 4), .val (.ref v6)]) rfl ?_
    refine XS.goto X46.here hx rfl (pc0 := 45) (pc' := 14) rfl (hb hby d2_45) (by decide) (by decide) ?_
    refine XS.iloadN X46.here hx rfl (hb hby d2_14) rfl ?_
    refine XS.aloadN X46.here hx rfl (hb hby d2_15) rfl rfl ?_
    show Steps p.tables e below (T46.setTop (mkF m 16 #[.val (.ref o1), .val (.int 0), .val (.ref b8), .val (.int 4), .val (.ref v6)] [(.ref o1), (.int 4)])) _
    refine X46.arraylength hx (by rw [e46]; exact Ar48.1) (State.isArrayOf_alike hZ.alike Ar48.2.1) (g := (mkF m 16 #[.val (.ref o1), .val (.int 0), .val (.ref b8), .val (.int 4), .val (.ref v6)] [(.ref o1), (.int 4)])) rfl rfl (hb hby d2_16) _ ?_
    rw [len_of Sa48 Na48]
    refine XS.icmpYes X46.here hx rfl (pc0 := 17) (pc' := 48) rfl (hb hby d2_17) rfl (flt (by decide : ¬ ((4 : Int32) < (4 : Int32)))).2.1 (by decide) (by decide) ?_
    refine XS.aloadN X46.here hx rfl (hb hby d2_48) rfl rfl ?_
    show Steps p.tables e below (T46.setTop (mkF m 49 #[.val (.ref o1), .val (.int 0), .val (.ref b8), .val (.int 4), .val (.ref v6)] [(.ref b8)])) _
    exact retOut X46 hx hret rfl (Or.inr (Or.inr (Or.inr (Or.inr ⟨rfl, rfl, rfl⟩)))) (hb hby d2_49) hr
  ·
    show Q42 Z o1 kc2 p7 p8 p9 p10 v3 v4 v5 v6 h0 n0 _ T46.heap _
    rw [e46]
    exact ⟨b8, k8, rfl, N46, KL, (Nat.le_trans M2 sz_b8), V46, f49⟩
theorem ef43 (m : MethodId) (x0 : Addr) (x1 : Int32) : entryFrame m #[(.ref x0), (.int x1)] 5 = mkF m 0 #[.val (.ref x0), .val (.int x1), .unset, .unset, .unset] [] := by first | (simp [entryFrame, mkF, argsToLocals, Value.category]; done) | rfl
def Q43 (Z : State) (o1 : Addr) (kc2 : ClassId) (p7 : Int32) (p8 : Int32) (p9 : Int32) (p10 : Int32) (v3 : Addr) (v4 : Addr) (v5 : Addr) (v6 : Addr) (h0 : Heap) (n0 : Nat) (v : Option Value) (h : Heap) (L : List Loc) : Prop :=
  (∃ b8 : Addr, ∃ k8 : ClassId, v = some (.ref b8) ∧ Fr n0 L ∧ Keep h0 h [] ∧ h0.size ≤ b8 ∧ (Arv Z h b8 k8 .boolean (4 : Int32) [(.int p7), (.int p8), (.int p9), (.int p10)] (.int 0)) ∧ (Exa Z h b8 "[Z"))
set_option maxRecDepth 65536 in
set_option maxHeartbeats 40000000 in
theorem rm43 (l : Launch) (Z : State) (a0 : Array Value) (hw : ∀ d ∈ tables_1, d.before a0 Z = true) (ws : List Jvm.Cond) (o1 : Addr) (kc2 : ClassId) (p7 : Int32) (p8 : Int32) (p9 : Int32) (p10 : Int32) (v3 : Addr) (v4 : Addr) (v5 : Addr) (v6 : Addr) (h0 : Heap) (n0 : Nat) (O0 : Old Z n0 h0) (g_o1 : n0 ≤ o1) (Ov_kc2 : Ovr Z kc2 "java/lang/Boolean") (bd_p7 : 0 ≤ p7.toInt ∧ p7.toInt ≤ 1) (bd_p8 : 0 ≤ p8.toInt ∧ p8.toInt ≤ 1) (bd_p9 : 0 ≤ p9.toInt ∧ p9.toInt ≤ 1) (bd_p10 : 0 ≤ p10.toInt ∧ p10.toInt ≤ 1) (P0 : Arv Z h0 o1 kc2 (.object "java/lang/Boolean") (4 : Int32) [(.ref v3), (.ref v4), (.ref v5), (.ref v6)] .null) (P2 : Exa Z Z.heap v3 "java/lang/Boolean") (P3 : Fld Z Z.heap v3 "java/lang/Boolean" "value" "Z" (.int p7)) (P4 : Exa Z Z.heap v4 "java/lang/Boolean") (P5 : Fld Z Z.heap v4 "java/lang/Boolean" "value" "Z" (.int p8)) (P6 : Exa Z Z.heap v5 "java/lang/Boolean") (P7 : Fld Z Z.heap v5 "java/lang/Boolean" "value" "Z" (.int p9)) (P8 : Exa Z Z.heap v6 "java/lang/Boolean") (P9 : Fld Z Z.heap v6 "java/lang/Boolean" "value" "Z" (.int p10)) :
    MetFree l yn2 (head1 (Jvm.Cond.code yn2 prog_11_method_4_code 5 (some (.array .boolean)) :: ws) ({ frames := 1, cells := 3, slots := 60, locals := 14 } : Room)) (fun a U => a = #[(.ref o1), (.int 1)] ∧ Z.Warmed39 U.vm ∧ U.heap = h0) (fun _ _ _ _ _ => True) (fun _ U o U' => ∃ v L, o = .returned v ∧ Q43 Z o1 kc2 p7 p8 p9 p10 v3 v4 v5 v6 h0 n0 v U'.heap L ∧ ReturnedEndW U o U' L ({ frames := 1, cells := 3, slots := 60, locals := 14 } : Room).cells ({ frames := 1, cells := 3, slots := 60, locals := 14 } : Room).slots) := by
  refine MetFree.of_bodySF (plainFor_of_name pn1) hisR ?_
  intro p e s m args below meth c s₁ Bd hml0 hP hK
  obtain ⟨rfl, hZ, hh⟩ := hP
  have hx := Bd.exec
  have hby := Bd.bytes
  have hml : c.maxLocals = 5 := hml0
  have hown : s.vm.findClass "com/example/castless/castless/PrimitiveArrays" = some m.cls := findClass_of_methodNamed Bd.named
  have hnm := (name_of_methodNamed Bd.named Bd.method).1
  have hret := Bd.returns
  have hlk : meth.locks = false := BodyLoose.notSynchronized Bd
  have X0 : Stand p l e ({ frames := 1, cells := 3, slots := 60, locals := 14 } : Room) s m #[(.ref o1), (.int 1)] below meth c s₁ [] 0 0 := Stand.of_body Bd
  have e0 : s₁.heap = h0 := by rw [← hh, Bd.state]; rfl
  have N0 := Fr.nil n0
  have pre0 : ∀ t, Steps p.tables e below (s₁.setTop (mkF m 0 #[.val (.ref o1), .val (.int 1), .unset, .unset, .unset] [])) t → Steps p.tables e below (s₁.setTop (entryFrame m #[(.ref o1), (.int 1)] 5)) t := fun t k => castTop (ef43 m o1 (1 : Int32)) k
  have pre1 : ∀ t, Steps p.tables e below (s₁.setTop (mkF m 1 #[.val (.ref o1), .val (.int 1), .unset, .unset, .unset] [(.ref o1)])) t → Steps p.tables e below (s₁.setTop (entryFrame m #[(.ref o1), (.int 1)] 5)) t := fun t k => by
    refine pre0 _ ?_
    show Steps p.tables e below (s₁.setTop (mkF m 0 #[.val (.ref o1), .val (.int 1), .unset, .unset, .unset] [])) _
    refine XS.aloadN X0.here hx rfl (hb hby d2_0) rfl rfl ?_
    exact k
  obtain ⟨sx2, T2, h2, ks2, X2, e2, E2, hS2, hk2, hZ, hown, st2⟩ := ldcS (s := s) (vm0 := s.vm) X0 hx hZ hown (own_w hw 6 rfl) (own_sa hw) e0 ((State.WarmedH.refl s).since h0.size) (Nat.le_refl _) (g := (mkF m 1 #[.val (.ref o1), .val (.int 1), .unset, .unset, .unset] [(.ref o1)])) rfl (hb hby d2_1) (n := 52) (by decide) (by decide) (by decide) (by decide)
  have M2 : h0.size ≤ h2.size := Nat.le_trans (Nat.le_refl _) E2.1
  have O2 := Old.ext O0 E2
  obtain ⟨_, T3, L3, X3, hQ3, st3⟩ := own_cs X2 hx hZ hown (y := yn0) (own_w hw 14 rfl) (own_w hw 15 rfl) (own_w hw 17 rfl) (own_w hw 16 rfl) e2 (argsL := [(.ref o1), (.ref sx2)]) (rest := []) (rm41 l Z a0 hw [] o1 kc2 sx2 h2 n0 O2 g_o1 Ov_kc2) (g := (mkF m 3 #[.val (.ref o1), .val (.int 1), .unset, .unset, .unset] [(.ref sx2), (.ref o1)])) rfl (by rw [hml]; rfl) rfl (hb hby d2_3) (lenOf pd0 rfl) (W := 0) (c1 := 2) (s1 := 56)
  obtain ⟨rfl, Nq4, e5⟩ := hQ3
  have N3 := Fr.app N0 Nq4
  have f6 := (P0.ext E2)
  obtain ⟨cl7, Ar7, qa7, Sa7, Na7, Ha7, Ga7⟩ := id (f6)
  obtain ⟨T8, h8, k8, X8, e8, E8, A8, EX8, st8⟩ := newPE X3 hx hZ (own_w hw 1 rfl) e5 (g := (mkF m 9 #[.val (.ref o1), .val (.int 1), .unset, .unset, .unset] [(.int 4)])) rfl (hb hby d2_9) rfl (by decide) (cap := 4) (by decide) (by decide) (by decide) (by decide) (ad := "[Z") (by decide)
  obtain ⟨b8, g8⟩ : ∃ z, z = h2.size := ⟨_, rfl⟩
  rw [← g8] at A8 EX8 st8
  have hkk8 := Nat.le_trans hk2 E8.1
  have M8 : h0.size ≤ h8.size := Nat.le_trans M2 E8.1
  have O8 := Old.ext O2 E8
  have sz_b8 : h2.size ≤ b8 := Nat.le_of_eq g8.symm
  have g_b8 : n0 ≤ b8 := Nat.le_trans (own_oz O0) (Nat.le_trans M2 sz_b8)
  have V8_0 := Arv.new A8 (by decide)
  have V8 : Arv Z h8 b8 k8 .boolean (4 : Int32) [(.int 0), (.int 0), (.int 0), (.int 0)] (.int 0) := V8_0.pad (pad_rep [] (.int 0) 4)
  have f9 := (f6.ext E8)
  obtain ⟨cl10, Ar10, qa10, Sa10, Na10, Ha10, Ga10⟩ := id (f9)
  obtain ⟨cl11, Ar11, qa11, Sa11, Na11, Ha11, Ga11⟩ := id (f9)
  have hin11 : ¬ ((0 : Int32) < 0 ∨ cl11.slots.size ≤ ((0 : Int32)).toNatClampNeg) := inb_of Sa11 ⟨by decide, by decide⟩
  have hat11 : cl11.slots[((0 : Int32)).toNatClampNeg]? = some (.ref v3) := Has.at Ha11 hin11 rfl
  obtain ⟨_, T12, L12, X12, hQ12, st12⟩ := own_vb X8 hx hZ hown (y := yn5) (own_w hw 29 rfl) (own_w hw 30 rfl) (own_w hw 32 rfl) (own_w hw 31 rfl) (own_w hw 33 rfl) (own_w hw 22 rfl) e8 (P2.ext O8.2) (argsL := []) (rest := [(.int 0), (.ref b8)]) (rm14 l Z a0 hw [] p7 v3 h8 n0 O8 (by have q0 := bd_p7; omega) P3) (g := (mkF m 38 #[.val (.ref o1), .val (.int 1), .val (.ref b8), .val (.int 0), .val (.ref v3)] [(.ref v3), (.int 0), (.ref b8)])) rfl (by rw [hml]; rfl) rfl (hb hby d2_38) (lenOf pd5 rfl) (W := 2) (c1 := 3) (s1 := 60)
  obtain ⟨rfl, Nq13, e14⟩ := hQ12
  have N12 := Fr.app N3 Nq13
  obtain ⟨cl15, Ar15, qa15, Sa15, Na15, Ha15, Ga15⟩ := id (V8)
  have hin15 : ¬ ((0 : Int32) < 0 ∨ cl15.slots.size ≤ ((0 : Int32)).toNatClampNeg) := inb_of Sa15 ⟨by decide, by decide⟩
  have hbz16 : 0 ≤ p7.toInt ∧ p7.toInt ≤ 1 := by have q0 := bd_p7; omega
  obtain ⟨T17, h17, X17, e17, W17, st17⟩ := stZ X12 hx hZ e14 Ar15 (j := (0 : Int32)) hin15 (g := (mkF m 41 #[.val (.ref o1), .val (.int 1), .val (.ref b8), .val (.int 0), .val (.ref v3)] [(.int p7), (.int 0), (.ref b8)])) rfl rfl (hb hby d2_41)
  rw [own_nz hbz16] at W17
  have V17 : Arv Z h17 b8 k8 .boolean (4 : Int32) [(.int p7), (.int 0), (.int 0), (.int 0)] (.int 0) := Arv.set Ar15 qa15 Sa15 Na15 Ha15 Ga15 (own_fz hbz16) W17 0 rfl (Nat.le_of_ble_eq_true rfl)
  have N17 := Fr.snoc X17 N12 g_b8
  have hkk17 := Nat.le_trans hkk8 (Nat.le_of_eq W17.size.symm)
  have M17 : h0.size ≤ h17.size := Nat.le_trans M8 (Nat.le_of_eq W17.size.symm)
  have O17 := Old.wr O8 W17 g_b8
  have lt18 : o1 < h2.size := (Nat.lt_of_lt_of_le P0.lt E2.1)
  have ne19 : o1 ≠ b8 := Nat.ne_of_lt (Nat.lt_of_lt_of_le lt18 sz_b8)
  have f20 := (f9.other W17 ne19)
  obtain ⟨cl21, Ar21, qa21, Sa21, Na21, Ha21, Ga21⟩ := id (f20)
  obtain ⟨cl22, Ar22, qa22, Sa22, Na22, Ha22, Ga22⟩ := id (f20)
  have hin22 : ¬ ((1 : Int32) < 0 ∨ cl22.slots.size ≤ ((1 : Int32)).toNatClampNeg) := inb_of Sa22 ⟨by decide, by decide⟩
  have hat22 : cl22.slots[((1 : Int32)).toNatClampNeg]? = some (.ref v4) := Has.at Ha22 hin22 rfl
  obtain ⟨_, T23, L23, X23, hQ23, st23⟩ := own_vb X17 hx hZ hown (y := yn5) (own_w hw 29 rfl) (own_w hw 30 rfl) (own_w hw 32 rfl) (own_w hw 31 rfl) (own_w hw 33 rfl) (own_w hw 22 rfl) e17 (P4.ext O17.2) (argsL := []) (rest := [(.int 1), (.ref b8)]) (rm14 l Z a0 hw [] p8 v4 h17 n0 O17 (by have q0 := bd_p8; omega) P5) (g := (mkF m 38 #[.val (.ref o1), .val (.int 1), .val (.ref b8), .val (.int 1), .val (.ref v4)] [(.ref v4), (.int 1), (.ref b8)])) rfl (by rw [hml]; rfl) rfl (hb hby d2_38) (lenOf pd5 rfl) (W := 2) (c1 := 3) (s1 := 60)
  obtain ⟨rfl, Nq24, e25⟩ := hQ23
  have N23 := Fr.app N17 Nq24
  obtain ⟨cl26, Ar26, qa26, Sa26, Na26, Ha26, Ga26⟩ := id (V17)
  have hin26 : ¬ ((1 : Int32) < 0 ∨ cl26.slots.size ≤ ((1 : Int32)).toNatClampNeg) := inb_of Sa26 ⟨by decide, by decide⟩
  have hbz27 : 0 ≤ p8.toInt ∧ p8.toInt ≤ 1 := by have q0 := bd_p8; omega
  obtain ⟨T28, h28, X28, e28, W28, st28⟩ := stZ X23 hx hZ e25 Ar26 (j := (1 : Int32)) hin26 (g := (mkF m 41 #[.val (.ref o1), .val (.int 1), .val (.ref b8), .val (.int 1), .val (.ref v4)] [(.int p8), (.int 1), (.ref b8)])) rfl rfl (hb hby d2_41)
  rw [own_nz hbz27] at W28
  have V28 : Arv Z h28 b8 k8 .boolean (4 : Int32) [(.int p7), (.int p8), (.int 0), (.int 0)] (.int 0) := Arv.set Ar26 qa26 Sa26 Na26 Ha26 Ga26 (own_fz hbz27) W28 1 rfl (Nat.le_of_ble_eq_true rfl)
  have N28 := Fr.snoc X28 N23 g_b8
  have hkk28 := Nat.le_trans hkk17 (Nat.le_of_eq W28.size.symm)
  have M28 : h0.size ≤ h28.size := Nat.le_trans M17 (Nat.le_of_eq W28.size.symm)
  have O28 := Old.wr O17 W28 g_b8
  have f29 := (f20.other W28 ne19)
  obtain ⟨cl30, Ar30, qa30, Sa30, Na30, Ha30, Ga30⟩ := id (f29)
  obtain ⟨cl31, Ar31, qa31, Sa31, Na31, Ha31, Ga31⟩ := id (f29)
  have hin31 : ¬ ((2 : Int32) < 0 ∨ cl31.slots.size ≤ ((2 : Int32)).toNatClampNeg) := inb_of Sa31 ⟨by decide, by decide⟩
  have hat31 : cl31.slots[((2 : Int32)).toNatClampNeg]? = some (.ref v5) := Has.at Ha31 hin31 rfl
  obtain ⟨_, T32, L32, X32, hQ32, st32⟩ := own_vb X28 hx hZ hown (y := yn5) (own_w hw 29 rfl) (own_w hw 30 rfl) (own_w hw 32 rfl) (own_w hw 31 rfl) (own_w hw 33 rfl) (own_w hw 22 rfl) e28 (P6.ext O28.2) (argsL := []) (rest := [(.int 2), (.ref b8)]) (rm14 l Z a0 hw [] p9 v5 h28 n0 O28 (by have q0 := bd_p9; omega) P7) (g := (mkF m 38 #[.val (.ref o1), .val (.int 1), .val (.ref b8), .val (.int 2), .val (.ref v5)] [(.ref v5), (.int 2), (.ref b8)])) rfl (by rw [hml]; rfl) rfl (hb hby d2_38) (lenOf pd5 rfl) (W := 2) (c1 := 3) (s1 := 60)
  obtain ⟨rfl, Nq33, e34⟩ := hQ32
  have N32 := Fr.app N28 Nq33
  obtain ⟨cl35, Ar35, qa35, Sa35, Na35, Ha35, Ga35⟩ := id (V28)
  have hin35 : ¬ ((2 : Int32) < 0 ∨ cl35.slots.size ≤ ((2 : Int32)).toNatClampNeg) := inb_of Sa35 ⟨by decide, by decide⟩
  have hbz36 : 0 ≤ p9.toInt ∧ p9.toInt ≤ 1 := by have q0 := bd_p9; omega
  obtain ⟨T37, h37, X37, e37, W37, st37⟩ := stZ X32 hx hZ e34 Ar35 (j := (2 : Int32)) hin35 (g := (mkF m 41 #[.val (.ref o1), .val (.int 1), .val (.ref b8), .val (.int 2), .val (.ref v5)] [(.int p9), (.int 2), (.ref b8)])) rfl rfl (hb hby d2_41)
  rw [own_nz hbz36] at W37
  have V37 : Arv Z h37 b8 k8 .boolean (4 : Int32) [(.int p7), (.int p8), (.int p9), (.int 0)] (.int 0) := Arv.set Ar35 qa35 Sa35 Na35 Ha35 Ga35 (own_fz hbz36) W37 2 rfl (Nat.le_of_ble_eq_true rfl)
  have N37 := Fr.snoc X37 N32 g_b8
  have hkk37 := Nat.le_trans hkk28 (Nat.le_of_eq W37.size.symm)
  have M37 : h0.size ≤ h37.size := Nat.le_trans M28 (Nat.le_of_eq W37.size.symm)
  have O37 := Old.wr O28 W37 g_b8
  have f38 := (f29.other W37 ne19)
  obtain ⟨cl39, Ar39, qa39, Sa39, Na39, Ha39, Ga39⟩ := id (f38)
  obtain ⟨cl40, Ar40, qa40, Sa40, Na40, Ha40, Ga40⟩ := id (f38)
  have hin40 : ¬ ((3 : Int32) < 0 ∨ cl40.slots.size ≤ ((3 : Int32)).toNatClampNeg) := inb_of Sa40 ⟨by decide, by decide⟩
  have hat40 : cl40.slots[((3 : Int32)).toNatClampNeg]? = some (.ref v6) := Has.at Ha40 hin40 rfl
  obtain ⟨_, T41, L41, X41, hQ41, st41⟩ := own_vb X37 hx hZ hown (y := yn5) (own_w hw 29 rfl) (own_w hw 30 rfl) (own_w hw 32 rfl) (own_w hw 31 rfl) (own_w hw 33 rfl) (own_w hw 22 rfl) e37 (P8.ext O37.2) (argsL := []) (rest := [(.int 3), (.ref b8)]) (rm14 l Z a0 hw [] p10 v6 h37 n0 O37 (by have q0 := bd_p10; omega) P9) (g := (mkF m 38 #[.val (.ref o1), .val (.int 1), .val (.ref b8), .val (.int 3), .val (.ref v6)] [(.ref v6), (.int 3), (.ref b8)])) rfl (by rw [hml]; rfl) rfl (hb hby d2_38) (lenOf pd5 rfl) (W := 2) (c1 := 3) (s1 := 60)
  obtain ⟨rfl, Nq42, e43⟩ := hQ41
  have N41 := Fr.app N37 Nq42
  obtain ⟨cl44, Ar44, qa44, Sa44, Na44, Ha44, Ga44⟩ := id (V37)
  have hin44 : ¬ ((3 : Int32) < 0 ∨ cl44.slots.size ≤ ((3 : Int32)).toNatClampNeg) := inb_of Sa44 ⟨by decide, by decide⟩
  have hbz45 : 0 ≤ p10.toInt ∧ p10.toInt ≤ 1 := by have q0 := bd_p10; omega
  obtain ⟨T46, h46, X46, e46, W46, st46⟩ := stZ X41 hx hZ e43 Ar44 (j := (3 : Int32)) hin44 (g := (mkF m 41 #[.val (.ref o1), .val (.int 1), .val (.ref b8), .val (.int 3), .val (.ref v6)] [(.int p10), (.int 3), (.ref b8)])) rfl rfl (hb hby d2_41)
  rw [own_nz hbz45] at W46
  have V46 : Arv Z h46 b8 k8 .boolean (4 : Int32) [(.int p7), (.int p8), (.int p9), (.int p10)] (.int 0) := Arv.set Ar44 qa44 Sa44 Na44 Ha44 Ga44 (own_fz hbz45) W46 3 rfl (Nat.le_of_ble_eq_true rfl)
  have N46 := Fr.snoc X46 N41 g_b8
  have hkk46 := Nat.le_trans hkk37 (Nat.le_of_eq W46.size.symm)
  have M46 : h0.size ≤ h46.size := Nat.le_trans M37 (Nat.le_of_eq W46.size.symm)
  have O46 := Old.wr O37 W46 g_b8
  have f47 := (f38.other W46 ne19)
  obtain ⟨cl48, Ar48, qa48, Sa48, Na48, Ha48, Ga48⟩ := id (f47)
  obtain ⟨fs, hr, hrun, hended, hRE⟩ := X46.leaveW hS2 (by rw [e46]; exact hkk46) (v := some (.ref b8)) (fun h => by rw [hret] at h; cases h)
  have KL : Keep h0 h46 [] := (((((((Keep.refl h0 []).ext E2).ext E8).wr W17 (Or.inr (Nat.le_trans M2 sz_b8))).wr W28 (Or.inr (Nat.le_trans M2 sz_b8))).wr W37 (Or.inr (Nat.le_trans M2 sz_b8))).wr W46 (Or.inr (Nat.le_trans M2 sz_b8)))
  have f49 := ((((EX8.wr W17).wr W28).wr W37).wr W46)
  refine ⟨_, _, pre1 _ ?_, hrun, hended, _, _, rfl, ?_, hRE.1, hRE.2.1, hRE.2.2.1, hRE.2.2.2.mono (by decide) (by decide)⟩
  ·
    show Steps p.tables e below (s₁.setTop (mkF m 1 #[.val (.ref o1), .val (.int 1), .unset, .unset, .unset] [(.ref o1)])) _
    refine st2 _ ?_
    refine st3 _ ?_
    refine XS.pop X3.here hx rfl (hb hby d2_6) rfl rfl ?_
    refine XS.aloadN X3.here hx rfl (hb hby d2_7) rfl rfl ?_
    refine X3.arraylength hx (by rw [e5]; exact Ar7.1) (State.isArrayOf_alike hZ.alike Ar7.2.1) (g := (mkF m 8 #[.val (.ref o1), .val (.int 1), .unset, .unset, .unset] [(.ref o1)])) rfl rfl (hb hby d2_8) _ ?_
    rw [len_of Sa7 Na7]
    refine st8 _ ?_
    refine XS.astoreN X8.here hx rfl (hb hby d2_11) rfl rfl (l' := #[.val (.ref o1), .val (.int 1), .val (.ref b8), .unset, .unset]) rfl ?_
    refine XS.iconst X8.here hx rfl (hb hby d2_12) ?_
    refine XS.istoreN X8.here hx rfl (hb hby d2_13) rfl (l' := #[.val (.ref o1), .val (.int 1), .val (.ref b8), .val (.int 0), .unset]) rfl ?_
    refine XS.iloadN X8.here hx rfl (hb hby d2_14) rfl ?_
    refine XS.aloadN X8.here hx rfl (hb hby d2_15) rfl rfl ?_
    refine X8.arraylength hx (by rw [e8]; exact Ar10.1) (State.isArrayOf_alike hZ.alike Ar10.2.1) (g := (mkF m 16 #[.val (.ref o1), .val (.int 1), .val (.ref b8), .val (.int 0), .unset] [(.ref o1), (.int 0)])) rfl rfl (hb hby d2_16) _ ?_
    rw [len_of Sa10 Na10]
    refine XS.icmpNo X8.here hx rfl (hb hby d2_17) rfl (tlt (by decide : (0 : Int32) < (4 : Int32))).2.1 ?_
    refine XS.aloadN X8.here hx rfl (hb hby d2_20) rfl rfl ?_
    refine XS.iloadN X8.here hx rfl (hb hby d2_21) rfl ?_
    refine X8.aaload hx (j := (0 : Int32)) (v := (.ref v3)) (by rw [e8]; exact Ar11.1) (State.isArrayOf_alike hZ.alike Ar11.2.1) rfl Ar11.2.2 hin11 hat11 (g := (mkF m 22 #[.val (.ref o1), .val (.int 1), .val (.ref b8), .val (.int 0), .unset] [(.int 0), (.ref o1)])) rfl rfl (hb hby d2_22) _ ?_
    refine XS.astore X8.here hx rfl (hb hby d2_23) rfl rfl (l' := #[.val (.ref o1), .val (.int 1), .val (.ref b8), .val (.int 0), .val (.ref v3)]) rfl ?_
    refine XS.aloadN X8.here hx rfl (hb hby d2_25) rfl rfl ?_
    refine XS.iloadN X8.here hx rfl (hb hby d2_26) rfl ?_
    refine XS.aload X8.here hx rfl (hb hby d2_27) rfl rfl ?_
    refine XS.ifnonnullYes X8.here hx rfl (pc0 := 29) (pc' := 36) rfl (hb hby d2_29) rfl (by decide) (by decide) ?_
    refine XS.aload X8.here hx rfl (hb hby d2_36) rfl rfl ?_
    refine st12 _ ?_
    refine st17 _ ?_
    refine XS.iinc X17.here hx rfl (hb hby d2_42) rfl (l' := #[.val (.ref o1), .val (.int 1), .val (.ref b8), .val (.int 1), .val (.ref v3)]) rfl ?_
    refine XS.goto X17.here hx rfl (pc0 := 45) (pc' := 14) rfl (hb hby d2_45) (by decide) (by decide) ?_
    refine XS.iloadN X17.here hx rfl (hb hby d2_14) rfl ?_
    refine XS.aloadN X17.here hx rfl (hb hby d2_15) rfl rfl ?_
    refine X17.arraylength hx (by rw [e17]; exact Ar21.1) (State.isArrayOf_alike hZ.alike Ar21.2.1) (g := (mkF m 16 #[.val (.ref o1), .val (.int 1), .val (.ref b8), .val (.int 1), .val (.ref v3)] [(.ref o1), (.int 1)])) rfl rfl (hb hby d2_16) _ ?_
    rw [len_of Sa21 Na21]
    refine XS.icmpNo X17.here hx rfl (hb hby d2_17) rfl (tlt (by decide : (1 : Int32) < (4 : Int32))).2.1 ?_
    refine XS.aloadN X17.here hx rfl (hb hby d2_20) rfl rfl ?_
    refine XS.iloadN X17.here hx rfl (hb hby d2_21) rfl ?_
    refine X17.aaload hx (j := (1 : Int32)) (v := (.ref v4)) (by rw [e17]; exact Ar22.1) (State.isArrayOf_alike hZ.alike Ar22.2.1) rfl Ar22.2.2 hin22 hat22 (g := (mkF m 22 #[.val (.ref o1), .val (.int 1), .val (.ref b8), .val (.int 1), .val (.ref v3)] [(.int 1), (.ref o1)])) rfl rfl (hb hby d2_22) _ ?_
    refine XS.astore X17.here hx rfl (hb hby d2_23) rfl rfl (l' := #[.val (.ref o1), .val (.int 1), .val (.ref b8), .val (.int 1), .val (.ref v4)]) rfl ?_
    refine XS.aloadN X17.here hx rfl (hb hby d2_25) rfl rfl ?_
    refine XS.iloadN X17.here hx rfl (hb hby d2_26) rfl ?_
    refine XS.aload X17.here hx rfl (hb hby d2_27) rfl rfl ?_
    refine XS.ifnonnullYes X17.here hx rfl (pc0 := 29) (pc' := 36) rfl (hb hby d2_29) rfl (by decide) (by decide) ?_
    refine XS.aload X17.here hx rfl (hb hby d2_36) rfl rfl ?_
    show Steps p.tables e below (T17.setTop (mkF m 38 #[.val (.ref o1), .val (.int 1), .val (.ref b8), .val (.int 1), .val (.ref v4)] [(.ref v4), (.int 1), (.ref b8)])) _
    refine st23 _ ?_
    refine st28 _ ?_
    refine XS.iinc X28.here hx rfl (hb hby d2_42) rfl (l' := #[.val (.ref o1), .val (.int 1), .val (.ref b8), .val (.int 2), .val (.ref v4)]) rfl ?_
    refine XS.goto X28.here hx rfl (pc0 := 45) (pc' := 14) rfl (hb hby d2_45) (by decide) (by decide) ?_
    refine XS.iloadN X28.here hx rfl (hb hby d2_14) rfl ?_
    refine XS.aloadN X28.here hx rfl (hb hby d2_15) rfl rfl ?_
    refine X28.arraylength hx (by rw [e28]; exact Ar30.1) (State.isArrayOf_alike hZ.alike Ar30.2.1) (g := (mkF m 16 #[.val (.ref o1), .val (.int 1), .val (.ref b8), .val (.int 2), .val (.ref v4)] [(.ref o1), (.int 2)])) rfl rfl (hb hby d2_16) _ ?_
    rw [len_of Sa30 Na30]
    refine XS.icmpNo X28.here hx rfl (hb hby d2_17) rfl (tlt (by decide : (2 : Int32) < (4 : Int32))).2.1 ?_
    refine XS.aloadN X28.here hx rfl (hb hby d2_20) rfl rfl ?_
    refine XS.iloadN X28.here hx rfl (hb hby d2_21) rfl ?_
    refine X28.aaload hx (j := (2 : Int32)) (v := (.ref v5)) (by rw [e28]; exact Ar31.1) (State.isArrayOf_alike hZ.alike Ar31.2.1) rfl Ar31.2.2 hin31 hat31 (g := (mkF m 22 #[.val (.ref o1), .val (.int 1), .val (.ref b8), .val (.int 2), .val (.ref v4)] [(.int 2), (.ref o1)])) rfl rfl (hb hby d2_22) _ ?_
    refine XS.astore X28.here hx rfl (hb hby d2_23) rfl rfl (l' := #[.val (.ref o1), .val (.int 1), .val (.ref b8), .val (.int 2), .val (.ref v5)]) rfl ?_
    refine XS.aloadN X28.here hx rfl (hb hby d2_25) rfl rfl ?_
    refine XS.iloadN X28.here hx rfl (hb hby d2_26) rfl ?_
    refine XS.aload X28.here hx rfl (hb hby d2_27) rfl rfl ?_
    refine XS.ifnonnullYes X28.here hx rfl (pc0 := 29) (pc' := 36) rfl (hb hby d2_29) rfl (by decide) (by decide) ?_
    refine XS.aload X28.here hx rfl (hb hby d2_36) rfl rfl ?_
    refine st32 _ ?_
    refine st37 _ ?_
    refine XS.iinc X37.here hx rfl (hb hby d2_42) rfl (l' := #[.val (.ref o1), .val (.int 1), .val (.ref b8), .val (.int 3), .val (.ref v5)]) rfl ?_
    refine XS.goto X37.here hx rfl (pc0 := 45) (pc' := 14) rfl (hb hby d2_45) (by decide) (by decide) ?_
    refine XS.iloadN X37.here hx rfl (hb hby d2_14) rfl ?_
    refine XS.aloadN X37.here hx rfl (hb hby d2_15) rfl rfl ?_
    refine X37.arraylength hx (by rw [e37]; exact Ar39.1) (State.isArrayOf_alike hZ.alike Ar39.2.1) (g := (mkF m 16 #[.val (.ref o1), .val (.int 1), .val (.ref b8), .val (.int 3), .val (.ref v5)] [(.ref o1), (.int 3)])) rfl rfl (hb hby d2_16) _ ?_
    rw [len_of Sa39 Na39]
    refine XS.icmpNo X37.here hx rfl (hb hby d2_17) rfl (tlt (by decide : (3 : Int32) < (4 : Int32))).2.1 ?_
    refine XS.aloadN X37.here hx rfl (hb hby d2_20) rfl rfl ?_
    refine XS.iloadN X37.here hx rfl (hb hby d2_21) rfl ?_
    refine X37.aaload hx (j := (3 : Int32)) (v := (.ref v6)) (by rw [e37]; exact Ar40.1) (State.isArrayOf_alike hZ.alike Ar40.2.1) rfl Ar40.2.2 hin40 hat40 (g := (mkF m 22 #[.val (.ref o1), .val (.int 1), .val (.ref b8), .val (.int 3), .val (.ref v5)] [(.int 3), (.ref o1)])) rfl rfl (hb hby d2_22) _ ?_
    refine XS.astore X37.here hx rfl (hb hby d2_23) rfl rfl (l' := #[.val (.ref o1), .val (.int 1), .val (.ref b8), .val (.int 3), .val (.ref v6)]) rfl ?_
    refine XS.aloadN X37.here hx rfl (hb hby d2_25) rfl rfl ?_
    refine XS.iloadN X37.here hx rfl (hb hby d2_26) rfl ?_
    refine XS.aload X37.here hx rfl (hb hby d2_27) rfl rfl ?_
    refine XS.ifnonnullYes X37.here hx rfl (pc0 := 29) (pc' := 36) rfl (hb hby d2_29) rfl (by decide) (by decide) ?_
    refine XS.aload X37.here hx rfl (hb hby d2_36) rfl rfl ?_
    refine st41 _ ?_
    refine st46 _ ?_
    refine XS.iinc X46.here hx rfl (hb hby d2_42) rfl (l' := #[.val (.ref o1), .val (.int 1), .val (.ref b8), .val (.int 4), .val (.ref v6)]) rfl ?_
    refine XS.goto X46.here hx rfl (pc0 := 45) (pc' := 14) rfl (hb hby d2_45) (by decide) (by decide) ?_
    refine XS.iloadN X46.here hx rfl (hb hby d2_14) rfl ?_
    refine XS.aloadN X46.here hx rfl (hb hby d2_15) rfl rfl ?_
    show Steps p.tables e below (T46.setTop (mkF m 16 #[.val (.ref o1), .val (.int 1), .val (.ref b8), .val (.int 4), .val (.ref v6)] [(.ref o1), (.int 4)])) _
    refine X46.arraylength hx (by rw [e46]; exact Ar48.1) (State.isArrayOf_alike hZ.alike Ar48.2.1) (g := (mkF m 16 #[.val (.ref o1), .val (.int 1), .val (.ref b8), .val (.int 4), .val (.ref v6)] [(.ref o1), (.int 4)])) rfl rfl (hb hby d2_16) _ ?_
    rw [len_of Sa48 Na48]
    refine XS.icmpYes X46.here hx rfl (pc0 := 17) (pc' := 48) rfl (hb hby d2_17) rfl (flt (by decide : ¬ ((4 : Int32) < (4 : Int32)))).2.1 (by decide) (by decide) ?_
    refine XS.aloadN X46.here hx rfl (hb hby d2_48) rfl rfl ?_
    show Steps p.tables e below (T46.setTop (mkF m 49 #[.val (.ref o1), .val (.int 1), .val (.ref b8), .val (.int 4), .val (.ref v6)] [(.ref b8)])) _
    exact retOut X46 hx hret rfl (Or.inr (Or.inr (Or.inr (Or.inr ⟨rfl, rfl, rfl⟩)))) (hb hby d2_49) hr
  ·
    show Q43 Z o1 kc2 p7 p8 p9 p10 v3 v4 v5 v6 h0 n0 _ T46.heap _
    rw [e46]
    exact ⟨b8, k8, rfl, N46, KL, (Nat.le_trans M2 sz_b8), V46, f49⟩
theorem ef44 (m : MethodId) (x0 : Addr) (x1 : Addr) (x2 : Addr) (x3 : Int32) (x4 : Int32) (x5 : Int32) : entryFrame m #[(.ref x0), (.ref x1), (.ref x2), (.int x3), (.int x4), (.int x5)] 6 = mkF m 0 #[.val (.ref x0), .val (.ref x1), .val (.ref x2), .val (.int x3), .val (.int x4), .val (.int x5)] [] := by first | (simp [entryFrame, mkF, argsToLocals, Value.category]; done) | rfl
def Q44 (Z : State) (o1 : Addr) (o2 : Addr) (o3 : Addr) (p4 : Int32) (p6 : Int32) (p7 : Int32) (p8 : Int32) (p9 : Int32) (p11 : Int32) (p12 : Int32) (p13 : Int32) (p14 : Int32) (p16 : Int32) (p17 : Int32) (p18 : Int32) (p19 : Int32) (kc5 : ClassId) (kc10 : ClassId) (kc15 : ClassId) (h0 : Heap) (n0 : Nat) (v : Option Value) (h : Heap) (L : List Loc) : Prop :=
  ((p6 = p4) ∧ (p11 = p4) ∧ (p16 = p4) ∧ v = some (.int 1) ∧ Fr n0 L ∧ h = h0)
  ∨ ((p6 = p4) ∧ (p11 = p4) ∧ (¬ (p16 = p4)) ∧ v = some (.int 0) ∧ Fr n0 L ∧ h = h0)
  ∨ ((p6 = p4) ∧ (¬ (p11 = p4)) ∧ v = some (.int 0) ∧ Fr n0 L ∧ h = h0)
  ∨ ((¬ (p6 = p4)) ∧ v = some (.int 0) ∧ Fr n0 L ∧ h = h0)
set_option maxRecDepth 65536 in
set_option maxHeartbeats 40000000 in
theorem rm44 (l : Launch) (Z : State) (a0 : Array Value) (hw : ∀ d ∈ tables_1, d.before a0 Z = true) (ws : List Jvm.Cond) (o1 : Addr) (o2 : Addr) (o3 : Addr) (p4 : Int32) (p6 : Int32) (p7 : Int32) (p8 : Int32) (p9 : Int32) (p11 : Int32) (p12 : Int32) (p13 : Int32) (p14 : Int32) (p16 : Int32) (p17 : Int32) (p18 : Int32) (p19 : Int32) (kc5 : ClassId) (kc10 : ClassId) (kc15 : ClassId) (h0 : Heap) (n0 : Nat) (O0 : Old Z n0 h0) (g_o1 : n0 ≤ o1) (g_o2 : n0 ≤ o2) (g_o3 : n0 ≤ o3) (bd_p4 : 0 ≤ p4.toInt ∧ p4.toInt ≤ 1) (bd_p6 : 0 ≤ p6.toInt ∧ p6.toInt ≤ 1) (bd_p7 : 0 ≤ p7.toInt ∧ p7.toInt ≤ 1) (bd_p8 : 0 ≤ p8.toInt ∧ p8.toInt ≤ 1) (bd_p9 : 0 ≤ p9.toInt ∧ p9.toInt ≤ 1) (bd_p11 : 0 ≤ p11.toInt ∧ p11.toInt ≤ 1) (bd_p12 : 0 ≤ p12.toInt ∧ p12.toInt ≤ 1) (bd_p13 : 0 ≤ p13.toInt ∧ p13.toInt ≤ 1) (bd_p14 : 0 ≤ p14.toInt ∧ p14.toInt ≤ 1) (bd_p16 : 0 ≤ p16.toInt ∧ p16.toInt ≤ 1) (bd_p17 : 0 ≤ p17.toInt ∧ p17.toInt ≤ 1) (bd_p18 : 0 ≤ p18.toInt ∧ p18.toInt ≤ 1) (bd_p19 : 0 ≤ p19.toInt ∧ p19.toInt ≤ 1) (P0 : Arv Z h0 o1 kc5 .boolean (4 : Int32) [(.int p6), (.int p7), (.int p8), (.int p9)] (.int 0)) (P2 : Arv Z h0 o2 kc10 .boolean (4 : Int32) [(.int p11), (.int p12), (.int p13), (.int p14)] (.int 0)) (P4 : Arv Z h0 o3 kc15 .boolean (4 : Int32) [(.int p16), (.int p17), (.int p18), (.int p19)] (.int 0)) :
    MetFree l yn3 (head1 (Jvm.Cond.code yn3 method_3_code 6 (some .boolean) :: ws) ({ frames := 0, cells := 0, slots := 0, locals := 0 } : Room)) (fun a U => a = #[(.ref o1), (.ref o2), (.ref o3), (.int 0), (.int 4), (.int p4)] ∧ Z.Warmed39 U.vm ∧ U.heap = h0) (fun _ _ _ _ _ => True) (fun _ U o U' => ∃ v L, o = .returned v ∧ Q44 Z o1 o2 o3 p4 p6 p7 p8 p9 p11 p12 p13 p14 p16 p17 p18 p19 kc5 kc10 kc15 h0 n0 v U'.heap L ∧ FrameEnd U o U' L ({ frames := 0, cells := 0, slots := 0, locals := 0 } : Room).cells ({ frames := 0, cells := 0, slots := 0, locals := 0 } : Room).slots) := by
  refine MetFree.of_bodySF (plainFor_of_name pn2) hisR ?_
  intro p e s m args below meth c s₁ Bd hml0 hP hK
  obtain ⟨rfl, hZ, hh⟩ := hP
  have hx := Bd.exec
  have hby := Bd.bytes
  have hml : c.maxLocals = 6 := hml0
  have hown : s.vm.findClass "com/example/castless/castless/PrimitiveArraysBoxPinLaw" = some m.cls := findClass_of_methodNamed Bd.named
  have hnm := (name_of_methodNamed Bd.named Bd.method).1
  have hret := Bd.returns
  have hlk : meth.locks = false := BodyLoose.notSynchronized Bd
  have X0 : Stand p l e ({ frames := 0, cells := 0, slots := 0, locals := 0 } : Room) s m #[(.ref o1), (.ref o2), (.ref o3), (.int 0), (.int 4), (.int p4)] below meth c s₁ [] 0 0 := Stand.of_body Bd
  have e0 : s₁.heap = h0 := by rw [← hh, Bd.state]; rfl
  have N0 := Fr.nil n0
  have pre0 : ∀ t, Steps p.tables e below (s₁.setTop (mkF m 0 #[.val (.ref o1), .val (.ref o2), .val (.ref o3), .val (.int 0), .val (.int 4), .val (.int p4)] [])) t → Steps p.tables e below (s₁.setTop (entryFrame m #[(.ref o1), (.ref o2), (.ref o3), (.int 0), (.int 4), (.int p4)] 6)) t := fun t k => castTop (ef44 m o1 o2 o3 (0 : Int32) (4 : Int32) p4) k
  obtain ⟨cl1, Ar1, qa1, Sa1, Na1, Ha1, Ga1⟩ := id (P0)
  have hin1 : ¬ ((0 : Int32) < 0 ∨ cl1.slots.size ≤ ((0 : Int32)).toNatClampNeg) := inb_of Sa1 ⟨by decide, by decide⟩
  have hat1 : cl1.slots[((0 : Int32)).toNatClampNeg]? = some (.int p6) := Has.at Ha1 hin1 rfl
  have pre2 : ∀ t, Steps p.tables e below (s₁.setTop (mkF m 13 #[.val (.ref o1), .val (.ref o2), .val (.ref o3), .val (.int 0), .val (.int 4), .val (.int p4)] [(.int p4), (.int p6)])) t → Steps p.tables e below (s₁.setTop (entryFrame m #[(.ref o1), (.ref o2), (.ref o3), (.int 0), (.int 4), (.int p4)] 6)) t := fun t k => by
    refine pre0 _ ?_
    show Steps p.tables e below (s₁.setTop (mkF m 0 #[.val (.ref o1), .val (.ref o2), .val (.ref o3), .val (.int 0), .val (.int 4), .val (.int p4)] [])) _
    refine XS.iloadN X0.here hx rfl (hb hby d3_0) rfl ?_
    refine XS.iload X0.here hx rfl (hb hby d3_1) rfl ?_
    refine XS.icmpYes X0.here hx rfl (pc0 := 3) (pc' := 8) rfl (hb hby d3_3) rfl (tlt (by decide : (0 : Int32) < (4 : Int32))).1 (by decide) (by decide) ?_
    refine XS.aloadN X0.here hx rfl (hb hby d3_8) rfl rfl ?_
    refine XS.iloadN X0.here hx rfl (hb hby d3_9) rfl ?_
    refine X0.baloadBooleans hx (j := (0 : Int32)) (v := (.int p6)) (by rw [e0]; exact Ar1.1) (State.isArrayOf_alike hZ.alike Ar1.2.1) Ar1.2.2 hin1 hat1 (g := (mkF m 10 #[.val (.ref o1), .val (.ref o2), .val (.ref o3), .val (.int 0), .val (.int 4), .val (.int p4)] [(.int 0), (.ref o1)])) rfl rfl (hb hby d3_10) _ ?_
    refine XS.iload X0.here hx rfl (hb hby d3_11) rfl ?_
    exact k
  by_cases hc3 : p6 = p4
  ·
    obtain ⟨cl4, Ar4, qa4, Sa4, Na4, Ha4, Ga4⟩ := id (P2)
    have hin4 : ¬ ((0 : Int32) < 0 ∨ cl4.slots.size ≤ ((0 : Int32)).toNatClampNeg) := inb_of Sa4 ⟨by decide, by decide⟩
    have hat4 : cl4.slots[((0 : Int32)).toNatClampNeg]? = some (.int p11) := Has.at Ha4 hin4 rfl
    have pre5 : ∀ t, Steps p.tables e below (s₁.setTop (mkF m 21 #[.val (.ref o1), .val (.ref o2), .val (.ref o3), .val (.int 0), .val (.int 4), .val (.int p4)] [(.int p4), (.int p11)])) t → Steps p.tables e below (s₁.setTop (entryFrame m #[(.ref o1), (.ref o2), (.ref o3), (.int 0), (.int 4), (.int p4)] 6)) t := fun t k => by
      refine pre2 _ ?_
      show Steps p.tables e below (s₁.setTop (mkF m 13 #[.val (.ref o1), .val (.ref o2), .val (.ref o3), .val (.int 0), .val (.int 4), .val (.int p4)] [(.int p4), (.int p6)])) _
      refine XS.icmpNo X0.here hx rfl (hb hby d3_13) rfl (teq hc3).2 ?_
      refine XS.aloadN X0.here hx rfl (hb hby d3_16) rfl rfl ?_
      refine XS.iloadN X0.here hx rfl (hb hby d3_17) rfl ?_
      refine X0.baloadBooleans hx (j := (0 : Int32)) (v := (.int p11)) (by rw [e0]; exact Ar4.1) (State.isArrayOf_alike hZ.alike Ar4.2.1) Ar4.2.2 hin4 hat4 (g := (mkF m 18 #[.val (.ref o1), .val (.ref o2), .val (.ref o3), .val (.int 0), .val (.int 4), .val (.int p4)] [(.int 0), (.ref o2)])) rfl rfl (hb hby d3_18) _ ?_
      refine XS.iload X0.here hx rfl (hb hby d3_19) rfl ?_
      exact k
    by_cases hc6 : p11 = p4
    ·
      obtain ⟨cl7, Ar7, qa7, Sa7, Na7, Ha7, Ga7⟩ := id (P4)
      have hin7 : ¬ ((0 : Int32) < 0 ∨ cl7.slots.size ≤ ((0 : Int32)).toNatClampNeg) := inb_of Sa7 ⟨by decide, by decide⟩
      have hat7 : cl7.slots[((0 : Int32)).toNatClampNeg]? = some (.int p16) := Has.at Ha7 hin7 rfl
      have pre8 : ∀ t, Steps p.tables e below (s₁.setTop (mkF m 29 #[.val (.ref o1), .val (.ref o2), .val (.ref o3), .val (.int 0), .val (.int 4), .val (.int p4)] [(.int p4), (.int p16)])) t → Steps p.tables e below (s₁.setTop (entryFrame m #[(.ref o1), (.ref o2), (.ref o3), (.int 0), (.int 4), (.int p4)] 6)) t := fun t k => by
        refine pre5 _ ?_
        show Steps p.tables e below (s₁.setTop (mkF m 21 #[.val (.ref o1), .val (.ref o2), .val (.ref o3), .val (.int 0), .val (.int 4), .val (.int p4)] [(.int p4), (.int p11)])) _
        refine XS.icmpNo X0.here hx rfl (hb hby d3_21) rfl (teq hc6).2 ?_
        refine XS.aloadN X0.here hx rfl (hb hby d3_24) rfl rfl ?_
        refine XS.iloadN X0.here hx rfl (hb hby d3_25) rfl ?_
        refine X0.baloadBooleans hx (j := (0 : Int32)) (v := (.int p16)) (by rw [e0]; exact Ar7.1) (State.isArrayOf_alike hZ.alike Ar7.2.1) Ar7.2.2 hin7 hat7 (g := (mkF m 26 #[.val (.ref o1), .val (.ref o2), .val (.ref o3), .val (.int 0), .val (.int 4), .val (.int p4)] [(.int 0), (.ref o3)])) rfl rfl (hb hby d3_26) _ ?_
        refine XS.iload X0.here hx rfl (hb hby d3_27) rfl ?_
        exact k
      by_cases hc9 : p16 = p4
      ·
        obtain ⟨fs, hr, hrun, hended, hW, hsame⟩ := X0.leave (v := some (.int 1)) (fun h => by rw [hret] at h; cases h)
        refine ⟨_, _, pre8 _ ?_, hrun, hended, _, _, rfl, ?_, ⟨_, rfl⟩, hW, hsame.mono (by decide) (by decide)⟩
        ·
          show Steps p.tables e below (s₁.setTop (mkF m 29 #[.val (.ref o1), .val (.ref o2), .val (.ref o3), .val (.int 0), .val (.int 4), .val (.int p4)] [(.int p4), (.int p16)])) _
          refine XS.icmpNo X0.here hx rfl (hb hby d3_29) rfl (teq hc9).2 ?_
          refine XS.iconst X0.here hx rfl (hb hby d3_32) ?_
          refine XS.goto X0.here hx rfl (pc0 := 33) (pc' := 37) rfl (hb hby d3_33) (by decide) (by decide) ?_
          show Steps p.tables e below (s₁.setTop (mkF m 37 #[.val (.ref o1), .val (.ref o2), .val (.ref o3), .val (.int 0), .val (.int 4), .val (.int p4)] [(.int 1)])) _
          exact retN X0 hx (t := .boolean) hret (by simp) (hb hby d3_37) hr
        ·
          show Q44 Z o1 o2 o3 p4 p6 p7 p8 p9 p11 p12 p13 p14 p16 p17 p18 p19 kc5 kc10 kc15 h0 n0 _ s₁.heap _
          rw [e0]
          exact (Or.inl ⟨hc3, hc6, hc9, rfl, N0, rfl⟩)
      ·
        obtain ⟨fs, hr, hrun, hended, hW, hsame⟩ := X0.leave (v := some (.int 0)) (fun h => by rw [hret] at h; cases h)
        refine ⟨_, _, pre8 _ ?_, hrun, hended, _, _, rfl, ?_, ⟨_, rfl⟩, hW, hsame.mono (by decide) (by decide)⟩
        ·
          show Steps p.tables e below (s₁.setTop (mkF m 29 #[.val (.ref o1), .val (.ref o2), .val (.ref o3), .val (.int 0), .val (.int 4), .val (.int p4)] [(.int p4), (.int p16)])) _
          refine XS.icmpYes X0.here hx rfl (pc0 := 29) (pc' := 36) rfl (hb hby d3_29) rfl (feq hc9).2 (by decide) (by decide) ?_
          refine XS.iconst X0.here hx rfl (hb hby d3_36) ?_
          show Steps p.tables e below (s₁.setTop (mkF m 37 #[.val (.ref o1), .val (.ref o2), .val (.ref o3), .val (.int 0), .val (.int 4), .val (.int p4)] [(.int 0)])) _
          exact retN X0 hx (t := .boolean) hret (by simp) (hb hby d3_37) hr
        ·
          show Q44 Z o1 o2 o3 p4 p6 p7 p8 p9 p11 p12 p13 p14 p16 p17 p18 p19 kc5 kc10 kc15 h0 n0 _ s₁.heap _
          rw [e0]
          exact (Or.inr (Or.inl ⟨hc3, hc6, hc9, rfl, N0, rfl⟩))
    ·
      obtain ⟨fs, hr, hrun, hended, hW, hsame⟩ := X0.leave (v := some (.int 0)) (fun h => by rw [hret] at h; cases h)
      refine ⟨_, _, pre5 _ ?_, hrun, hended, _, _, rfl, ?_, ⟨_, rfl⟩, hW, hsame.mono (by decide) (by decide)⟩
      ·
        show Steps p.tables e below (s₁.setTop (mkF m 21 #[.val (.ref o1), .val (.ref o2), .val (.ref o3), .val (.int 0), .val (.int 4), .val (.int p4)] [(.int p4), (.int p11)])) _
        refine XS.icmpYes X0.here hx rfl (pc0 := 21) (pc' := 36) rfl (hb hby d3_21) rfl (feq hc6).2 (by decide) (by decide) ?_
        refine XS.iconst X0.here hx rfl (hb hby d3_36) ?_
        show Steps p.tables e below (s₁.setTop (mkF m 37 #[.val (.ref o1), .val (.ref o2), .val (.ref o3), .val (.int 0), .val (.int 4), .val (.int p4)] [(.int 0)])) _
        exact retN X0 hx (t := .boolean) hret (by simp) (hb hby d3_37) hr
      ·
        show Q44 Z o1 o2 o3 p4 p6 p7 p8 p9 p11 p12 p13 p14 p16 p17 p18 p19 kc5 kc10 kc15 h0 n0 _ s₁.heap _
        rw [e0]
        exact (Or.inr (Or.inr (Or.inl ⟨hc3, hc6, rfl, N0, rfl⟩)))
  ·
    obtain ⟨fs, hr, hrun, hended, hW, hsame⟩ := X0.leave (v := some (.int 0)) (fun h => by rw [hret] at h; cases h)
    refine ⟨_, _, pre2 _ ?_, hrun, hended, _, _, rfl, ?_, ⟨_, rfl⟩, hW, hsame.mono (by decide) (by decide)⟩
    ·
      show Steps p.tables e below (s₁.setTop (mkF m 13 #[.val (.ref o1), .val (.ref o2), .val (.ref o3), .val (.int 0), .val (.int 4), .val (.int p4)] [(.int p4), (.int p6)])) _
      refine XS.icmpYes X0.here hx rfl (pc0 := 13) (pc' := 36) rfl (hb hby d3_13) rfl (feq hc3).2 (by decide) (by decide) ?_
      refine XS.iconst X0.here hx rfl (hb hby d3_36) ?_
      show Steps p.tables e below (s₁.setTop (mkF m 37 #[.val (.ref o1), .val (.ref o2), .val (.ref o3), .val (.int 0), .val (.int 4), .val (.int p4)] [(.int 0)])) _
      exact retN X0 hx (t := .boolean) hret (by simp) (hb hby d3_37) hr
    ·
      show Q44 Z o1 o2 o3 p4 p6 p7 p8 p9 p11 p12 p13 p14 p16 p17 p18 p19 kc5 kc10 kc15 h0 n0 _ s₁.heap _
      rw [e0]
      exact (Or.inr (Or.inr (Or.inr ⟨hc3, rfl, N0, rfl⟩)))
theorem ef45 (m : MethodId) (x0 : Addr) (x1 : Addr) (x2 : Addr) (x3 : Int32) (x4 : Int32) (x5 : Int32) : entryFrame m #[(.ref x0), (.ref x1), (.ref x2), (.int x3), (.int x4), (.int x5)] 6 = mkF m 0 #[.val (.ref x0), .val (.ref x1), .val (.ref x2), .val (.int x3), .val (.int x4), .val (.int x5)] [] := by first | (simp [entryFrame, mkF, argsToLocals, Value.category]; done) | rfl
def Q45 (Z : State) (o1 : Addr) (o2 : Addr) (o3 : Addr) (p4 : Int32) (p6 : Int32) (p7 : Int32) (p8 : Int32) (p9 : Int32) (p11 : Int32) (p12 : Int32) (p13 : Int32) (p14 : Int32) (p16 : Int32) (p17 : Int32) (p18 : Int32) (p19 : Int32) (kc5 : ClassId) (kc10 : ClassId) (kc15 : ClassId) (h0 : Heap) (n0 : Nat) (v : Option Value) (h : Heap) (L : List Loc) : Prop :=
  ((p7 = p4) ∧ (p12 = p4) ∧ (p17 = p4) ∧ v = some (.int 1) ∧ Fr n0 L ∧ h = h0)
  ∨ ((p7 = p4) ∧ (p12 = p4) ∧ (¬ (p17 = p4)) ∧ v = some (.int 0) ∧ Fr n0 L ∧ h = h0)
  ∨ ((p7 = p4) ∧ (¬ (p12 = p4)) ∧ v = some (.int 0) ∧ Fr n0 L ∧ h = h0)
  ∨ ((¬ (p7 = p4)) ∧ v = some (.int 0) ∧ Fr n0 L ∧ h = h0)
set_option maxRecDepth 65536 in
set_option maxHeartbeats 40000000 in
theorem rm45 (l : Launch) (Z : State) (a0 : Array Value) (hw : ∀ d ∈ tables_1, d.before a0 Z = true) (ws : List Jvm.Cond) (o1 : Addr) (o2 : Addr) (o3 : Addr) (p4 : Int32) (p6 : Int32) (p7 : Int32) (p8 : Int32) (p9 : Int32) (p11 : Int32) (p12 : Int32) (p13 : Int32) (p14 : Int32) (p16 : Int32) (p17 : Int32) (p18 : Int32) (p19 : Int32) (kc5 : ClassId) (kc10 : ClassId) (kc15 : ClassId) (h0 : Heap) (n0 : Nat) (O0 : Old Z n0 h0) (g_o1 : n0 ≤ o1) (g_o2 : n0 ≤ o2) (g_o3 : n0 ≤ o3) (bd_p4 : 0 ≤ p4.toInt ∧ p4.toInt ≤ 1) (bd_p6 : 0 ≤ p6.toInt ∧ p6.toInt ≤ 1) (bd_p7 : 0 ≤ p7.toInt ∧ p7.toInt ≤ 1) (bd_p8 : 0 ≤ p8.toInt ∧ p8.toInt ≤ 1) (bd_p9 : 0 ≤ p9.toInt ∧ p9.toInt ≤ 1) (bd_p11 : 0 ≤ p11.toInt ∧ p11.toInt ≤ 1) (bd_p12 : 0 ≤ p12.toInt ∧ p12.toInt ≤ 1) (bd_p13 : 0 ≤ p13.toInt ∧ p13.toInt ≤ 1) (bd_p14 : 0 ≤ p14.toInt ∧ p14.toInt ≤ 1) (bd_p16 : 0 ≤ p16.toInt ∧ p16.toInt ≤ 1) (bd_p17 : 0 ≤ p17.toInt ∧ p17.toInt ≤ 1) (bd_p18 : 0 ≤ p18.toInt ∧ p18.toInt ≤ 1) (bd_p19 : 0 ≤ p19.toInt ∧ p19.toInt ≤ 1) (P0 : Arv Z h0 o1 kc5 .boolean (4 : Int32) [(.int p6), (.int p7), (.int p8), (.int p9)] (.int 0)) (P2 : Arv Z h0 o2 kc10 .boolean (4 : Int32) [(.int p11), (.int p12), (.int p13), (.int p14)] (.int 0)) (P4 : Arv Z h0 o3 kc15 .boolean (4 : Int32) [(.int p16), (.int p17), (.int p18), (.int p19)] (.int 0)) :
    MetFree l yn3 (head1 (Jvm.Cond.code yn3 method_3_code 6 (some .boolean) :: ws) ({ frames := 0, cells := 0, slots := 0, locals := 0 } : Room)) (fun a U => a = #[(.ref o1), (.ref o2), (.ref o3), (.int 1), (.int 4), (.int p4)] ∧ Z.Warmed39 U.vm ∧ U.heap = h0) (fun _ _ _ _ _ => True) (fun _ U o U' => ∃ v L, o = .returned v ∧ Q45 Z o1 o2 o3 p4 p6 p7 p8 p9 p11 p12 p13 p14 p16 p17 p18 p19 kc5 kc10 kc15 h0 n0 v U'.heap L ∧ FrameEnd U o U' L ({ frames := 0, cells := 0, slots := 0, locals := 0 } : Room).cells ({ frames := 0, cells := 0, slots := 0, locals := 0 } : Room).slots) := by
  refine MetFree.of_bodySF (plainFor_of_name pn2) hisR ?_
  intro p e s m args below meth c s₁ Bd hml0 hP hK
  obtain ⟨rfl, hZ, hh⟩ := hP
  have hx := Bd.exec
  have hby := Bd.bytes
  have hml : c.maxLocals = 6 := hml0
  have hown : s.vm.findClass "com/example/castless/castless/PrimitiveArraysBoxPinLaw" = some m.cls := findClass_of_methodNamed Bd.named
  have hnm := (name_of_methodNamed Bd.named Bd.method).1
  have hret := Bd.returns
  have hlk : meth.locks = false := BodyLoose.notSynchronized Bd
  have X0 : Stand p l e ({ frames := 0, cells := 0, slots := 0, locals := 0 } : Room) s m #[(.ref o1), (.ref o2), (.ref o3), (.int 1), (.int 4), (.int p4)] below meth c s₁ [] 0 0 := Stand.of_body Bd
  have e0 : s₁.heap = h0 := by rw [← hh, Bd.state]; rfl
  have N0 := Fr.nil n0
  have pre0 : ∀ t, Steps p.tables e below (s₁.setTop (mkF m 0 #[.val (.ref o1), .val (.ref o2), .val (.ref o3), .val (.int 1), .val (.int 4), .val (.int p4)] [])) t → Steps p.tables e below (s₁.setTop (entryFrame m #[(.ref o1), (.ref o2), (.ref o3), (.int 1), (.int 4), (.int p4)] 6)) t := fun t k => castTop (ef45 m o1 o2 o3 (1 : Int32) (4 : Int32) p4) k
  obtain ⟨cl1, Ar1, qa1, Sa1, Na1, Ha1, Ga1⟩ := id (P0)
  have hin1 : ¬ ((1 : Int32) < 0 ∨ cl1.slots.size ≤ ((1 : Int32)).toNatClampNeg) := inb_of Sa1 ⟨by decide, by decide⟩
  have hat1 : cl1.slots[((1 : Int32)).toNatClampNeg]? = some (.int p7) := Has.at Ha1 hin1 rfl
  have pre2 : ∀ t, Steps p.tables e below (s₁.setTop (mkF m 13 #[.val (.ref o1), .val (.ref o2), .val (.ref o3), .val (.int 1), .val (.int 4), .val (.int p4)] [(.int p4), (.int p7)])) t → Steps p.tables e below (s₁.setTop (entryFrame m #[(.ref o1), (.ref o2), (.ref o3), (.int 1), (.int 4), (.int p4)] 6)) t := fun t k => by
    refine pre0 _ ?_
    show Steps p.tables e below (s₁.setTop (mkF m 0 #[.val (.ref o1), .val (.ref o2), .val (.ref o3), .val (.int 1), .val (.int 4), .val (.int p4)] [])) _
    refine XS.iloadN X0.here hx rfl (hb hby d3_0) rfl ?_
    refine XS.iload X0.here hx rfl (hb hby d3_1) rfl ?_
    refine XS.icmpYes X0.here hx rfl (pc0 := 3) (pc' := 8) rfl (hb hby d3_3) rfl (tlt (by decide : (1 : Int32) < (4 : Int32))).1 (by decide) (by decide) ?_
    refine XS.aloadN X0.here hx rfl (hb hby d3_8) rfl rfl ?_
    refine XS.iloadN X0.here hx rfl (hb hby d3_9) rfl ?_
    refine X0.baloadBooleans hx (j := (1 : Int32)) (v := (.int p7)) (by rw [e0]; exact Ar1.1) (State.isArrayOf_alike hZ.alike Ar1.2.1) Ar1.2.2 hin1 hat1 (g := (mkF m 10 #[.val (.ref o1), .val (.ref o2), .val (.ref o3), .val (.int 1), .val (.int 4), .val (.int p4)] [(.int 1), (.ref o1)])) rfl rfl (hb hby d3_10) _ ?_
    refine XS.iload X0.here hx rfl (hb hby d3_11) rfl ?_
    exact k
  by_cases hc3 : p7 = p4
  ·
    obtain ⟨cl4, Ar4, qa4, Sa4, Na4, Ha4, Ga4⟩ := id (P2)
    have hin4 : ¬ ((1 : Int32) < 0 ∨ cl4.slots.size ≤ ((1 : Int32)).toNatClampNeg) := inb_of Sa4 ⟨by decide, by decide⟩
    have hat4 : cl4.slots[((1 : Int32)).toNatClampNeg]? = some (.int p12) := Has.at Ha4 hin4 rfl
    have pre5 : ∀ t, Steps p.tables e below (s₁.setTop (mkF m 21 #[.val (.ref o1), .val (.ref o2), .val (.ref o3), .val (.int 1), .val (.int 4), .val (.int p4)] [(.int p4), (.int p12)])) t → Steps p.tables e below (s₁.setTop (entryFrame m #[(.ref o1), (.ref o2), (.ref o3), (.int 1), (.int 4), (.int p4)] 6)) t := fun t k => by
      refine pre2 _ ?_
      show Steps p.tables e below (s₁.setTop (mkF m 13 #[.val (.ref o1), .val (.ref o2), .val (.ref o3), .val (.int 1), .val (.int 4), .val (.int p4)] [(.int p4), (.int p7)])) _
      refine XS.icmpNo X0.here hx rfl (hb hby d3_13) rfl (teq hc3).2 ?_
      refine XS.aloadN X0.here hx rfl (hb hby d3_16) rfl rfl ?_
      refine XS.iloadN X0.here hx rfl (hb hby d3_17) rfl ?_
      refine X0.baloadBooleans hx (j := (1 : Int32)) (v := (.int p12)) (by rw [e0]; exact Ar4.1) (State.isArrayOf_alike hZ.alike Ar4.2.1) Ar4.2.2 hin4 hat4 (g := (mkF m 18 #[.val (.ref o1), .val (.ref o2), .val (.ref o3), .val (.int 1), .val (.int 4), .val (.int p4)] [(.int 1), (.ref o2)])) rfl rfl (hb hby d3_18) _ ?_
      refine XS.iload X0.here hx rfl (hb hby d3_19) rfl ?_
      exact k
    by_cases hc6 : p12 = p4
    ·
      obtain ⟨cl7, Ar7, qa7, Sa7, Na7, Ha7, Ga7⟩ := id (P4)
      have hin7 : ¬ ((1 : Int32) < 0 ∨ cl7.slots.size ≤ ((1 : Int32)).toNatClampNeg) := inb_of Sa7 ⟨by decide, by decide⟩
      have hat7 : cl7.slots[((1 : Int32)).toNatClampNeg]? = some (.int p17) := Has.at Ha7 hin7 rfl
      have pre8 : ∀ t, Steps p.tables e below (s₁.setTop (mkF m 29 #[.val (.ref o1), .val (.ref o2), .val (.ref o3), .val (.int 1), .val (.int 4), .val (.int p4)] [(.int p4), (.int p17)])) t → Steps p.tables e below (s₁.setTop (entryFrame m #[(.ref o1), (.ref o2), (.ref o3), (.int 1), (.int 4), (.int p4)] 6)) t := fun t k => by
        refine pre5 _ ?_
        show Steps p.tables e below (s₁.setTop (mkF m 21 #[.val (.ref o1), .val (.ref o2), .val (.ref o3), .val (.int 1), .val (.int 4), .val (.int p4)] [(.int p4), (.int p12)])) _
        refine XS.icmpNo X0.here hx rfl (hb hby d3_21) rfl (teq hc6).2 ?_
        refine XS.aloadN X0.here hx rfl (hb hby d3_24) rfl rfl ?_
        refine XS.iloadN X0.here hx rfl (hb hby d3_25) rfl ?_
        refine X0.baloadBooleans hx (j := (1 : Int32)) (v := (.int p17)) (by rw [e0]; exact Ar7.1) (State.isArrayOf_alike hZ.alike Ar7.2.1) Ar7.2.2 hin7 hat7 (g := (mkF m 26 #[.val (.ref o1), .val (.ref o2), .val (.ref o3), .val (.int 1), .val (.int 4), .val (.int p4)] [(.int 1), (.ref o3)])) rfl rfl (hb hby d3_26) _ ?_
        refine XS.iload X0.here hx rfl (hb hby d3_27) rfl ?_
        exact k
      by_cases hc9 : p17 = p4
      ·
        obtain ⟨fs, hr, hrun, hended, hW, hsame⟩ := X0.leave (v := some (.int 1)) (fun h => by rw [hret] at h; cases h)
        refine ⟨_, _, pre8 _ ?_, hrun, hended, _, _, rfl, ?_, ⟨_, rfl⟩, hW, hsame.mono (by decide) (by decide)⟩
        ·
          show Steps p.tables e below (s₁.setTop (mkF m 29 #[.val (.ref o1), .val (.ref o2), .val (.ref o3), .val (.int 1), .val (.int 4), .val (.int p4)] [(.int p4), (.int p17)])) _
          refine XS.icmpNo X0.here hx rfl (hb hby d3_29) rfl (teq hc9).2 ?_
          refine XS.iconst X0.here hx rfl (hb hby d3_32) ?_
          refine XS.goto X0.here hx rfl (pc0 := 33) (pc' := 37) rfl (hb hby d3_33) (by decide) (by decide) ?_
          show Steps p.tables e below (s₁.setTop (mkF m 37 #[.val (.ref o1), .val (.ref o2), .val (.ref o3), .val (.int 1), .val (.int 4), .val (.int p4)] [(.int 1)])) _
          exact retN X0 hx (t := .boolean) hret (by simp) (hb hby d3_37) hr
        ·
          show Q45 Z o1 o2 o3 p4 p6 p7 p8 p9 p11 p12 p13 p14 p16 p17 p18 p19 kc5 kc10 kc15 h0 n0 _ s₁.heap _
          rw [e0]
          exact (Or.inl ⟨hc3, hc6, hc9, rfl, N0, rfl⟩)
      ·
        obtain ⟨fs, hr, hrun, hended, hW, hsame⟩ := X0.leave (v := some (.int 0)) (fun h => by rw [hret] at h; cases h)
        refine ⟨_, _, pre8 _ ?_, hrun, hended, _, _, rfl, ?_, ⟨_, rfl⟩, hW, hsame.mono (by decide) (by decide)⟩
        ·
          show Steps p.tables e below (s₁.setTop (mkF m 29 #[.val (.ref o1), .val (.ref o2), .val (.ref o3), .val (.int 1), .val (.int 4), .val (.int p4)] [(.int p4), (.int p17)])) _
          refine XS.icmpYes X0.here hx rfl (pc0 := 29) (pc' := 36) rfl (hb hby d3_29) rfl (feq hc9).2 (by decide) (by decide) ?_
          refine XS.iconst X0.here hx rfl (hb hby d3_36) ?_
          show Steps p.tables e below (s₁.setTop (mkF m 37 #[.val (.ref o1), .val (.ref o2), .val (.ref o3), .val (.int 1), .val (.int 4), .val (.int p4)] [(.int 0)])) _
          exact retN X0 hx (t := .boolean) hret (by simp) (hb hby d3_37) hr
        ·
          show Q45 Z o1 o2 o3 p4 p6 p7 p8 p9 p11 p12 p13 p14 p16 p17 p18 p19 kc5 kc10 kc15 h0 n0 _ s₁.heap _
          rw [e0]
          exact (Or.inr (Or.inl ⟨hc3, hc6, hc9, rfl, N0, rfl⟩))
    ·
      obtain ⟨fs, hr, hrun, hended, hW, hsame⟩ := X0.leave (v := some (.int 0)) (fun h => by rw [hret] at h; cases h)
      refine ⟨_, _, pre5 _ ?_, hrun, hended, _, _, rfl, ?_, ⟨_, rfl⟩, hW, hsame.mono (by decide) (by decide)⟩
      ·
        show Steps p.tables e below (s₁.setTop (mkF m 21 #[.val (.ref o1), .val (.ref o2), .val (.ref o3), .val (.int 1), .val (.int 4), .val (.int p4)] [(.int p4), (.int p12)])) _
        refine XS.icmpYes X0.here hx rfl (pc0 := 21) (pc' := 36) rfl (hb hby d3_21) rfl (feq hc6).2 (by decide) (by decide) ?_
        refine XS.iconst X0.here hx rfl (hb hby d3_36) ?_
        show Steps p.tables e below (s₁.setTop (mkF m 37 #[.val (.ref o1), .val (.ref o2), .val (.ref o3), .val (.int 1), .val (.int 4), .val (.int p4)] [(.int 0)])) _
        exact retN X0 hx (t := .boolean) hret (by simp) (hb hby d3_37) hr
      ·
        show Q45 Z o1 o2 o3 p4 p6 p7 p8 p9 p11 p12 p13 p14 p16 p17 p18 p19 kc5 kc10 kc15 h0 n0 _ s₁.heap _
        rw [e0]
        exact (Or.inr (Or.inr (Or.inl ⟨hc3, hc6, rfl, N0, rfl⟩)))
  ·
    obtain ⟨fs, hr, hrun, hended, hW, hsame⟩ := X0.leave (v := some (.int 0)) (fun h => by rw [hret] at h; cases h)
    refine ⟨_, _, pre2 _ ?_, hrun, hended, _, _, rfl, ?_, ⟨_, rfl⟩, hW, hsame.mono (by decide) (by decide)⟩
    ·
      show Steps p.tables e below (s₁.setTop (mkF m 13 #[.val (.ref o1), .val (.ref o2), .val (.ref o3), .val (.int 1), .val (.int 4), .val (.int p4)] [(.int p4), (.int p7)])) _
      refine XS.icmpYes X0.here hx rfl (pc0 := 13) (pc' := 36) rfl (hb hby d3_13) rfl (feq hc3).2 (by decide) (by decide) ?_
      refine XS.iconst X0.here hx rfl (hb hby d3_36) ?_
      show Steps p.tables e below (s₁.setTop (mkF m 37 #[.val (.ref o1), .val (.ref o2), .val (.ref o3), .val (.int 1), .val (.int 4), .val (.int p4)] [(.int 0)])) _
      exact retN X0 hx (t := .boolean) hret (by simp) (hb hby d3_37) hr
    ·
      show Q45 Z o1 o2 o3 p4 p6 p7 p8 p9 p11 p12 p13 p14 p16 p17 p18 p19 kc5 kc10 kc15 h0 n0 _ s₁.heap _
      rw [e0]
      exact (Or.inr (Or.inr (Or.inr ⟨hc3, rfl, N0, rfl⟩)))
theorem ef46 (m : MethodId) (x0 : Addr) (x1 : Addr) (x2 : Addr) (x3 : Int32) (x4 : Int32) (x5 : Int32) : entryFrame m #[(.ref x0), (.ref x1), (.ref x2), (.int x3), (.int x4), (.int x5)] 6 = mkF m 0 #[.val (.ref x0), .val (.ref x1), .val (.ref x2), .val (.int x3), .val (.int x4), .val (.int x5)] [] := by first | (simp [entryFrame, mkF, argsToLocals, Value.category]; done) | rfl
def Q46 (Z : State) (o1 : Addr) (o2 : Addr) (o3 : Addr) (p4 : Int32) (p6 : Int32) (p7 : Int32) (p8 : Int32) (p9 : Int32) (p11 : Int32) (p12 : Int32) (p13 : Int32) (p14 : Int32) (p16 : Int32) (p17 : Int32) (p18 : Int32) (p19 : Int32) (kc5 : ClassId) (kc10 : ClassId) (kc15 : ClassId) (h0 : Heap) (n0 : Nat) (v : Option Value) (h : Heap) (L : List Loc) : Prop :=
  ((p8 = p4) ∧ (p13 = p4) ∧ (p18 = p4) ∧ v = some (.int 1) ∧ Fr n0 L ∧ h = h0)
  ∨ ((p8 = p4) ∧ (p13 = p4) ∧ (¬ (p18 = p4)) ∧ v = some (.int 0) ∧ Fr n0 L ∧ h = h0)
  ∨ ((p8 = p4) ∧ (¬ (p13 = p4)) ∧ v = some (.int 0) ∧ Fr n0 L ∧ h = h0)
  ∨ ((¬ (p8 = p4)) ∧ v = some (.int 0) ∧ Fr n0 L ∧ h = h0)
set_option maxRecDepth 65536 in
set_option maxHeartbeats 40000000 in
theorem rm46 (l : Launch) (Z : State) (a0 : Array Value) (hw : ∀ d ∈ tables_1, d.before a0 Z = true) (ws : List Jvm.Cond) (o1 : Addr) (o2 : Addr) (o3 : Addr) (p4 : Int32) (p6 : Int32) (p7 : Int32) (p8 : Int32) (p9 : Int32) (p11 : Int32) (p12 : Int32) (p13 : Int32) (p14 : Int32) (p16 : Int32) (p17 : Int32) (p18 : Int32) (p19 : Int32) (kc5 : ClassId) (kc10 : ClassId) (kc15 : ClassId) (h0 : Heap) (n0 : Nat) (O0 : Old Z n0 h0) (g_o1 : n0 ≤ o1) (g_o2 : n0 ≤ o2) (g_o3 : n0 ≤ o3) (bd_p4 : 0 ≤ p4.toInt ∧ p4.toInt ≤ 1) (bd_p6 : 0 ≤ p6.toInt ∧ p6.toInt ≤ 1) (bd_p7 : 0 ≤ p7.toInt ∧ p7.toInt ≤ 1) (bd_p8 : 0 ≤ p8.toInt ∧ p8.toInt ≤ 1) (bd_p9 : 0 ≤ p9.toInt ∧ p9.toInt ≤ 1) (bd_p11 : 0 ≤ p11.toInt ∧ p11.toInt ≤ 1) (bd_p12 : 0 ≤ p12.toInt ∧ p12.toInt ≤ 1) (bd_p13 : 0 ≤ p13.toInt ∧ p13.toInt ≤ 1) (bd_p14 : 0 ≤ p14.toInt ∧ p14.toInt ≤ 1) (bd_p16 : 0 ≤ p16.toInt ∧ p16.toInt ≤ 1) (bd_p17 : 0 ≤ p17.toInt ∧ p17.toInt ≤ 1) (bd_p18 : 0 ≤ p18.toInt ∧ p18.toInt ≤ 1) (bd_p19 : 0 ≤ p19.toInt ∧ p19.toInt ≤ 1) (P0 : Arv Z h0 o1 kc5 .boolean (4 : Int32) [(.int p6), (.int p7), (.int p8), (.int p9)] (.int 0)) (P2 : Arv Z h0 o2 kc10 .boolean (4 : Int32) [(.int p11), (.int p12), (.int p13), (.int p14)] (.int 0)) (P4 : Arv Z h0 o3 kc15 .boolean (4 : Int32) [(.int p16), (.int p17), (.int p18), (.int p19)] (.int 0)) :
    MetFree l yn3 (head1 (Jvm.Cond.code yn3 method_3_code 6 (some .boolean) :: ws) ({ frames := 0, cells := 0, slots := 0, locals := 0 } : Room)) (fun a U => a = #[(.ref o1), (.ref o2), (.ref o3), (.int 2), (.int 4), (.int p4)] ∧ Z.Warmed39 U.vm ∧ U.heap = h0) (fun _ _ _ _ _ => True) (fun _ U o U' => ∃ v L, o = .returned v ∧ Q46 Z o1 o2 o3 p4 p6 p7 p8 p9 p11 p12 p13 p14 p16 p17 p18 p19 kc5 kc10 kc15 h0 n0 v U'.heap L ∧ FrameEnd U o U' L ({ frames := 0, cells := 0, slots := 0, locals := 0 } : Room).cells ({ frames := 0, cells := 0, slots := 0, locals := 0 } : Room).slots) := by
  refine MetFree.of_bodySF (plainFor_of_name pn2) hisR ?_
  intro p e s m args below meth c s₁ Bd hml0 hP hK
  obtain ⟨rfl, hZ, hh⟩ := hP
  have hx := Bd.exec
  have hby := Bd.bytes
  have hml : c.maxLocals = 6 := hml0
  have hown : s.vm.findClass "com/example/castless/castless/PrimitiveArraysBoxPinLaw" = some m.cls := findClass_of_methodNamed Bd.named
  have hnm := (name_of_methodNamed Bd.named Bd.method).1
  have hret := Bd.returns
  have hlk : meth.locks = false := BodyLoose.notSynchronized Bd
  have X0 : Stand p l e ({ frames := 0, cells := 0, slots := 0, locals := 0 } : Room) s m #[(.ref o1), (.ref o2), (.ref o3), (.int 2), (.int 4), (.int p4)] below meth c s₁ [] 0 0 := Stand.of_body Bd
  have e0 : s₁.heap = h0 := by rw [← hh, Bd.state]; rfl
  have N0 := Fr.nil n0
  have pre0 : ∀ t, Steps p.tables e below (s₁.setTop (mkF m 0 #[.val (.ref o1), .val (.ref o2), .val (.ref o3), .val (.int 2), .val (.int 4), .val (.int p4)] [])) t → Steps p.tables e below (s₁.setTop (entryFrame m #[(.ref o1), (.ref o2), (.ref o3), (.int 2), (.int 4), (.int p4)] 6)) t := fun t k => castTop (ef46 m o1 o2 o3 (2 : Int32) (4 : Int32) p4) k
  obtain ⟨cl1, Ar1, qa1, Sa1, Na1, Ha1, Ga1⟩ := id (P0)
  have hin1 : ¬ ((2 : Int32) < 0 ∨ cl1.slots.size ≤ ((2 : Int32)).toNatClampNeg) := inb_of Sa1 ⟨by decide, by decide⟩
  have hat1 : cl1.slots[((2 : Int32)).toNatClampNeg]? = some (.int p8) := Has.at Ha1 hin1 rfl
  have pre2 : ∀ t, Steps p.tables e below (s₁.setTop (mkF m 13 #[.val (.ref o1), .val (.ref o2), .val (.ref o3), .val (.int 2), .val (.int 4), .val (.int p4)] [(.int p4), (.int p8)])) t → Steps p.tables e below (s₁.setTop (entryFrame m #[(.ref o1), (.ref o2), (.ref o3), (.int 2), (.int 4), (.int p4)] 6)) t := fun t k => by
    refine pre0 _ ?_
    show Steps p.tables e below (s₁.setTop (mkF m 0 #[.val (.ref o1), .val (.ref o2), .val (.ref o3), .val (.int 2), .val (.int 4), .val (.int p4)] [])) _
    refine XS.iloadN X0.here hx rfl (hb hby d3_0) rfl ?_
    refine XS.iload X0.here hx rfl (hb hby d3_1) rfl ?_
    refine XS.icmpYes X0.here hx rfl (pc0 := 3) (pc' := 8) rfl (hb hby d3_3) rfl (tlt (by decide : (2 : Int32) < (4 : Int32))).1 (by decide) (by decide) ?_
    refine XS.aloadN X0.here hx rfl (hb hby d3_8) rfl rfl ?_
    refine XS.iloadN X0.here hx rfl (hb hby d3_9) rfl ?_
    refine X0.baloadBooleans hx (j := (2 : Int32)) (v := (.int p8)) (by rw [e0]; exact Ar1.1) (State.isArrayOf_alike hZ.alike Ar1.2.1) Ar1.2.2 hin1 hat1 (g := (mkF m 10 #[.val (.ref o1), .val (.ref o2), .val (.ref o3), .val (.int 2), .val (.int 4), .val (.int p4)] [(.int 2), (.ref o1)])) rfl rfl (hb hby d3_10) _ ?_
    refine XS.iload X0.here hx rfl (hb hby d3_11) rfl ?_
    exact k
  by_cases hc3 : p8 = p4
  ·
    obtain ⟨cl4, Ar4, qa4, Sa4, Na4, Ha4, Ga4⟩ := id (P2)
    have hin4 : ¬ ((2 : Int32) < 0 ∨ cl4.slots.size ≤ ((2 : Int32)).toNatClampNeg) := inb_of Sa4 ⟨by decide, by decide⟩
    have hat4 : cl4.slots[((2 : Int32)).toNatClampNeg]? = some (.int p13) := Has.at Ha4 hin4 rfl
    have pre5 : ∀ t, Steps p.tables e below (s₁.setTop (mkF m 21 #[.val (.ref o1), .val (.ref o2), .val (.ref o3), .val (.int 2), .val (.int 4), .val (.int p4)] [(.int p4), (.int p13)])) t → Steps p.tables e below (s₁.setTop (entryFrame m #[(.ref o1), (.ref o2), (.ref o3), (.int 2), (.int 4), (.int p4)] 6)) t := fun t k => by
      refine pre2 _ ?_
      show Steps p.tables e below (s₁.setTop (mkF m 13 #[.val (.ref o1), .val (.ref o2), .val (.ref o3), .val (.int 2), .val (.int 4), .val (.int p4)] [(.int p4), (.int p8)])) _
      refine XS.icmpNo X0.here hx rfl (hb hby d3_13) rfl (teq hc3).2 ?_
      refine XS.aloadN X0.here hx rfl (hb hby d3_16) rfl rfl ?_
      refine XS.iloadN X0.here hx rfl (hb hby d3_17) rfl ?_
      refine X0.baloadBooleans hx (j := (2 : Int32)) (v := (.int p13)) (by rw [e0]; exact Ar4.1) (State.isArrayOf_alike hZ.alike Ar4.2.1) Ar4.2.2 hin4 hat4 (g := (mkF m 18 #[.val (.ref o1), .val (.ref o2), .val (.ref o3), .val (.int 2), .val (.int 4), .val (.int p4)] [(.int 2), (.ref o2)])) rfl rfl (hb hby d3_18) _ ?_
      refine XS.iload X0.here hx rfl (hb hby d3_19) rfl ?_
      exact k
    by_cases hc6 : p13 = p4
    ·
      obtain ⟨cl7, Ar7, qa7, Sa7, Na7, Ha7, Ga7⟩ := id (P4)
      have hin7 : ¬ ((2 : Int32) < 0 ∨ cl7.slots.size ≤ ((2 : Int32)).toNatClampNeg) := inb_of Sa7 ⟨by decide, by decide⟩
      have hat7 : cl7.slots[((2 : Int32)).toNatClampNeg]? = some (.int p18) := Has.at Ha7 hin7 rfl
      have pre8 : ∀ t, Steps p.tables e below (s₁.setTop (mkF m 29 #[.val (.ref o1), .val (.ref o2), .val (.ref o3), .val (.int 2), .val (.int 4), .val (.int p4)] [(.int p4), (.int p18)])) t → Steps p.tables e below (s₁.setTop (entryFrame m #[(.ref o1), (.ref o2), (.ref o3), (.int 2), (.int 4), (.int p4)] 6)) t := fun t k => by
        refine pre5 _ ?_
        show Steps p.tables e below (s₁.setTop (mkF m 21 #[.val (.ref o1), .val (.ref o2), .val (.ref o3), .val (.int 2), .val (.int 4), .val (.int p4)] [(.int p4), (.int p13)])) _
        refine XS.icmpNo X0.here hx rfl (hb hby d3_21) rfl (teq hc6).2 ?_
        refine XS.aloadN X0.here hx rfl (hb hby d3_24) rfl rfl ?_
        refine XS.iloadN X0.here hx rfl (hb hby d3_25) rfl ?_
        refine X0.baloadBooleans hx (j := (2 : Int32)) (v := (.int p18)) (by rw [e0]; exact Ar7.1) (State.isArrayOf_alike hZ.alike Ar7.2.1) Ar7.2.2 hin7 hat7 (g := (mkF m 26 #[.val (.ref o1), .val (.ref o2), .val (.ref o3), .val (.int 2), .val (.int 4), .val (.int p4)] [(.int 2), (.ref o3)])) rfl rfl (hb hby d3_26) _ ?_
        refine XS.iload X0.here hx rfl (hb hby d3_27) rfl ?_
        exact k
      by_cases hc9 : p18 = p4
      ·
        obtain ⟨fs, hr, hrun, hended, hW, hsame⟩ := X0.leave (v := some (.int 1)) (fun h => by rw [hret] at h; cases h)
        refine ⟨_, _, pre8 _ ?_, hrun, hended, _, _, rfl, ?_, ⟨_, rfl⟩, hW, hsame.mono (by decide) (by decide)⟩
        ·
          show Steps p.tables e below (s₁.setTop (mkF m 29 #[.val (.ref o1), .val (.ref o2), .val (.ref o3), .val (.int 2), .val (.int 4), .val (.int p4)] [(.int p4), (.int p18)])) _
          refine XS.icmpNo X0.here hx rfl (hb hby d3_29) rfl (teq hc9).2 ?_
          refine XS.iconst X0.here hx rfl (hb hby d3_32) ?_
          refine XS.goto X0.here hx rfl (pc0 := 33) (pc' := 37) rfl (hb hby d3_33) (by decide) (by decide) ?_
          show Steps p.tables e below (s₁.setTop (mkF m 37 #[.val (.ref o1), .val (.ref o2), .val (.ref o3), .val (.int 2), .val (.int 4), .val (.int p4)] [(.int 1)])) _
          exact retN X0 hx (t := .boolean) hret (by simp) (hb hby d3_37) hr
        ·
          show Q46 Z o1 o2 o3 p4 p6 p7 p8 p9 p11 p12 p13 p14 p16 p17 p18 p19 kc5 kc10 kc15 h0 n0 _ s₁.heap _
          rw [e0]
          exact (Or.inl ⟨hc3, hc6, hc9, rfl, N0, rfl⟩)
      ·
        obtain ⟨fs, hr, hrun, hended, hW, hsame⟩ := X0.leave (v := some (.int 0)) (fun h => by rw [hret] at h; cases h)
        refine ⟨_, _, pre8 _ ?_, hrun, hended, _, _, rfl, ?_, ⟨_, rfl⟩, hW, hsame.mono (by decide) (by decide)⟩
        ·
          show Steps p.tables e below (s₁.setTop (mkF m 29 #[.val (.ref o1), .val (.ref o2), .val (.ref o3), .val (.int 2), .val (.int 4), .val (.int p4)] [(.int p4), (.int p18)])) _
          refine XS.icmpYes X0.here hx rfl (pc0 := 29) (pc' := 36) rfl (hb hby d3_29) rfl (feq hc9).2 (by decide) (by decide) ?_
          refine XS.iconst X0.here hx rfl (hb hby d3_36) ?_
          show Steps p.tables e below (s₁.setTop (mkF m 37 #[.val (.ref o1), .val (.ref o2), .val (.ref o3), .val (.int 2), .val (.int 4), .val (.int p4)] [(.int 0)])) _
          exact retN X0 hx (t := .boolean) hret (by simp) (hb hby d3_37) hr
        ·
          show Q46 Z o1 o2 o3 p4 p6 p7 p8 p9 p11 p12 p13 p14 p16 p17 p18 p19 kc5 kc10 kc15 h0 n0 _ s₁.heap _
          rw [e0]
          exact (Or.inr (Or.inl ⟨hc3, hc6, hc9, rfl, N0, rfl⟩))
    ·
      obtain ⟨fs, hr, hrun, hended, hW, hsame⟩ := X0.leave (v := some (.int 0)) (fun h => by rw [hret] at h; cases h)
      refine ⟨_, _, pre5 _ ?_, hrun, hended, _, _, rfl, ?_, ⟨_, rfl⟩, hW, hsame.mono (by decide) (by decide)⟩
      ·
        show Steps p.tables e below (s₁.setTop (mkF m 21 #[.val (.ref o1), .val (.ref o2), .val (.ref o3), .val (.int 2), .val (.int 4), .val (.int p4)] [(.int p4), (.int p13)])) _
        refine XS.icmpYes X0.here hx rfl (pc0 := 21) (pc' := 36) rfl (hb hby d3_21) rfl (feq hc6).2 (by decide) (by decide) ?_
        refine XS.iconst X0.here hx rfl (hb hby d3_36) ?_
        show Steps p.tables e below (s₁.setTop (mkF m 37 #[.val (.ref o1), .val (.ref o2), .val (.ref o3), .val (.int 2), .val (.int 4), .val (.int p4)] [(.int 0)])) _
        exact retN X0 hx (t := .boolean) hret (by simp) (hb hby d3_37) hr
      ·
        show Q46 Z o1 o2 o3 p4 p6 p7 p8 p9 p11 p12 p13 p14 p16 p17 p18 p19 kc5 kc10 kc15 h0 n0 _ s₁.heap _
        rw [e0]
        exact (Or.inr (Or.inr (Or.inl ⟨hc3, hc6, rfl, N0, rfl⟩)))
  ·
    obtain ⟨fs, hr, hrun, hended, hW, hsame⟩ := X0.leave (v := some (.int 0)) (fun h => by rw [hret] at h; cases h)
    refine ⟨_, _, pre2 _ ?_, hrun, hended, _, _, rfl, ?_, ⟨_, rfl⟩, hW, hsame.mono (by decide) (by decide)⟩
    ·
      show Steps p.tables e below (s₁.setTop (mkF m 13 #[.val (.ref o1), .val (.ref o2), .val (.ref o3), .val (.int 2), .val (.int 4), .val (.int p4)] [(.int p4), (.int p8)])) _
      refine XS.icmpYes X0.here hx rfl (pc0 := 13) (pc' := 36) rfl (hb hby d3_13) rfl (feq hc3).2 (by decide) (by decide) ?_
      refine XS.iconst X0.here hx rfl (hb hby d3_36) ?_
      show Steps p.tables e below (s₁.setTop (mkF m 37 #[.val (.ref o1), .val (.ref o2), .val (.ref o3), .val (.int 2), .val (.int 4), .val (.int p4)] [(.int 0)])) _
      exact retN X0 hx (t := .boolean) hret (by simp) (hb hby d3_37) hr
    ·
      show Q46 Z o1 o2 o3 p4 p6 p7 p8 p9 p11 p12 p13 p14 p16 p17 p18 p19 kc5 kc10 kc15 h0 n0 _ s₁.heap _
      rw [e0]
      exact (Or.inr (Or.inr (Or.inr ⟨hc3, rfl, N0, rfl⟩)))
theorem ef47 (m : MethodId) (x0 : Addr) (x1 : Addr) (x2 : Addr) (x3 : Int32) (x4 : Int32) (x5 : Int32) : entryFrame m #[(.ref x0), (.ref x1), (.ref x2), (.int x3), (.int x4), (.int x5)] 6 = mkF m 0 #[.val (.ref x0), .val (.ref x1), .val (.ref x2), .val (.int x3), .val (.int x4), .val (.int x5)] [] := by first | (simp [entryFrame, mkF, argsToLocals, Value.category]; done) | rfl
def Q47 (Z : State) (o1 : Addr) (o2 : Addr) (o3 : Addr) (p4 : Int32) (p6 : Int32) (p7 : Int32) (p8 : Int32) (p9 : Int32) (p11 : Int32) (p12 : Int32) (p13 : Int32) (p14 : Int32) (p16 : Int32) (p17 : Int32) (p18 : Int32) (p19 : Int32) (kc5 : ClassId) (kc10 : ClassId) (kc15 : ClassId) (h0 : Heap) (n0 : Nat) (v : Option Value) (h : Heap) (L : List Loc) : Prop :=
  ((p9 = p4) ∧ (p14 = p4) ∧ (p19 = p4) ∧ v = some (.int 1) ∧ Fr n0 L ∧ h = h0)
  ∨ ((p9 = p4) ∧ (p14 = p4) ∧ (¬ (p19 = p4)) ∧ v = some (.int 0) ∧ Fr n0 L ∧ h = h0)
  ∨ ((p9 = p4) ∧ (¬ (p14 = p4)) ∧ v = some (.int 0) ∧ Fr n0 L ∧ h = h0)
  ∨ ((¬ (p9 = p4)) ∧ v = some (.int 0) ∧ Fr n0 L ∧ h = h0)
set_option maxRecDepth 65536 in
set_option maxHeartbeats 40000000 in
theorem rm47 (l : Launch) (Z : State) (a0 : Array Value) (hw : ∀ d ∈ tables_1, d.before a0 Z = true) (ws : List Jvm.Cond) (o1 : Addr) (o2 : Addr) (o3 : Addr) (p4 : Int32) (p6 : Int32) (p7 : Int32) (p8 : Int32) (p9 : Int32) (p11 : Int32) (p12 : Int32) (p13 : Int32) (p14 : Int32) (p16 : Int32) (p17 : Int32) (p18 : Int32) (p19 : Int32) (kc5 : ClassId) (kc10 : ClassId) (kc15 : ClassId) (h0 : Heap) (n0 : Nat) (O0 : Old Z n0 h0) (g_o1 : n0 ≤ o1) (g_o2 : n0 ≤ o2) (g_o3 : n0 ≤ o3) (bd_p4 : 0 ≤ p4.toInt ∧ p4.toInt ≤ 1) (bd_p6 : 0 ≤ p6.toInt ∧ p6.toInt ≤ 1) (bd_p7 : 0 ≤ p7.toInt ∧ p7.toInt ≤ 1) (bd_p8 : 0 ≤ p8.toInt ∧ p8.toInt ≤ 1) (bd_p9 : 0 ≤ p9.toInt ∧ p9.toInt ≤ 1) (bd_p11 : 0 ≤ p11.toInt ∧ p11.toInt ≤ 1) (bd_p12 : 0 ≤ p12.toInt ∧ p12.toInt ≤ 1) (bd_p13 : 0 ≤ p13.toInt ∧ p13.toInt ≤ 1) (bd_p14 : 0 ≤ p14.toInt ∧ p14.toInt ≤ 1) (bd_p16 : 0 ≤ p16.toInt ∧ p16.toInt ≤ 1) (bd_p17 : 0 ≤ p17.toInt ∧ p17.toInt ≤ 1) (bd_p18 : 0 ≤ p18.toInt ∧ p18.toInt ≤ 1) (bd_p19 : 0 ≤ p19.toInt ∧ p19.toInt ≤ 1) (P0 : Arv Z h0 o1 kc5 .boolean (4 : Int32) [(.int p6), (.int p7), (.int p8), (.int p9)] (.int 0)) (P2 : Arv Z h0 o2 kc10 .boolean (4 : Int32) [(.int p11), (.int p12), (.int p13), (.int p14)] (.int 0)) (P4 : Arv Z h0 o3 kc15 .boolean (4 : Int32) [(.int p16), (.int p17), (.int p18), (.int p19)] (.int 0)) :
    MetFree l yn3 (head1 (Jvm.Cond.code yn3 method_3_code 6 (some .boolean) :: ws) ({ frames := 0, cells := 0, slots := 0, locals := 0 } : Room)) (fun a U => a = #[(.ref o1), (.ref o2), (.ref o3), (.int 3), (.int 4), (.int p4)] ∧ Z.Warmed39 U.vm ∧ U.heap = h0) (fun _ _ _ _ _ => True) (fun _ U o U' => ∃ v L, o = .returned v ∧ Q47 Z o1 o2 o3 p4 p6 p7 p8 p9 p11 p12 p13 p14 p16 p17 p18 p19 kc5 kc10 kc15 h0 n0 v U'.heap L ∧ FrameEnd U o U' L ({ frames := 0, cells := 0, slots := 0, locals := 0 } : Room).cells ({ frames := 0, cells := 0, slots := 0, locals := 0 } : Room).slots) := by
  refine MetFree.of_bodySF (plainFor_of_name pn2) hisR ?_
  intro p e s m args below meth c s₁ Bd hml0 hP hK
  obtain ⟨rfl, hZ, hh⟩ := hP
  have hx := Bd.exec
  have hby := Bd.bytes
  have hml : c.maxLocals = 6 := hml0
  have hown : s.vm.findClass "com/example/castless/castless/PrimitiveArraysBoxPinLaw" = some m.cls := findClass_of_methodNamed Bd.named
  have hnm := (name_of_methodNamed Bd.named Bd.method).1
  have hret := Bd.returns
  have hlk : meth.locks = false := BodyLoose.notSynchronized Bd
  have X0 : Stand p l e ({ frames := 0, cells := 0, slots := 0, locals := 0 } : Room) s m #[(.ref o1), (.ref o2), (.ref o3), (.int 3), (.int 4), (.int p4)] below meth c s₁ [] 0 0 := Stand.of_body Bd
  have e0 : s₁.heap = h0 := by rw [← hh, Bd.state]; rfl
  have N0 := Fr.nil n0
  have pre0 : ∀ t, Steps p.tables e below (s₁.setTop (mkF m 0 #[.val (.ref o1), .val (.ref o2), .val (.ref o3), .val (.int 3), .val (.int 4), .val (.int p4)] [])) t → Steps p.tables e below (s₁.setTop (entryFrame m #[(.ref o1), (.ref o2), (.ref o3), (.int 3), (.int 4), (.int p4)] 6)) t := fun t k => castTop (ef47 m o1 o2 o3 (3 : Int32) (4 : Int32) p4) k
  obtain ⟨cl1, Ar1, qa1, Sa1, Na1, Ha1, Ga1⟩ := id (P0)
  have hin1 : ¬ ((3 : Int32) < 0 ∨ cl1.slots.size ≤ ((3 : Int32)).toNatClampNeg) := inb_of Sa1 ⟨by decide, by decide⟩
  have hat1 : cl1.slots[((3 : Int32)).toNatClampNeg]? = some (.int p9) := Has.at Ha1 hin1 rfl
  have pre2 : ∀ t, Steps p.tables e below (s₁.setTop (mkF m 13 #[.val (.ref o1), .val (.ref o2), .val (.ref o3), .val (.int 3), .val (.int 4), .val (.int p4)] [(.int p4), (.int p9)])) t → Steps p.tables e below (s₁.setTop (entryFrame m #[(.ref o1), (.ref o2), (.ref o3), (.int 3), (.int 4), (.int p4)] 6)) t := fun t k => by
    refine pre0 _ ?_
    show Steps p.tables e below (s₁.setTop (mkF m 0 #[.val (.ref o1), .val (.ref o2), .val (.ref o3), .val (.int 3), .val (.int 4), .val (.int p4)] [])) _
    refine XS.iloadN X0.here hx rfl (hb hby d3_0) rfl ?_
    refine XS.iload X0.here hx rfl (hb hby d3_1) rfl ?_
    refine XS.icmpYes X0.here hx rfl (pc0 := 3) (pc' := 8) rfl (hb hby d3_3) rfl (tlt (by decide : (3 : Int32) < (4 : Int32))).1 (by decide) (by decide) ?_
    refine XS.aloadN X0.here hx rfl (hb hby d3_8) rfl rfl ?_
    refine XS.iloadN X0.here hx rfl (hb hby d3_9) rfl ?_
    refine X0.baloadBooleans hx (j := (3 : Int32)) (v := (.int p9)) (by rw [e0]; exact Ar1.1) (State.isArrayOf_alike hZ.alike Ar1.2.1) Ar1.2.2 hin1 hat1 (g := (mkF m 10 #[.val (.ref o1), .val (.ref o2), .val (.ref o3), .val (.int 3), .val (.int 4), .val (.int p4)] [(.int 3), (.ref o1)])) rfl rfl (hb hby d3_10) _ ?_
    refine XS.iload X0.here hx rfl (hb hby d3_11) rfl ?_
    exact k
  by_cases hc3 : p9 = p4
  ·
    obtain ⟨cl4, Ar4, qa4, Sa4, Na4, Ha4, Ga4⟩ := id (P2)
    have hin4 : ¬ ((3 : Int32) < 0 ∨ cl4.slots.size ≤ ((3 : Int32)).toNatClampNeg) := inb_of Sa4 ⟨by decide, by decide⟩
    have hat4 : cl4.slots[((3 : Int32)).toNatClampNeg]? = some (.int p14) := Has.at Ha4 hin4 rfl
    have pre5 : ∀ t, Steps p.tables e below (s₁.setTop (mkF m 21 #[.val (.ref o1), .val (.ref o2), .val (.ref o3), .val (.int 3), .val (.int 4), .val (.int p4)] [(.int p4), (.int p14)])) t → Steps p.tables e below (s₁.setTop (entryFrame m #[(.ref o1), (.ref o2), (.ref o3), (.int 3), (.int 4), (.int p4)] 6)) t := fun t k => by
      refine pre2 _ ?_
      show Steps p.tables e below (s₁.setTop (mkF m 13 #[.val (.ref o1), .val (.ref o2), .val (.ref o3), .val (.int 3), .val (.int 4), .val (.int p4)] [(.int p4), (.int p9)])) _
      refine XS.icmpNo X0.here hx rfl (hb hby d3_13) rfl (teq hc3).2 ?_
      refine XS.aloadN X0.here hx rfl (hb hby d3_16) rfl rfl ?_
      refine XS.iloadN X0.here hx rfl (hb hby d3_17) rfl ?_
      refine X0.baloadBooleans hx (j := (3 : Int32)) (v := (.int p14)) (by rw [e0]; exact Ar4.1) (State.isArrayOf_alike hZ.alike Ar4.2.1) Ar4.2.2 hin4 hat4 (g := (mkF m 18 #[.val (.ref o1), .val (.ref o2), .val (.ref o3), .val (.int 3), .val (.int 4), .val (.int p4)] [(.int 3), (.ref o2)])) rfl rfl (hb hby d3_18) _ ?_
      refine XS.iload X0.here hx rfl (hb hby d3_19) rfl ?_
      exact k
    by_cases hc6 : p14 = p4
    ·
      obtain ⟨cl7, Ar7, qa7, Sa7, Na7, Ha7, Ga7⟩ := id (P4)
      have hin7 : ¬ ((3 : Int32) < 0 ∨ cl7.slots.size ≤ ((3 : Int32)).toNatClampNeg) := inb_of Sa7 ⟨by decide, by decide⟩
      have hat7 : cl7.slots[((3 : Int32)).toNatClampNeg]? = some (.int p19) := Has.at Ha7 hin7 rfl
      have pre8 : ∀ t, Steps p.tables e below (s₁.setTop (mkF m 29 #[.val (.ref o1), .val (.ref o2), .val (.ref o3), .val (.int 3), .val (.int 4), .val (.int p4)] [(.int p4), (.int p19)])) t → Steps p.tables e below (s₁.setTop (entryFrame m #[(.ref o1), (.ref o2), (.ref o3), (.int 3), (.int 4), (.int p4)] 6)) t := fun t k => by
        refine pre5 _ ?_
        show Steps p.tables e below (s₁.setTop (mkF m 21 #[.val (.ref o1), .val (.ref o2), .val (.ref o3), .val (.int 3), .val (.int 4), .val (.int p4)] [(.int p4), (.int p14)])) _
        refine XS.icmpNo X0.here hx rfl (hb hby d3_21) rfl (teq hc6).2 ?_
        refine XS.aloadN X0.here hx rfl (hb hby d3_24) rfl rfl ?_
        refine XS.iloadN X0.here hx rfl (hb hby d3_25) rfl ?_
        refine X0.baloadBooleans hx (j := (3 : Int32)) (v := (.int p19)) (by rw [e0]; exact Ar7.1) (State.isArrayOf_alike hZ.alike Ar7.2.1) Ar7.2.2 hin7 hat7 (g := (mkF m 26 #[.val (.ref o1), .val (.ref o2), .val (.ref o3), .val (.int 3), .val (.int 4), .val (.int p4)] [(.int 3), (.ref o3)])) rfl rfl (hb hby d3_26) _ ?_
        refine XS.iload X0.here hx rfl (hb hby d3_27) rfl ?_
        exact k
      by_cases hc9 : p19 = p4
      ·
        obtain ⟨fs, hr, hrun, hended, hW, hsame⟩ := X0.leave (v := some (.int 1)) (fun h => by rw [hret] at h; cases h)
        refine ⟨_, _, pre8 _ ?_, hrun, hended, _, _, rfl, ?_, ⟨_, rfl⟩, hW, hsame.mono (by decide) (by decide)⟩
        ·
          show Steps p.tables e below (s₁.setTop (mkF m 29 #[.val (.ref o1), .val (.ref o2), .val (.ref o3), .val (.int 3), .val (.int 4), .val (.int p4)] [(.int p4), (.int p19)])) _
          refine XS.icmpNo X0.here hx rfl (hb hby d3_29) rfl (teq hc9).2 ?_
          refine XS.iconst X0.here hx rfl (hb hby d3_32) ?_
          refine XS.goto X0.here hx rfl (pc0 := 33) (pc' := 37) rfl (hb hby d3_33) (by decide) (by decide) ?_
          show Steps p.tables e below (s₁.setTop (mkF m 37 #[.val (.ref o1), .val (.ref o2), .val (.ref o3), .val (.int 3), .val (.int 4), .val (.int p4)] [(.int 1)])) _
          exact retN X0 hx (t := .boolean) hret (by simp) (hb hby d3_37) hr
        ·
          show Q47 Z o1 o2 o3 p4 p6 p7 p8 p9 p11 p12 p13 p14 p16 p17 p18 p19 kc5 kc10 kc15 h0 n0 _ s₁.heap _
          rw [e0]
          exact (Or.inl ⟨hc3, hc6, hc9, rfl, N0, rfl⟩)
      ·
        obtain ⟨fs, hr, hrun, hended, hW, hsame⟩ := X0.leave (v := some (.int 0)) (fun h => by rw [hret] at h; cases h)
        refine ⟨_, _, pre8 _ ?_, hrun, hended, _, _, rfl, ?_, ⟨_, rfl⟩, hW, hsame.mono (by decide) (by decide)⟩
        ·
          show Steps p.tables e below (s₁.setTop (mkF m 29 #[.val (.ref o1), .val (.ref o2), .val (.ref o3), .val (.int 3), .val (.int 4), .val (.int p4)] [(.int p4), (.int p19)])) _
          refine XS.icmpYes X0.here hx rfl (pc0 := 29) (pc' := 36) rfl (hb hby d3_29) rfl (feq hc9).2 (by decide) (by decide) ?_
          refine XS.iconst X0.here hx rfl (hb hby d3_36) ?_
          show Steps p.tables e below (s₁.setTop (mkF m 37 #[.val (.ref o1), .val (.ref o2), .val (.ref o3), .val (.int 3), .val (.int 4), .val (.int p4)] [(.int 0)])) _
          exact retN X0 hx (t := .boolean) hret (by simp) (hb hby d3_37) hr
        ·
          show Q47 Z o1 o2 o3 p4 p6 p7 p8 p9 p11 p12 p13 p14 p16 p17 p18 p19 kc5 kc10 kc15 h0 n0 _ s₁.heap _
          rw [e0]
          exact (Or.inr (Or.inl ⟨hc3, hc6, hc9, rfl, N0, rfl⟩))
    ·
      obtain ⟨fs, hr, hrun, hended, hW, hsame⟩ := X0.leave (v := some (.int 0)) (fun h => by rw [hret] at h; cases h)
      refine ⟨_, _, pre5 _ ?_, hrun, hended, _, _, rfl, ?_, ⟨_, rfl⟩, hW, hsame.mono (by decide) (by decide)⟩
      ·
        show Steps p.tables e below (s₁.setTop (mkF m 21 #[.val (.ref o1), .val (.ref o2), .val (.ref o3), .val (.int 3), .val (.int 4), .val (.int p4)] [(.int p4), (.int p14)])) _
        refine XS.icmpYes X0.here hx rfl (pc0 := 21) (pc' := 36) rfl (hb hby d3_21) rfl (feq hc6).2 (by decide) (by decide) ?_
        refine XS.iconst X0.here hx rfl (hb hby d3_36) ?_
        show Steps p.tables e below (s₁.setTop (mkF m 37 #[.val (.ref o1), .val (.ref o2), .val (.ref o3), .val (.int 3), .val (.int 4), .val (.int p4)] [(.int 0)])) _
        exact retN X0 hx (t := .boolean) hret (by simp) (hb hby d3_37) hr
      ·
        show Q47 Z o1 o2 o3 p4 p6 p7 p8 p9 p11 p12 p13 p14 p16 p17 p18 p19 kc5 kc10 kc15 h0 n0 _ s₁.heap _
        rw [e0]
        exact (Or.inr (Or.inr (Or.inl ⟨hc3, hc6, rfl, N0, rfl⟩)))
  ·
    obtain ⟨fs, hr, hrun, hended, hW, hsame⟩ := X0.leave (v := some (.int 0)) (fun h => by rw [hret] at h; cases h)
    refine ⟨_, _, pre2 _ ?_, hrun, hended, _, _, rfl, ?_, ⟨_, rfl⟩, hW, hsame.mono (by decide) (by decide)⟩
    ·
      show Steps p.tables e below (s₁.setTop (mkF m 13 #[.val (.ref o1), .val (.ref o2), .val (.ref o3), .val (.int 3), .val (.int 4), .val (.int p4)] [(.int p4), (.int p9)])) _
      refine XS.icmpYes X0.here hx rfl (pc0 := 13) (pc' := 36) rfl (hb hby d3_13) rfl (feq hc3).2 (by decide) (by decide) ?_
      refine XS.iconst X0.here hx rfl (hb hby d3_36) ?_
      show Steps p.tables e below (s₁.setTop (mkF m 37 #[.val (.ref o1), .val (.ref o2), .val (.ref o3), .val (.int 3), .val (.int 4), .val (.int p4)] [(.int 0)])) _
      exact retN X0 hx (t := .boolean) hret (by simp) (hb hby d3_37) hr
    ·
      show Q47 Z o1 o2 o3 p4 p6 p7 p8 p9 p11 p12 p13 p14 p16 p17 p18 p19 kc5 kc10 kc15 h0 n0 _ s₁.heap _
      rw [e0]
      exact (Or.inr (Or.inr (Or.inr ⟨hc3, rfl, N0, rfl⟩)))
theorem ef0 (m : MethodId) (x0 : Int32) (x1 : Int32) : entryFrame m #[(.int x0), (.int x1)] maxLocals = mkF m 0 #[.val (.int x0), .val (.int x1), .unset, .unset, .unset, .unset, .unset, .unset, .unset, .unset, .unset] [] := by first | (simp [entryFrame, mkF, argsToLocals, Value.category, maxLocals]; done) | rfl
set_option maxRecDepth 65536 in
set_option maxHeartbeats 40000000 in
theorem rm0 (l : Launch) (Z : State) (a0 : Array Value) (hw : ∀ d ∈ tables_1, d.before a0 Z = true) (w1 : Addr) (w2 : Addr) (G : GW Z w1 w2) (ws : List Jvm.Cond) (p1 : Int32) (p2 : Int32) (h0 : Heap) (n0 : Nat) (O0 : Old Z n0 h0) :
    MetFree l x (head1 (Jvm.Cond.code x code maxLocals ret :: ws) room_1) (fun a U => a = #[(.int p1), (.int p2)] ∧ Z.Warmed39 U.vm ∧ U.heap = h0) (fun _ _ _ _ _ => True) (fun _ U o U' => ∃ v L, o = .returned v ∧ Q0 n0 v U'.heap L ∧ ReturnedEndW U o U' L 24 1152) := by
  obtain ⟨S_w1, E_w1, S_w2, E_w2, F_w1_value, F_w2_value⟩ := id G
  refine MetFree.of_bodySF (plainFor_of_name pn2) hisR ?_
  intro p e s m args below meth c s₁ Bd hml0 hP hK
  obtain ⟨rfl, hZ, hh⟩ := hP
  have hx := Bd.exec
  have hby := Bd.bytes
  have hml : c.maxLocals = 11 := hml0
  have hown : s.vm.findClass "com/example/castless/castless/PrimitiveArraysBoxPinLaw" = some m.cls := findClass_of_methodNamed Bd.named
  have hnm := (name_of_methodNamed Bd.named Bd.method).1
  have hret := Bd.returns
  have hlk : meth.locks = false := BodyLoose.notSynchronized Bd
  have X0 : Stand p l e room_1 s m #[(.int p1), (.int p2)] below meth c s₁ [] 0 0 := Stand.of_body Bd
  have e0 : s₁.heap = h0 := by rw [← hh, Bd.state]; rfl
  have N0 := Fr.nil n0
  have pre0 : ∀ t, Steps p.tables e below (s₁.setTop (mkF m 0 #[.val (.int p1), .val (.int p2), .unset, .unset, .unset, .unset, .unset, .unset, .unset, .unset, .unset] [])) t → Steps p.tables e below (s₁.setTop (entryFrame m #[(.int p1), (.int p2)] maxLocals)) t := fun t k => castTop (ef0 m p1 p2) k
  have pre1 : ∀ t, Steps p.tables e below (s₁.setTop (mkF m 10 #[.val (.int p1), .val (.int p2), .val (.int ((p2 &&& (2147483647 : Int32)) % (5 : Int32))), .unset, .unset, .unset, .unset, .unset, .unset, .unset, .unset] [(.int (p1 &&& (1 : Int32)))])) t → Steps p.tables e below (s₁.setTop (entryFrame m #[(.int p1), (.int p2)] maxLocals)) t := fun t k => by
    refine pre0 _ ?_
    show Steps p.tables e below (s₁.setTop (mkF m 0 #[.val (.int p1), .val (.int p2), .unset, .unset, .unset, .unset, .unset, .unset, .unset, .unset, .unset] [])) _
    refine XS.iloadN X0.here hx rfl (hb hby at_0) rfl ?_
    refine X0.ldcInt hx hown (mvT hZ (own_w hw 0 rfl)) (g := (mkF m 1 #[.val (.int p1), .val (.int p2), .unset, .unset, .unset, .unset, .unset, .unset, .unset, .unset, .unset] [(.int p2)])) rfl (hb hby at_1) _ ?_
    refine XS.iand X0.here hx rfl (hb hby at_3) rfl ?_
    refine XS.iconst X0.here hx rfl (hb hby at_4) ?_
    refine iremM X0 hx rfl (hb hby at_5) rfl (by decide : ¬ ((5 : Int32) = (0 : Int32))) ?_
    refine XS.istoreN X0.here hx rfl (hb hby at_6) rfl (l' := #[.val (.int p1), .val (.int p2), .val (.int ((p2 &&& (2147483647 : Int32)) % (5 : Int32))), .unset, .unset, .unset, .unset, .unset, .unset, .unset, .unset]) rfl ?_
    refine XS.iloadN X0.here hx rfl (hb hby at_7) rfl ?_
    refine XS.iconst X0.here hx rfl (hb hby at_8) ?_
    refine XS.iand X0.here hx rfl (hb hby at_9) rfl ?_
    exact k
  obtain ⟨z2, hz2⟩ : ∃ z : Int32, z = if (p1 &&& (1 : Int32)) = (0 : Int32) then (0 : Int32) else (1 : Int32) := ⟨_, rfl⟩
  have bz2 : 0 ≤ z2.toInt ∧ z2.toInt ≤ 1 := by rw [hz2]; split <;> decide
  have nz2 : nar .boolean z2 = z2 := by rw [hz2]; split <;> decide
  have pre2 : ∀ t, Steps p.tables e below (s₁.setTop (mkF m 18 #[.val (.int p1), .val (.int p2), .val (.int ((p2 &&& (2147483647 : Int32)) % (5 : Int32))), .unset, .unset, .unset, .unset, .unset, .unset, .unset, .unset] [(.int z2)])) t → Steps p.tables e below (s₁.setTop (entryFrame m #[(.int p1), (.int p2)] maxLocals)) t := fun t k => by
    by_cases hc2 : (p1 &&& (1 : Int32)) = (0 : Int32)
    ·
      rw [hz2, if_pos hc2] at k
      refine pre1 _ ?_
      show Steps p.tables e below (s₁.setTop (mkF m 10 #[.val (.int p1), .val (.int p2), .val (.int ((p2 &&& (2147483647 : Int32)) % (5 : Int32))), .unset, .unset, .unset, .unset, .unset, .unset, .unset, .unset] [(.int (p1 &&& (1 : Int32)))])) _
      refine XS.ifYes X0.here hx rfl (pc0 := 10) (pc' := 17) rfl (hb hby at_10) rfl ((if0 _ _).trans (teq hc2).1) (by decide) (by decide) ?_
      refine XS.iconst X0.here hx rfl (hb hby at_17) ?_
      exact k
    ·
      rw [hz2, if_neg hc2] at k
      refine pre1 _ ?_
      show Steps p.tables e below (s₁.setTop (mkF m 10 #[.val (.int p1), .val (.int p2), .val (.int ((p2 &&& (2147483647 : Int32)) % (5 : Int32))), .unset, .unset, .unset, .unset, .unset, .unset, .unset, .unset] [(.int (p1 &&& (1 : Int32)))])) _
      refine XS.ifNo X0.here hx rfl (hb hby at_10) rfl ((if0 _ _).trans (feq hc2).1) ?_
      refine XS.iconst X0.here hx rfl (hb hby at_13) ?_
      refine XS.goto X0.here hx rfl (pc0 := 14) (pc' := 18) rfl (hb hby at_14) (by decide) (by decide) ?_
      exact k
  have pre3 : ∀ t, Steps p.tables e below (s₁.setTop (mkF m 22 #[.val (.int p1), .val (.int p2), .val (.int ((p2 &&& (2147483647 : Int32)) % (5 : Int32))), .val (.int z2), .unset, .unset, .unset, .unset, .unset, .unset, .unset] [(.int (p1 &&& (2 : Int32)))])) t → Steps p.tables e below (s₁.setTop (entryFrame m #[(.int p1), (.int p2)] maxLocals)) t := fun t k => by
    refine pre2 _ ?_
    show Steps p.tables e below (s₁.setTop (mkF m 18 #[.val (.int p1), .val (.int p2), .val (.int ((p2 &&& (2147483647 : Int32)) % (5 : Int32))), .unset, .unset, .unset, .unset, .unset, .unset, .unset, .unset] [(.int z2)])) _
    refine XS.istoreN X0.here hx rfl (hb hby at_18) rfl (l' := #[.val (.int p1), .val (.int p2), .val (.int ((p2 &&& (2147483647 : Int32)) % (5 : Int32))), .val (.int z2), .unset, .unset, .unset, .unset, .unset, .unset, .unset]) rfl ?_
    refine XS.iloadN X0.here hx rfl (hb hby at_19) rfl ?_
    refine XS.iconst X0.here hx rfl (hb hby at_20) ?_
    refine XS.iand X0.here hx rfl (hb hby at_21) rfl ?_
    exact k
  obtain ⟨z4, hz4⟩ : ∃ z : Int32, z = if (p1 &&& (2 : Int32)) = (0 : Int32) then (0 : Int32) else (1 : Int32) := ⟨_, rfl⟩
  have bz4 : 0 ≤ z4.toInt ∧ z4.toInt ≤ 1 := by rw [hz4]; split <;> decide
  have nz4 : nar .boolean z4 = z4 := by rw [hz4]; split <;> decide
  have pre4 : ∀ t, Steps p.tables e below (s₁.setTop (mkF m 30 #[.val (.int p1), .val (.int p2), .val (.int ((p2 &&& (2147483647 : Int32)) % (5 : Int32))), .val (.int z2), .unset, .unset, .unset, .unset, .unset, .unset, .unset] [(.int z4)])) t → Steps p.tables e below (s₁.setTop (entryFrame m #[(.int p1), (.int p2)] maxLocals)) t := fun t k => by
    by_cases hc4 : (p1 &&& (2 : Int32)) = (0 : Int32)
    ·
      rw [hz4, if_pos hc4] at k
      refine pre3 _ ?_
      show Steps p.tables e below (s₁.setTop (mkF m 22 #[.val (.int p1), .val (.int p2), .val (.int ((p2 &&& (2147483647 : Int32)) % (5 : Int32))), .val (.int z2), .unset, .unset, .unset, .unset, .unset, .unset, .unset] [(.int (p1 &&& (2 : Int32)))])) _
      refine XS.ifYes X0.here hx rfl (pc0 := 22) (pc' := 29) rfl (hb hby at_22) rfl ((if0 _ _).trans (teq hc4).1) (by decide) (by decide) ?_
      refine XS.iconst X0.here hx rfl (hb hby at_29) ?_
      exact k
    ·
      rw [hz4, if_neg hc4] at k
      refine pre3 _ ?_
      show Steps p.tables e below (s₁.setTop (mkF m 22 #[.val (.int p1), .val (.int p2), .val (.int ((p2 &&& (2147483647 : Int32)) % (5 : Int32))), .val (.int z2), .unset, .unset, .unset, .unset, .unset, .unset, .unset] [(.int (p1 &&& (2 : Int32)))])) _
      refine XS.ifNo X0.here hx rfl (hb hby at_22) rfl ((if0 _ _).trans (feq hc4).1) ?_
      refine XS.iconst X0.here hx rfl (hb hby at_25) ?_
      refine XS.goto X0.here hx rfl (pc0 := 26) (pc' := 30) rfl (hb hby at_26) (by decide) (by decide) ?_
      exact k
  have pre5 : ∀ t, Steps p.tables e below (s₁.setTop (mkF m 35 #[.val (.int p1), .val (.int p2), .val (.int ((p2 &&& (2147483647 : Int32)) % (5 : Int32))), .val (.int z2), .val (.int z4), .unset, .unset, .unset, .unset, .unset, .unset] [(.int (p1 &&& (4 : Int32)))])) t → Steps p.tables e below (s₁.setTop (entryFrame m #[(.int p1), (.int p2)] maxLocals)) t := fun t k => by
    refine pre4 _ ?_
    show Steps p.tables e below (s₁.setTop (mkF m 30 #[.val (.int p1), .val (.int p2), .val (.int ((p2 &&& (2147483647 : Int32)) % (5 : Int32))), .val (.int z2), .unset, .unset, .unset, .unset, .unset, .unset, .unset] [(.int z4)])) _
    refine XS.istore X0.here hx rfl (hb hby at_30) rfl (l' := #[.val (.int p1), .val (.int p2), .val (.int ((p2 &&& (2147483647 : Int32)) % (5 : Int32))), .val (.int z2), .val (.int z4), .unset, .unset, .unset, .unset, .unset, .unset]) rfl ?_
    refine XS.iloadN X0.here hx rfl (hb hby at_32) rfl ?_
    refine XS.iconst X0.here hx rfl (hb hby at_33) ?_
    refine XS.iand X0.here hx rfl (hb hby at_34) rfl ?_
    exact k
  obtain ⟨z6, hz6⟩ : ∃ z : Int32, z = if (p1 &&& (4 : Int32)) = (0 : Int32) then (0 : Int32) else (1 : Int32) := ⟨_, rfl⟩
  have bz6 : 0 ≤ z6.toInt ∧ z6.toInt ≤ 1 := by rw [hz6]; split <;> decide
  have nz6 : nar .boolean z6 = z6 := by rw [hz6]; split <;> decide
  have pre6 : ∀ t, Steps p.tables e below (s₁.setTop (mkF m 43 #[.val (.int p1), .val (.int p2), .val (.int ((p2 &&& (2147483647 : Int32)) % (5 : Int32))), .val (.int z2), .val (.int z4), .unset, .unset, .unset, .unset, .unset, .unset] [(.int z6)])) t → Steps p.tables e below (s₁.setTop (entryFrame m #[(.int p1), (.int p2)] maxLocals)) t := fun t k => by
    by_cases hc6 : (p1 &&& (4 : Int32)) = (0 : Int32)
    ·
      rw [hz6, if_pos hc6] at k
      refine pre5 _ ?_
      show Steps p.tables e below (s₁.setTop (mkF m 35 #[.val (.int p1), .val (.int p2), .val (.int ((p2 &&& (2147483647 : Int32)) % (5 : Int32))), .val (.int z2), .val (.int z4), .unset, .unset, .unset, .unset, .unset, .unset] [(.int (p1 &&& (4 : Int32)))])) _
      refine XS.ifYes X0.here hx rfl (pc0 := 35) (pc' := 42) rfl (hb hby at_35) rfl ((if0 _ _).trans (teq hc6).1) (by decide) (by decide) ?_
      refine XS.iconst X0.here hx rfl (hb hby at_42) ?_
      exact k
    ·
      rw [hz6, if_neg hc6] at k
      refine pre5 _ ?_
      show Steps p.tables e below (s₁.setTop (mkF m 35 #[.val (.int p1), .val (.int p2), .val (.int ((p2 &&& (2147483647 : Int32)) % (5 : Int32))), .val (.int z2), .val (.int z4), .unset, .unset, .unset, .unset, .unset, .unset] [(.int (p1 &&& (4 : Int32)))])) _
      refine XS.ifNo X0.here hx rfl (hb hby at_35) rfl ((if0 _ _).trans (feq hc6).1) ?_
      refine XS.iconst X0.here hx rfl (hb hby at_38) ?_
      refine XS.goto X0.here hx rfl (pc0 := 39) (pc' := 43) rfl (hb hby at_39) (by decide) (by decide) ?_
      exact k
  have pre7 : ∀ t, Steps p.tables e below (s₁.setTop (mkF m 49 #[.val (.int p1), .val (.int p2), .val (.int ((p2 &&& (2147483647 : Int32)) % (5 : Int32))), .val (.int z2), .val (.int z4), .val (.int z6), .unset, .unset, .unset, .unset, .unset] [(.int (p1 &&& (8 : Int32)))])) t → Steps p.tables e below (s₁.setTop (entryFrame m #[(.int p1), (.int p2)] maxLocals)) t := fun t k => by
    refine pre6 _ ?_
    show Steps p.tables e below (s₁.setTop (mkF m 43 #[.val (.int p1), .val (.int p2), .val (.int ((p2 &&& (2147483647 : Int32)) % (5 : Int32))), .val (.int z2), .val (.int z4), .unset, .unset, .unset, .unset, .unset, .unset] [(.int z6)])) _
    refine XS.istore X0.here hx rfl (hb hby at_43) rfl (l' := #[.val (.int p1), .val (.int p2), .val (.int ((p2 &&& (2147483647 : Int32)) % (5 : Int32))), .val (.int z2), .val (.int z4), .val (.int z6), .unset, .unset, .unset, .unset, .unset]) rfl ?_
    refine XS.iloadN X0.here hx rfl (hb hby at_45) rfl ?_
    refine XS.bipush X0.here hx rfl (hb hby at_46) ?_
    refine XS.iand X0.here hx rfl (hb hby at_48) rfl ?_
    exact k
  obtain ⟨z8, hz8⟩ : ∃ z : Int32, z = if (p1 &&& (8 : Int32)) = (0 : Int32) then (0 : Int32) else (1 : Int32) := ⟨_, rfl⟩
  have bz8 : 0 ≤ z8.toInt ∧ z8.toInt ≤ 1 := by rw [hz8]; split <;> decide
  have nz8 : nar .boolean z8 = z8 := by rw [hz8]; split <;> decide
  have pre8 : ∀ t, Steps p.tables e below (s₁.setTop (mkF m 57 #[.val (.int p1), .val (.int p2), .val (.int ((p2 &&& (2147483647 : Int32)) % (5 : Int32))), .val (.int z2), .val (.int z4), .val (.int z6), .unset, .unset, .unset, .unset, .unset] [(.int z8)])) t → Steps p.tables e below (s₁.setTop (entryFrame m #[(.int p1), (.int p2)] maxLocals)) t := fun t k => by
    by_cases hc8 : (p1 &&& (8 : Int32)) = (0 : Int32)
    ·
      rw [hz8, if_pos hc8] at k
      refine pre7 _ ?_
      show Steps p.tables e below (s₁.setTop (mkF m 49 #[.val (.int p1), .val (.int p2), .val (.int ((p2 &&& (2147483647 : Int32)) % (5 : Int32))), .val (.int z2), .val (.int z4), .val (.int z6), .unset, .unset, .unset, .unset, .unset] [(.int (p1 &&& (8 : Int32)))])) _
      refine XS.ifYes X0.here hx rfl (pc0 := 49) (pc' := 56) rfl (hb hby at_49) rfl ((if0 _ _).trans (teq hc8).1) (by decide) (by decide) ?_
      refine XS.iconst X0.here hx rfl (hb hby at_56) ?_
      exact k
    ·
      rw [hz8, if_neg hc8] at k
      refine pre7 _ ?_
      show Steps p.tables e below (s₁.setTop (mkF m 49 #[.val (.int p1), .val (.int p2), .val (.int ((p2 &&& (2147483647 : Int32)) % (5 : Int32))), .val (.int z2), .val (.int z4), .val (.int z6), .unset, .unset, .unset, .unset, .unset] [(.int (p1 &&& (8 : Int32)))])) _
      refine XS.ifNo X0.here hx rfl (hb hby at_49) rfl ((if0 _ _).trans (feq hc8).1) ?_
      refine XS.iconst X0.here hx rfl (hb hby at_52) ?_
      refine XS.goto X0.here hx rfl (pc0 := 53) (pc' := 57) rfl (hb hby at_53) (by decide) (by decide) ?_
      exact k
  have pre9 : ∀ t, Steps p.tables e below (s₁.setTop (mkF m 60 #[.val (.int p1), .val (.int p2), .val (.int ((p2 &&& (2147483647 : Int32)) % (5 : Int32))), .val (.int z2), .val (.int z4), .val (.int z6), .val (.int z8), .unset, .unset, .unset, .unset] [(.int ((p2 &&& (2147483647 : Int32)) % (5 : Int32)))])) t → Steps p.tables e below (s₁.setTop (entryFrame m #[(.int p1), (.int p2)] maxLocals)) t := fun t k => by
    refine pre8 _ ?_
    show Steps p.tables e below (s₁.setTop (mkF m 57 #[.val (.int p1), .val (.int p2), .val (.int ((p2 &&& (2147483647 : Int32)) % (5 : Int32))), .val (.int z2), .val (.int z4), .val (.int z6), .unset, .unset, .unset, .unset, .unset] [(.int z8)])) _
    refine XS.istore X0.here hx rfl (hb hby at_57) rfl (l' := #[.val (.int p1), .val (.int p2), .val (.int ((p2 &&& (2147483647 : Int32)) % (5 : Int32))), .val (.int z2), .val (.int z4), .val (.int z6), .val (.int z8), .unset, .unset, .unset, .unset]) rfl ?_
    refine XS.iloadN X0.here hx rfl (hb hby at_59) rfl ?_
    exact k
  by_cases hc10 : ((p2 &&& (2147483647 : Int32)) % (5 : Int32)) = (0 : Int32)
  ·
    have pre11 : ∀ t, Steps p.tables e below (s₁.setTop (mkF m 60 #[.val (.int p1), .val (.int p2), .val (.int 0), .val (.int z2), .val (.int z4), .val (.int z6), .val (.int z8), .unset, .unset, .unset, .unset] [(.int 0)])) t → Steps p.tables e below (s₁.setTop (entryFrame m #[(.int p1), (.int p2)] maxLocals)) t := fun t k => pre9 t (by rw [hc10]; exact k)
    obtain ⟨T12, h12, k12, X12, e12, E12, A12, EX12, st12⟩ := newPE X0 hx hZ (own_w hw 1 rfl) e0 (g := (mkF m 60 #[.val (.int p1), .val (.int p2), .val (.int 0), .val (.int z2), .val (.int z4), .val (.int z6), .val (.int z8), .unset, .unset, .unset, .unset] [(.int 0)])) rfl (hb hby at_60) rfl (by decide) (cap := 0) (by decide) (by decide) (by decide) (by decide) (ad := "[Z") (by decide)
    obtain ⟨b12, g12⟩ : ∃ z, z = h0.size := ⟨_, rfl⟩
    rw [← g12] at A12 EX12 st12
    have M12 : h0.size ≤ h12.size := Nat.le_trans (Nat.le_refl _) E12.1
    have O12 := Old.ext O0 E12
    have sz_b12 : h0.size ≤ b12 := Nat.le_of_eq g12.symm
    have g_b12 : n0 ≤ b12 := Nat.le_trans (own_oz O0) (Nat.le_trans (Nat.le_refl _) sz_b12)
    have V12_0 := Arv.new A12 (by decide)
    have V12 : Arv Z h12 b12 k12 .boolean (0 : Int32) [] (.int 0) := V12_0
    have pre13 : ∀ t, Steps p.tables e below (T12.setTop (mkF m 108 #[.val (.int p1), .val (.int p2), .val (.int 0), .val (.int z2), .val (.int z4), .val (.int z6), .val (.int z8), .val (.ref b12), .unset, .unset, .unset] [(.ref b12)])) t → Steps p.tables e below (s₁.setTop (entryFrame m #[(.int p1), (.int p2)] maxLocals)) t := fun t k => by
      refine pre11 _ ?_
      show Steps p.tables e below (s₁.setTop (mkF m 60 #[.val (.int p1), .val (.int p2), .val (.int 0), .val (.int z2), .val (.int z4), .val (.int z6), .val (.int z8), .unset, .unset, .unset, .unset] [(.int 0)])) _
      refine st12 _ ?_
      refine XS.astore X12.here hx rfl (hb hby at_62) rfl rfl (l' := #[.val (.int p1), .val (.int p2), .val (.int 0), .val (.int z2), .val (.int z4), .val (.int z6), .val (.int z8), .val (.ref b12), .unset, .unset, .unset]) rfl ?_
      refine XS.iloadN X12.here hx rfl (hb hby at_64) rfl ?_
      refine XS.ifYes X12.here hx rfl (pc0 := 65) (pc' := 73) rfl (hb hby at_65) rfl ((if0 _ _).trans (flt (by decide : ¬ ((0 : Int32) < (0 : Int32)))).2.2.2) (by decide) (by decide) ?_
      refine XS.iloadN X12.here hx rfl (hb hby at_73) rfl ?_
      refine XS.iconst X12.here hx rfl (hb hby at_74) ?_
      refine XS.icmpYes X12.here hx rfl (pc0 := 75) (pc' := 84) rfl (hb hby at_75) rfl (flt (by decide : ¬ ((1 : Int32) < (0 : Int32)))).2.2.2 (by decide) (by decide) ?_
      refine XS.iloadN X12.here hx rfl (hb hby at_84) rfl ?_
      refine XS.iconst X12.here hx rfl (hb hby at_85) ?_
      refine XS.icmpYes X12.here hx rfl (pc0 := 86) (pc' := 95) rfl (hb hby at_86) rfl (flt (by decide : ¬ ((2 : Int32) < (0 : Int32)))).2.2.2 (by decide) (by decide) ?_
      refine XS.iloadN X12.here hx rfl (hb hby at_95) rfl ?_
      refine XS.iconst X12.here hx rfl (hb hby at_96) ?_
      refine XS.icmpYes X12.here hx rfl (pc0 := 97) (pc' := 106) rfl (hb hby at_97) rfl (flt (by decide : ¬ ((3 : Int32) < (0 : Int32)))).2.2.2 (by decide) (by decide) ?_
      refine XS.aload X12.here hx rfl (hb hby at_106) rfl rfl ?_
      exact k
    obtain ⟨_, _, ⟨T14, L14, c14, n14⟩, -, X14, hSn14, hgr14, ⟨Lc14, hQ14, l14, y14, z14⟩, st14⟩ := callSS X12 hx (y := yn1) hown (mvT hZ (own_w hw 2 rfl)) (mvT hZ (own_w hw 3 rfl)) (mvT hZ (own_w hw 4 rfl)) (mvT hZ (own_w hw 5 rfl)) (by decide) (backOfS (W := 0) (rm2 l Z a0 hw [] b12 k12 h12 n0 O12 g_b12 V12) hZ (own_w hw 5 rfl) (own_w hw 4 rfl) (by decide) (by decide)) (g := (mkF m 108 #[.val (.int p1), .val (.int p2), .val (.int 0), .val (.int z2), .val (.int z4), .val (.int z6), .val (.int z8), .val (.ref b12), .unset, .unset, .unset] [(.ref b12)])) rfl (by rw [hml]; rfl) (argsL := [(.ref b12)]) (rest := []) (lenOf pd1 rfl) rfl (by show 2 * 0 + _ ≤ _; exact Nat.le_of_eq rfl) (hb hby at_108) (fun _ _ => ⟨rfl, e12, (by decide : 1 + 3 ≤ _), (by decide : 0 + 56 ≤ _)⟩)
    dsimp only [Pt.U, Pt.locs, Pt.cells, Pt.slots] at X14 l14 y14 z14 st14 hQ14
    subst l14 y14 z14
    have hS14 : s.Since T14.vm T14.heap.size := hSn14
    have hZ := State.Warmed39.trans (t := s) hZ hS14.1
    have hown : (s.setVm T14.vm).vm.findClass "com/example/castless/castless/PrimitiveArraysBoxPinLaw" = some m.cls := by rw [show (s.setVm T14.vm).vm = T14.vm from rfl, hS14.1.alike.findClass]; exact hown
    have X14 : Stand p l e room_1 (s.setVm T14.vm) m #[(.int p1), (.int p2)] below meth c T14 _ 4 56 := X14
    obtain ⟨b15, k16, rfl, Nq17, K18, sz_b15, OV19, f20, f21⟩ := hQ14
    have N14 := Fr.app N0 Nq17
    have g_b15 : n0 ≤ b15 := Nat.le_trans (own_oz O12) sz_b15
    have M14 : h0.size ≤ T14.heap.size := Nat.le_trans M12 K18.1
    have O14 := Old.keep O12 K18 all0
    obtain ⟨cl22, Ar22, qa22, Sa22, Na22, Ha22, Ga22⟩ := id (f20)
    have pre23 : ∀ t, Steps p.tables e below (T14.setTop (mkF m 130 #[.val (.int p1), .val (.int p2), .val (.int 0), .val (.int z2), .val (.int z4), .val (.int z6), .val (.int z8), .val (.ref b12), .val (.ref b15), .unset, .unset] [(.int 0), (.ref b15)])) t → Steps p.tables e below (s₁.setTop (entryFrame m #[(.int p1), (.int p2)] maxLocals)) t := fun t k => by
      refine pre13 _ ?_
      show Steps p.tables e below (T12.setTop (mkF m 108 #[.val (.int p1), .val (.int p2), .val (.int 0), .val (.int z2), .val (.int z4), .val (.int z6), .val (.int z8), .val (.ref b12), .unset, .unset, .unset] [(.ref b12)])) _
      refine st14.trans ?_
      refine XS.astore X14.here hx rfl (hb hby at_111) rfl rfl (l' := #[.val (.int p1), .val (.int p2), .val (.int 0), .val (.int z2), .val (.int z4), .val (.int z6), .val (.int z8), .val (.ref b12), .val (.ref b15), .unset, .unset]) rfl ?_
      refine XS.aload X14.here hx rfl (hb hby at_113) rfl rfl ?_
      show Steps p.tables e below (T14.setTop (mkF m 115 #[.val (.int p1), .val (.int p2), .val (.int 0), .val (.int z2), .val (.int z4), .val (.int z6), .val (.int z8), .val (.ref b12), .val (.ref b15), .unset, .unset] [(.ref b15)])) _
      refine XS.ifnullNo X14.here hx rfl (hb hby at_115) rfl ?_
      refine XS.aload X14.here hx rfl (hb hby at_118) rfl rfl ?_
      refine X14.arraylength hx Ar22.1 (State.isArrayOf_alike hZ.alike Ar22.2.1) (g := (mkF m 120 #[.val (.int p1), .val (.int p2), .val (.int 0), .val (.int z2), .val (.int z4), .val (.int z6), .val (.int z8), .val (.ref b12), .val (.ref b15), .unset, .unset] [(.ref b15)])) rfl rfl (hb hby at_120) _ ?_
      rw [len_of Sa22 Na22]
      refine XS.iloadN X14.here hx rfl (hb hby at_121) rfl ?_
      refine XS.icmpYes X14.here hx rfl (pc0 := 122) (pc' := 127) rfl (hb hby at_122) rfl (teq (by decide : (0 : Int32) = (0 : Int32))).1 (by decide) (by decide) ?_
      refine XS.aload X14.here hx rfl (hb hby at_127) rfl rfl ?_
      refine XS.iconst X14.here hx rfl (hb hby at_129) ?_
      exact k
    obtain ⟨_, _, ⟨T24, L24, c24, n24⟩, -, X24, hSn24, hgr24, ⟨Lc24, hQ24, l24, y24, z24⟩, st24⟩ := callSS X14 hx (y := yn2) hown (mvT hZ (own_w hw 26 rfl)) (mvT hZ (own_w hw 27 rfl)) (mvT hZ (own_w hw 4 rfl)) (mvT hZ (own_w hw 28 rfl)) (by decide) (backOfS (W := 0) (rm4 l Z a0 hw [] b15 k16 T14.heap n0 O14 g_b15 OV19 f20) hZ (own_w hw 28 rfl) (own_w hw 4 rfl) (by decide) (by decide)) (g := (mkF m 130 #[.val (.int p1), .val (.int p2), .val (.int 0), .val (.int z2), .val (.int z4), .val (.int z6), .val (.int z8), .val (.ref b12), .val (.ref b15), .unset, .unset] [(.int 0), (.ref b15)])) rfl (by rw [hml]; rfl) (argsL := [(.ref b15), (.int 0)]) (rest := []) (lenOf pd2 rfl) rfl (by show 2 * 0 + _ ≤ _; exact Nat.le_of_eq rfl) (hb hby at_130) (fun _ _ => ⟨rfl, rfl, (by decide : 4 + 3 ≤ _), (by decide : 56 + 56 ≤ _)⟩)
    dsimp only [Pt.U, Pt.locs, Pt.cells, Pt.slots] at X24 l24 y24 z24 st24 hQ24
    subst l24 y24 z24
    have hS24 : s.Since T24.vm T24.heap.size := foldS (T := T14) hS14 (Nat.le_refl _) hSn24 hgr24
    have hown : (s.setVm T24.vm).vm.findClass "com/example/castless/castless/PrimitiveArraysBoxPinLaw" = some m.cls := by rw [show (s.setVm T24.vm).vm = T24.vm from rfl, hSn24.1.alike.findClass]; exact hown
    have hZ := State.Warmed39.trans (t := (s.setVm T14.vm)) hZ hSn24.1
    have X24 : Stand p l e room_1 (s.setVm T24.vm) m #[(.int p1), (.int p2)] below meth c T24 _ 7 112 := X24
    obtain ⟨b25, k26, rfl, Nq27, K28, sz_b25, f29, f30⟩ := hQ24
    have N24 := Fr.app N14 Nq27
    have g_b25 : n0 ≤ b25 := Nat.le_trans (own_oz O14) sz_b25
    have M24 : h0.size ≤ T24.heap.size := Nat.le_trans M14 K28.1
    have O24 := Old.keep O14 K28 all0
    have f31 := (f20.keep K28 nin0)
    have pre32 : ∀ t, Steps p.tables e below (T24.setTop (mkF m 138 #[.val (.int p1), .val (.int p2), .val (.int 0), .val (.int z2), .val (.int z4), .val (.int z6), .val (.int z8), .val (.ref b12), .val (.ref b15), .val (.ref b25), .unset] [(.int 1), (.ref b15)])) t → Steps p.tables e below (s₁.setTop (entryFrame m #[(.int p1), (.int p2)] maxLocals)) t := fun t k => by
      refine pre23 _ ?_
      show Steps p.tables e below (T14.setTop (mkF m 130 #[.val (.int p1), .val (.int p2), .val (.int 0), .val (.int z2), .val (.int z4), .val (.int z6), .val (.int z8), .val (.ref b12), .val (.ref b15), .unset, .unset] [(.int 0), (.ref b15)])) _
      refine st24.trans ?_
      refine XS.astore X24.here hx rfl (hb hby at_133) rfl rfl (l' := #[.val (.int p1), .val (.int p2), .val (.int 0), .val (.int z2), .val (.int z4), .val (.int z6), .val (.int z8), .val (.ref b12), .val (.ref b15), .val (.ref b25), .unset]) rfl ?_
      refine XS.aload X24.here hx rfl (hb hby at_135) rfl rfl ?_
      refine XS.iconst X24.here hx rfl (hb hby at_137) ?_
      exact k
    obtain ⟨_, _, ⟨T33, L33, c33, n33⟩, -, X33, hSn33, hgr33, ⟨Lc33, hQ33, l33, y33, z33⟩, st33⟩ := callSS X24 hx (y := yn2) hown (mvT hZ (own_w hw 26 rfl)) (mvT hZ (own_w hw 27 rfl)) (mvT hZ (own_w hw 4 rfl)) (mvT hZ (own_w hw 28 rfl)) (by decide) (backOfS (W := 0) (rm5 l Z a0 hw [] b15 k16 T24.heap n0 O24 g_b15 OV19 f31) hZ (own_w hw 28 rfl) (own_w hw 4 rfl) (by decide) (by decide)) (g := (mkF m 138 #[.val (.int p1), .val (.int p2), .val (.int 0), .val (.int z2), .val (.int z4), .val (.int z6), .val (.int z8), .val (.ref b12), .val (.ref b15), .val (.ref b25), .unset] [(.int 1), (.ref b15)])) rfl (by rw [hml]; rfl) (argsL := [(.ref b15), (.int 1)]) (rest := []) (lenOf pd2 rfl) rfl (by show 2 * 0 + _ ≤ _; exact Nat.le_of_eq rfl) (hb hby at_138) (fun _ _ => ⟨rfl, rfl, (by decide : 7 + 3 ≤ _), (by decide : 112 + 56 ≤ _)⟩)
    dsimp only [Pt.U, Pt.locs, Pt.cells, Pt.slots] at X33 l33 y33 z33 st33 hQ33
    subst l33 y33 z33
    have hS33 : s.Since T33.vm T33.heap.size := foldS (T := T24) hS24 (Nat.le_refl _) hSn33 hgr33
    have hown : (s.setVm T33.vm).vm.findClass "com/example/castless/castless/PrimitiveArraysBoxPinLaw" = some m.cls := by rw [show (s.setVm T33.vm).vm = T33.vm from rfl, hSn33.1.alike.findClass]; exact hown
    have hZ := State.Warmed39.trans (t := (s.setVm T24.vm)) hZ hSn33.1
    have X33 : Stand p l e room_1 (s.setVm T33.vm) m #[(.int p1), (.int p2)] below meth c T33 _ 10 168 := X33
    obtain ⟨b34, k35, rfl, Nq36, K37, sz_b34, f38, f39⟩ := hQ33
    have N33 := Fr.app N24 Nq36
    have g_b34 : n0 ≤ b34 := Nat.le_trans (own_oz O24) sz_b34
    have M33 : h0.size ≤ T33.heap.size := Nat.le_trans M24 K37.1
    have O33 := Old.keep O24 K37 all0
    have f40 := (f29.keep K37 nin0)
    obtain ⟨cl41, Ar41, qa41, Sa41, Na41, Ha41, Ga41⟩ := id (f40)
    obtain ⟨cl42, Ar42, qa42, Sa42, Na42, Ha42, Ga42⟩ := id (f38)
    obtain ⟨_, T43, L43, X43, hQ43, st43⟩ := own_cs X33 hx hZ hown (y := yn3) (own_w hw 36 rfl) (own_w hw 37 rfl) (own_w hw 39 rfl) (own_w hw 38 rfl) rfl (argsL := [(.ref b12), (.ref b25), (.ref b34), (.int 0), (.int 0), (.int z2)]) (rest := []) (rm6 l Z a0 hw [] b12 b25 b34 z2 T33.heap n0 O33 g_b12 g_b25 g_b34 (by have q0 := bz2; omega)) (g := (mkF m 178 #[.val (.int p1), .val (.int p2), .val (.int 0), .val (.int z2), .val (.int z4), .val (.int z6), .val (.int z8), .val (.ref b12), .val (.ref b15), .val (.ref b25), .val (.ref b34)] [(.int z2), (.int 0), (.int 0), (.ref b34), (.ref b25), (.ref b12)])) rfl (by rw [hml]; rfl) rfl (hb hby at_178) (lenOf pd3 rfl) (W := 0) (c1 := 10) (s1 := 168)
    obtain ⟨rfl, Nq44, e45⟩ := hQ43
    have N43 := Fr.app N33 Nq44
    obtain ⟨_, T46, L46, X46, hQ46, st46⟩ := own_cs X43 hx hZ hown (y := yn3) (own_w hw 36 rfl) (own_w hw 37 rfl) (own_w hw 39 rfl) (own_w hw 38 rfl) e45 (argsL := [(.ref b12), (.ref b25), (.ref b34), (.int 1), (.int 0), (.int z4)]) (rest := []) (rm7 l Z a0 hw [] b12 b25 b34 z4 T33.heap n0 O33 g_b12 g_b25 g_b34 (by have q0 := bz4; omega)) (g := (mkF m 194 #[.val (.int p1), .val (.int p2), .val (.int 0), .val (.int z2), .val (.int z4), .val (.int z6), .val (.int z8), .val (.ref b12), .val (.ref b15), .val (.ref b25), .val (.ref b34)] [(.int z4), (.int 0), (.int 1), (.ref b34), (.ref b25), (.ref b12)])) rfl (by rw [hml]; rfl) rfl (hb hby at_194) (lenOf pd3 rfl) (W := 0) (c1 := 10) (s1 := 168)
    obtain ⟨rfl, Nq47, e48⟩ := hQ46
    have N46 := Fr.app N43 Nq47
    obtain ⟨_, T49, L49, X49, hQ49, st49⟩ := own_cs X46 hx hZ hown (y := yn3) (own_w hw 36 rfl) (own_w hw 37 rfl) (own_w hw 39 rfl) (own_w hw 38 rfl) e48 (argsL := [(.ref b12), (.ref b25), (.ref b34), (.int 2), (.int 0), (.int z6)]) (rest := []) (rm8 l Z a0 hw [] b12 b25 b34 z6 T33.heap n0 O33 g_b12 g_b25 g_b34 (by have q0 := bz6; omega)) (g := (mkF m 210 #[.val (.int p1), .val (.int p2), .val (.int 0), .val (.int z2), .val (.int z4), .val (.int z6), .val (.int z8), .val (.ref b12), .val (.ref b15), .val (.ref b25), .val (.ref b34)] [(.int z6), (.int 0), (.int 2), (.ref b34), (.ref b25), (.ref b12)])) rfl (by rw [hml]; rfl) rfl (hb hby at_210) (lenOf pd3 rfl) (W := 0) (c1 := 10) (s1 := 168)
    obtain ⟨rfl, Nq50, e51⟩ := hQ49
    have N49 := Fr.app N46 Nq50
    obtain ⟨_, T52, L52, X52, hQ52, st52⟩ := own_cs X49 hx hZ hown (y := yn3) (own_w hw 36 rfl) (own_w hw 37 rfl) (own_w hw 39 rfl) (own_w hw 38 rfl) e51 (argsL := [(.ref b12), (.ref b25), (.ref b34), (.int 3), (.int 0), (.int z8)]) (rest := []) (rm9 l Z a0 hw [] b12 b25 b34 z8 T33.heap n0 O33 g_b12 g_b25 g_b34 (by have q0 := bz8; omega)) (g := (mkF m 226 #[.val (.int p1), .val (.int p2), .val (.int 0), .val (.int z2), .val (.int z4), .val (.int z6), .val (.int z8), .val (.ref b12), .val (.ref b15), .val (.ref b25), .val (.ref b34)] [(.int z8), (.int 0), (.int 3), (.ref b34), (.ref b25), (.ref b12)])) rfl (by rw [hml]; rfl) rfl (hb hby at_226) (lenOf pd3 rfl) (W := 0) (c1 := 10) (s1 := 168)
    obtain ⟨rfl, Nq53, e54⟩ := hQ52
    have N52 := Fr.app N49 Nq53
    obtain ⟨fs, hr, hrun, hended, hRE⟩ := X52.leaveW hS33 (by rw [e54]; exact (Nat.le_refl _)) (v := some (.int 1)) (fun h => by rw [hret] at h; cases h)
    refine ⟨_, _, pre32 _ ?_, hrun, hended, _, _, rfl, ?_, hRE.1, hRE.2.1, hRE.2.2.1, hRE.2.2.2.mono (by decide) (by decide)⟩
    ·
      show Steps p.tables e below (T24.setTop (mkF m 138 #[.val (.int p1), .val (.int p2), .val (.int 0), .val (.int z2), .val (.int z4), .val (.int z6), .val (.int z8), .val (.ref b12), .val (.ref b15), .val (.ref b25), .unset] [(.int 1), (.ref b15)])) _
      refine st33.trans ?_
      refine XS.astore X33.here hx rfl (hb hby at_141) rfl rfl (l' := #[.val (.int p1), .val (.int p2), .val (.int 0), .val (.int z2), .val (.int z4), .val (.int z6), .val (.int z8), .val (.ref b12), .val (.ref b15), .val (.ref b25), .val (.ref b34)]) rfl ?_
      refine XS.aload X33.here hx rfl (hb hby at_143) rfl rfl ?_
      refine XS.ifnullNo X33.here hx rfl (hb hby at_145) rfl ?_
      refine XS.aload X33.here hx rfl (hb hby at_148) rfl rfl ?_
      refine XS.ifnullNo X33.here hx rfl (hb hby at_150) rfl ?_
      refine XS.aload X33.here hx rfl (hb hby at_153) rfl rfl ?_
      refine X33.arraylength hx Ar41.1 (State.isArrayOf_alike hZ.alike Ar41.2.1) (g := (mkF m 155 #[.val (.int p1), .val (.int p2), .val (.int 0), .val (.int z2), .val (.int z4), .val (.int z6), .val (.int z8), .val (.ref b12), .val (.ref b15), .val (.ref b25), .val (.ref b34)] [(.ref b25)])) rfl rfl (hb hby at_155) _ ?_
      rw [len_of Sa41 Na41]
      refine XS.iloadN X33.here hx rfl (hb hby at_156) rfl ?_
      refine XS.icmpNo X33.here hx rfl (hb hby at_157) rfl (teq (by decide : (0 : Int32) = (0 : Int32))).2 ?_
      refine XS.aload X33.here hx rfl (hb hby at_160) rfl rfl ?_
      refine X33.arraylength hx Ar42.1 (State.isArrayOf_alike hZ.alike Ar42.2.1) (g := (mkF m 162 #[.val (.int p1), .val (.int p2), .val (.int 0), .val (.int z2), .val (.int z4), .val (.int z6), .val (.int z8), .val (.ref b12), .val (.ref b15), .val (.ref b25), .val (.ref b34)] [(.ref b34)])) rfl rfl (hb hby at_162) _ ?_
      rw [len_of Sa42 Na42]
      refine XS.iloadN X33.here hx rfl (hb hby at_163) rfl ?_
      refine XS.icmpYes X33.here hx rfl (pc0 := 164) (pc' := 169) rfl (hb hby at_164) rfl (teq (by decide : (0 : Int32) = (0 : Int32))).1 (by decide) (by decide) ?_
      refine XS.aload X33.here hx rfl (hb hby at_169) rfl rfl ?_
      refine XS.aload X33.here hx rfl (hb hby at_171) rfl rfl ?_
      refine XS.aload X33.here hx rfl (hb hby at_173) rfl rfl ?_
      refine XS.iconst X33.here hx rfl (hb hby at_175) ?_
      refine XS.iloadN X33.here hx rfl (hb hby at_176) rfl ?_
      refine XS.iloadN X33.here hx rfl (hb hby at_177) rfl ?_
      refine st43 _ ?_
      refine XS.ifNo X43.here hx rfl (hb hby at_181) rfl ((if0 _ _).trans (feq (by decide : ¬ ((1 : Int32) = (0 : Int32)))).1) ?_
      refine XS.aload X43.here hx rfl (hb hby at_184) rfl rfl ?_
      refine XS.aload X43.here hx rfl (hb hby at_186) rfl rfl ?_
      refine XS.aload X43.here hx rfl (hb hby at_188) rfl rfl ?_
      refine XS.iconst X43.here hx rfl (hb hby at_190) ?_
      refine XS.iloadN X43.here hx rfl (hb hby at_191) rfl ?_
      refine XS.iload X43.here hx rfl (hb hby at_192) rfl ?_
      refine st46 _ ?_
      show Steps p.tables e below (T46.setTop (mkF m 197 #[.val (.int p1), .val (.int p2), .val (.int 0), .val (.int z2), .val (.int z4), .val (.int z6), .val (.int z8), .val (.ref b12), .val (.ref b15), .val (.ref b25), .val (.ref b34)] [(.int 1)])) _
      refine XS.ifNo X46.here hx rfl (hb hby at_197) rfl ((if0 _ _).trans (feq (by decide : ¬ ((1 : Int32) = (0 : Int32)))).1) ?_
      refine XS.aload X46.here hx rfl (hb hby at_200) rfl rfl ?_
      refine XS.aload X46.here hx rfl (hb hby at_202) rfl rfl ?_
      refine XS.aload X46.here hx rfl (hb hby at_204) rfl rfl ?_
      refine XS.iconst X46.here hx rfl (hb hby at_206) ?_
      refine XS.iloadN X46.here hx rfl (hb hby at_207) rfl ?_
      refine XS.iload X46.here hx rfl (hb hby at_208) rfl ?_
      refine st49 _ ?_
      refine XS.ifNo X49.here hx rfl (hb hby at_213) rfl ((if0 _ _).trans (feq (by decide : ¬ ((1 : Int32) = (0 : Int32)))).1) ?_
      refine XS.aload X49.here hx rfl (hb hby at_216) rfl rfl ?_
      refine XS.aload X49.here hx rfl (hb hby at_218) rfl rfl ?_
      refine XS.aload X49.here hx rfl (hb hby at_220) rfl rfl ?_
      refine XS.iconst X49.here hx rfl (hb hby at_222) ?_
      refine XS.iloadN X49.here hx rfl (hb hby at_223) rfl ?_
      refine XS.iload X49.here hx rfl (hb hby at_224) rfl ?_
      refine st52 _ ?_
      refine XS.ifNo X52.here hx rfl (hb hby at_229) rfl ((if0 _ _).trans (feq (by decide : ¬ ((1 : Int32) = (0 : Int32)))).1) ?_
      refine XS.iconst X52.here hx rfl (hb hby at_232) ?_
      refine XS.goto X52.here hx rfl (pc0 := 233) (pc' := 237) rfl (hb hby at_233) (by decide) (by decide) ?_
      show Steps p.tables e below (T52.setTop (mkF m 237 #[.val (.int p1), .val (.int p2), .val (.int 0), .val (.int z2), .val (.int z4), .val (.int z6), .val (.int z8), .val (.ref b12), .val (.ref b15), .val (.ref b25), .val (.ref b34)] [(.int 1)])) _
      exact retN X52 hx (t := .boolean) hret (by simp) (hb hby at_237) hr
    ·
      show Q0 n0 _ T52.heap _
      rw [e54]
      exact ⟨rfl, N52⟩
  ·
    by_cases hc55 : ((p2 &&& (2147483647 : Int32)) % (5 : Int32)) = (1 : Int32)
    ·
      have pre56 : ∀ t, Steps p.tables e below (s₁.setTop (mkF m 60 #[.val (.int p1), .val (.int p2), .val (.int 1), .val (.int z2), .val (.int z4), .val (.int z6), .val (.int z8), .unset, .unset, .unset, .unset] [(.int 1)])) t → Steps p.tables e below (s₁.setTop (entryFrame m #[(.int p1), (.int p2)] maxLocals)) t := fun t k => pre9 t (by rw [hc55]; exact k)
      obtain ⟨T57, h57, k57, X57, e57, E57, A57, EX57, st57⟩ := newPE X0 hx hZ (own_w hw 1 rfl) e0 (g := (mkF m 60 #[.val (.int p1), .val (.int p2), .val (.int 1), .val (.int z2), .val (.int z4), .val (.int z6), .val (.int z8), .unset, .unset, .unset, .unset] [(.int 1)])) rfl (hb hby at_60) rfl (by decide) (cap := 1) (by decide) (by decide) (by decide) (by decide) (ad := "[Z") (by decide)
      obtain ⟨b57, g57⟩ : ∃ z, z = h0.size := ⟨_, rfl⟩
      rw [← g57] at A57 EX57 st57
      have M57 : h0.size ≤ h57.size := Nat.le_trans (Nat.le_refl _) E57.1
      have O57 := Old.ext O0 E57
      have sz_b57 : h0.size ≤ b57 := Nat.le_of_eq g57.symm
      have g_b57 : n0 ≤ b57 := Nat.le_trans (own_oz O0) (Nat.le_trans (Nat.le_refl _) sz_b57)
      have V57_0 := Arv.new A57 (by decide)
      have V57 : Arv Z h57 b57 k57 .boolean (1 : Int32) [(.int 0)] (.int 0) := V57_0.pad (pad_rep [] (.int 0) 1)
      obtain ⟨cl58, Ar58, qa58, Sa58, Na58, Ha58, Ga58⟩ := id (V57)
      have hin58 : ¬ ((0 : Int32) < 0 ∨ cl58.slots.size ≤ ((0 : Int32)).toNatClampNeg) := inb_of Sa58 ⟨by decide, by decide⟩
      have hbz59 : 0 ≤ z2.toInt ∧ z2.toInt ≤ 1 := by have q0 := bz2; omega
      obtain ⟨T60, h60, X60, e60, W60, st60⟩ := stZ X57 hx hZ e57 Ar58 (j := (0 : Int32)) hin58 (g := (mkF m 72 #[.val (.int p1), .val (.int p2), .val (.int 1), .val (.int z2), .val (.int z4), .val (.int z6), .val (.int z8), .val (.ref b57), .unset, .unset, .unset] [(.int z2), (.int 0), (.ref b57)])) rfl rfl (hb hby at_72)
      rw [own_nz hbz59] at W60
      have V60 : Arv Z h60 b57 k57 .boolean (1 : Int32) [(.int z2)] (.int 0) := Arv.set Ar58 qa58 Sa58 Na58 Ha58 Ga58 (own_fz hbz59) W60 0 rfl (Nat.le_of_ble_eq_true rfl)
      have N60 := Fr.snoc X60 N0 g_b57
      have M60 : h0.size ≤ h60.size := Nat.le_trans M57 (Nat.le_of_eq W60.size.symm)
      have O60 := Old.wr O57 W60 g_b57
      have pre61 : ∀ t, Steps p.tables e below (T60.setTop (mkF m 108 #[.val (.int p1), .val (.int p2), .val (.int 1), .val (.int z2), .val (.int z4), .val (.int z6), .val (.int z8), .val (.ref b57), .unset, .unset, .unset] [(.ref b57)])) t → Steps p.tables e below (s₁.setTop (entryFrame m #[(.int p1), (.int p2)] maxLocals)) t := fun t k => by
        refine pre56 _ ?_
        show Steps p.tables e below (s₁.setTop (mkF m 60 #[.val (.int p1), .val (.int p2), .val (.int 1), .val (.int z2), .val (.int z4), .val (.int z6), .val (.int z8), .unset, .unset, .unset, .unset] [(.int 1)])) _
        refine st57 _ ?_
        refine XS.astore X57.here hx rfl (hb hby at_62) rfl rfl (l' := #[.val (.int p1), .val (.int p2), .val (.int 1), .val (.int z2), .val (.int z4), .val (.int z6), .val (.int z8), .val (.ref b57), .unset, .unset, .unset]) rfl ?_
        refine XS.iloadN X57.here hx rfl (hb hby at_64) rfl ?_
        refine XS.ifNo X57.here hx rfl (hb hby at_65) rfl ((if0 _ _).trans (tlt (by decide : (0 : Int32) < (1 : Int32))).2.2.2) ?_
        refine XS.aload X57.here hx rfl (hb hby at_68) rfl rfl ?_
        refine XS.iconst X57.here hx rfl (hb hby at_70) ?_
        refine XS.iloadN X57.here hx rfl (hb hby at_71) rfl ?_
        refine st60 _ ?_
        refine XS.iloadN X60.here hx rfl (hb hby at_73) rfl ?_
        refine XS.iconst X60.here hx rfl (hb hby at_74) ?_
        refine XS.icmpYes X60.here hx rfl (pc0 := 75) (pc' := 84) rfl (hb hby at_75) rfl (flt (by decide : ¬ ((1 : Int32) < (1 : Int32)))).2.2.2 (by decide) (by decide) ?_
        refine XS.iloadN X60.here hx rfl (hb hby at_84) rfl ?_
        refine XS.iconst X60.here hx rfl (hb hby at_85) ?_
        refine XS.icmpYes X60.here hx rfl (pc0 := 86) (pc' := 95) rfl (hb hby at_86) rfl (flt (by decide : ¬ ((2 : Int32) < (1 : Int32)))).2.2.2 (by decide) (by decide) ?_
        refine XS.iloadN X60.here hx rfl (hb hby at_95) rfl ?_
        refine XS.iconst X60.here hx rfl (hb hby at_96) ?_
        refine XS.icmpYes X60.here hx rfl (pc0 := 97) (pc' := 106) rfl (hb hby at_97) rfl (flt (by decide : ¬ ((3 : Int32) < (1 : Int32)))).2.2.2 (by decide) (by decide) ?_
        show Steps p.tables e below (T60.setTop (mkF m 106 #[.val (.int p1), .val (.int p2), .val (.int 1), .val (.int z2), .val (.int z4), .val (.int z6), .val (.int z8), .val (.ref b57), .unset, .unset, .unset] [])) _
        refine XS.aload X60.here hx rfl (hb hby at_106) rfl rfl ?_
        exact k
      obtain ⟨_, _, ⟨T62, L62, c62, n62⟩, -, X62, hSn62, hgr62, ⟨Lc62, hQ62, l62, y62, z62⟩, st62⟩ := callSS X60 hx (y := yn1) hown (mvT hZ (own_w hw 2 rfl)) (mvT hZ (own_w hw 3 rfl)) (mvT hZ (own_w hw 4 rfl)) (mvT hZ (own_w hw 5 rfl)) (by decide) (backOfS (W := 0) (rm12 l Z a0 hw w1 w2 G [] b57 z2 k57 h60 n0 O60 g_b57 (by have q0 := bz2; omega) V60) hZ (own_w hw 5 rfl) (own_w hw 4 rfl) (by decide) (by decide)) (g := (mkF m 108 #[.val (.int p1), .val (.int p2), .val (.int 1), .val (.int z2), .val (.int z4), .val (.int z6), .val (.int z8), .val (.ref b57), .unset, .unset, .unset] [(.ref b57)])) rfl (by rw [hml]; rfl) (argsL := [(.ref b57)]) (rest := []) (lenOf pd1 rfl) rfl (by show 2 * 0 + _ ≤ _; exact Nat.le_of_eq rfl) (hb hby at_108) (fun _ _ => ⟨rfl, e60, (by decide : 1 + 3 ≤ _), (by decide : 1 + 57 ≤ _)⟩)
      dsimp only [Pt.U, Pt.locs, Pt.cells, Pt.slots] at X62 l62 y62 z62 st62 hQ62
      subst l62 y62 z62
      have hS62 : s.Since T62.vm T62.heap.size := hSn62
      have hZ := State.Warmed39.trans (t := s) hZ hS62.1
      have hown : (s.setVm T62.vm).vm.findClass "com/example/castless/castless/PrimitiveArraysBoxPinLaw" = some m.cls := by rw [show (s.setVm T62.vm).vm = T62.vm from rfl, hS62.1.alike.findClass]; exact hown
      have X62 : Stand p l e room_1 (s.setVm T62.vm) m #[(.int p1), (.int p2)] below meth c T62 _ 4 58 := X62
      obtain ⟨b63, k64, v65, rfl, Nq66, K67, sz_b63, OV68, f69, f70, f71, f72⟩ := hQ62
      have N62 := Fr.app N60 Nq66
      have g_b63 : n0 ≤ b63 := Nat.le_trans (own_oz O60) sz_b63
      have M62 : h0.size ≤ T62.heap.size := Nat.le_trans M60 K67.1
      have O62 := Old.keep O60 K67 all0
      obtain ⟨cl73, Ar73, qa73, Sa73, Na73, Ha73, Ga73⟩ := id (f69)
      have pre74 : ∀ t, Steps p.tables e below (T62.setTop (mkF m 130 #[.val (.int p1), .val (.int p2), .val (.int 1), .val (.int z2), .val (.int z4), .val (.int z6), .val (.int z8), .val (.ref b57), .val (.ref b63), .unset, .unset] [(.int 0), (.ref b63)])) t → Steps p.tables e below (s₁.setTop (entryFrame m #[(.int p1), (.int p2)] maxLocals)) t := fun t k => by
        refine pre61 _ ?_
        show Steps p.tables e below (T60.setTop (mkF m 108 #[.val (.int p1), .val (.int p2), .val (.int 1), .val (.int z2), .val (.int z4), .val (.int z6), .val (.int z8), .val (.ref b57), .unset, .unset, .unset] [(.ref b57)])) _
        refine st62.trans ?_
        refine XS.astore X62.here hx rfl (hb hby at_111) rfl rfl (l' := #[.val (.int p1), .val (.int p2), .val (.int 1), .val (.int z2), .val (.int z4), .val (.int z6), .val (.int z8), .val (.ref b57), .val (.ref b63), .unset, .unset]) rfl ?_
        refine XS.aload X62.here hx rfl (hb hby at_113) rfl rfl ?_
        refine XS.ifnullNo X62.here hx rfl (hb hby at_115) rfl ?_
        refine XS.aload X62.here hx rfl (hb hby at_118) rfl rfl ?_
        refine X62.arraylength hx Ar73.1 (State.isArrayOf_alike hZ.alike Ar73.2.1) (g := (mkF m 120 #[.val (.int p1), .val (.int p2), .val (.int 1), .val (.int z2), .val (.int z4), .val (.int z6), .val (.int z8), .val (.ref b57), .val (.ref b63), .unset, .unset] [(.ref b63)])) rfl rfl (hb hby at_120) _ ?_
        rw [len_of Sa73 Na73]
        refine XS.iloadN X62.here hx rfl (hb hby at_121) rfl ?_
        refine XS.icmpYes X62.here hx rfl (pc0 := 122) (pc' := 127) rfl (hb hby at_122) rfl (teq (by decide : (1 : Int32) = (1 : Int32))).1 (by decide) (by decide) ?_
        refine XS.aload X62.here hx rfl (hb hby at_127) rfl rfl ?_
        refine XS.iconst X62.here hx rfl (hb hby at_129) ?_
        exact k
      obtain ⟨_, _, ⟨T75, L75, c75, n75⟩, -, X75, hSn75, hgr75, ⟨Lc75, hQ75, l75, y75, z75⟩, st75⟩ := callSS X62 hx (y := yn2) hown (mvT hZ (own_w hw 26 rfl)) (mvT hZ (own_w hw 27 rfl)) (mvT hZ (own_w hw 4 rfl)) (mvT hZ (own_w hw 28 rfl)) (by decide) (backOfS (W := 0) (rm15 l Z a0 hw [] b63 k64 z2 v65 T62.heap n0 O62 g_b63 OV68 (by have q0 := bz2; omega) f69 f71 f72) hZ (own_w hw 28 rfl) (own_w hw 4 rfl) (by decide) (by decide)) (g := (mkF m 130 #[.val (.int p1), .val (.int p2), .val (.int 1), .val (.int z2), .val (.int z4), .val (.int z6), .val (.int z8), .val (.ref b57), .val (.ref b63), .unset, .unset] [(.int 0), (.ref b63)])) rfl (by rw [hml]; rfl) (argsL := [(.ref b63), (.int 0)]) (rest := []) (lenOf pd2 rfl) rfl (by show 2 * 0 + _ ≤ _; exact Nat.le_of_eq rfl) (hb hby at_130) (fun _ _ => ⟨rfl, rfl, (by decide : 4 + 3 ≤ _), (by decide : 58 + 57 ≤ _)⟩)
      dsimp only [Pt.U, Pt.locs, Pt.cells, Pt.slots] at X75 l75 y75 z75 st75 hQ75
      subst l75 y75 z75
      have hS75 : s.Since T75.vm T75.heap.size := foldS (T := T62) hS62 (Nat.le_refl _) hSn75 hgr75
      have hown : (s.setVm T75.vm).vm.findClass "com/example/castless/castless/PrimitiveArraysBoxPinLaw" = some m.cls := by rw [show (s.setVm T75.vm).vm = T75.vm from rfl, hSn75.1.alike.findClass]; exact hown
      have hZ := State.Warmed39.trans (t := (s.setVm T62.vm)) hZ hSn75.1
      have X75 : Stand p l e room_1 (s.setVm T75.vm) m #[(.int p1), (.int p2)] below meth c T75 _ 7 115 := X75
      obtain ⟨b76, k77, rfl, Nq78, K79, sz_b76, f80, f81⟩ := hQ75
      have N75 := Fr.app N62 Nq78
      have g_b76 : n0 ≤ b76 := Nat.le_trans (own_oz O62) sz_b76
      have M75 : h0.size ≤ T75.heap.size := Nat.le_trans M62 K79.1
      have O75 := Old.keep O62 K79 all0
      have f82 := (f69.keep K79 nin0)
      have pre83 : ∀ t, Steps p.tables e below (T75.setTop (mkF m 138 #[.val (.int p1), .val (.int p2), .val (.int 1), .val (.int z2), .val (.int z4), .val (.int z6), .val (.int z8), .val (.ref b57), .val (.ref b63), .val (.ref b76), .unset] [(.int 1), (.ref b63)])) t → Steps p.tables e below (s₁.setTop (entryFrame m #[(.int p1), (.int p2)] maxLocals)) t := fun t k => by
        refine pre74 _ ?_
        show Steps p.tables e below (T62.setTop (mkF m 130 #[.val (.int p1), .val (.int p2), .val (.int 1), .val (.int z2), .val (.int z4), .val (.int z6), .val (.int z8), .val (.ref b57), .val (.ref b63), .unset, .unset] [(.int 0), (.ref b63)])) _
        refine st75.trans ?_
        refine XS.astore X75.here hx rfl (hb hby at_133) rfl rfl (l' := #[.val (.int p1), .val (.int p2), .val (.int 1), .val (.int z2), .val (.int z4), .val (.int z6), .val (.int z8), .val (.ref b57), .val (.ref b63), .val (.ref b76), .unset]) rfl ?_
        refine XS.aload X75.here hx rfl (hb hby at_135) rfl rfl ?_
        refine XS.iconst X75.here hx rfl (hb hby at_137) ?_
        exact k
      obtain ⟨_, _, ⟨T84, L84, c84, n84⟩, -, X84, hSn84, hgr84, ⟨Lc84, hQ84, l84, y84, z84⟩, st84⟩ := callSS X75 hx (y := yn2) hown (mvT hZ (own_w hw 26 rfl)) (mvT hZ (own_w hw 27 rfl)) (mvT hZ (own_w hw 4 rfl)) (mvT hZ (own_w hw 28 rfl)) (by decide) (backOfS (W := 0) (rm16 l Z a0 hw [] b63 k64 z2 v65 T75.heap n0 O75 g_b63 OV68 (by have q0 := bz2; omega) f82 f71 f72) hZ (own_w hw 28 rfl) (own_w hw 4 rfl) (by decide) (by decide)) (g := (mkF m 138 #[.val (.int p1), .val (.int p2), .val (.int 1), .val (.int z2), .val (.int z4), .val (.int z6), .val (.int z8), .val (.ref b57), .val (.ref b63), .val (.ref b76), .unset] [(.int 1), (.ref b63)])) rfl (by rw [hml]; rfl) (argsL := [(.ref b63), (.int 1)]) (rest := []) (lenOf pd2 rfl) rfl (by show 2 * 0 + _ ≤ _; exact Nat.le_of_eq rfl) (hb hby at_138) (fun _ _ => ⟨rfl, rfl, (by decide : 7 + 3 ≤ _), (by decide : 115 + 57 ≤ _)⟩)
      dsimp only [Pt.U, Pt.locs, Pt.cells, Pt.slots] at X84 l84 y84 z84 st84 hQ84
      subst l84 y84 z84
      have hS84 : s.Since T84.vm T84.heap.size := foldS (T := T75) hS75 (Nat.le_refl _) hSn84 hgr84
      have hown : (s.setVm T84.vm).vm.findClass "com/example/castless/castless/PrimitiveArraysBoxPinLaw" = some m.cls := by rw [show (s.setVm T84.vm).vm = T84.vm from rfl, hSn84.1.alike.findClass]; exact hown
      have hZ := State.Warmed39.trans (t := (s.setVm T75.vm)) hZ hSn84.1
      have X84 : Stand p l e room_1 (s.setVm T84.vm) m #[(.int p1), (.int p2)] below meth c T84 _ 10 172 := X84
      obtain ⟨b85, k86, rfl, Nq87, K88, sz_b85, f89, f90⟩ := hQ84
      have N84 := Fr.app N75 Nq87
      have g_b85 : n0 ≤ b85 := Nat.le_trans (own_oz O75) sz_b85
      have M84 : h0.size ≤ T84.heap.size := Nat.le_trans M75 K88.1
      have O84 := Old.keep O75 K88 all0
      have f91 := (f80.keep K88 nin0)
      obtain ⟨cl92, Ar92, qa92, Sa92, Na92, Ha92, Ga92⟩ := id (f91)
      obtain ⟨cl93, Ar93, qa93, Sa93, Na93, Ha93, Ga93⟩ := id (f89)
      have f94 := (((V60.keep K67 nin0).keep K79 nin0).keep K88 nin0)
      obtain ⟨_, T95, L95, X95, hQ95, st95⟩ := own_cs X84 hx hZ hown (y := yn3) (own_w hw 36 rfl) (own_w hw 37 rfl) (own_w hw 39 rfl) (own_w hw 38 rfl) rfl (argsL := [(.ref b57), (.ref b76), (.ref b85), (.int 0), (.int 1), (.int z2)]) (rest := []) (rm17 l Z a0 hw [] b57 b76 b85 z2 z2 z2 z2 k57 k77 k86 T84.heap n0 O84 g_b57 g_b76 g_b85 (by have q0 := bz2; omega) (by have q0 := bz2; omega) (by have q0 := bz2; omega) (by have q0 := bz2; omega) f94 f91 f89) (g := (mkF m 178 #[.val (.int p1), .val (.int p2), .val (.int 1), .val (.int z2), .val (.int z4), .val (.int z6), .val (.int z8), .val (.ref b57), .val (.ref b63), .val (.ref b76), .val (.ref b85)] [(.int z2), (.int 1), (.int 0), (.ref b85), (.ref b76), (.ref b57)])) rfl (by rw [hml]; rfl) rfl (hb hby at_178) (lenOf pd3 rfl) (W := 0) (c1 := 10) (s1 := 172)
      have pre96 : ∀ t, Steps p.tables e below (T84.setTop (mkF m 178 #[.val (.int p1), .val (.int p2), .val (.int 1), .val (.int z2), .val (.int z4), .val (.int z6), .val (.int z8), .val (.ref b57), .val (.ref b63), .val (.ref b76), .val (.ref b85)] [(.int z2), (.int 1), (.int 0), (.ref b85), (.ref b76), (.ref b57)])) t → Steps p.tables e below (s₁.setTop (entryFrame m #[(.int p1), (.int p2)] maxLocals)) t := fun t k => by
        refine pre83 _ ?_
        show Steps p.tables e below (T75.setTop (mkF m 138 #[.val (.int p1), .val (.int p2), .val (.int 1), .val (.int z2), .val (.int z4), .val (.int z6), .val (.int z8), .val (.ref b57), .val (.ref b63), .val (.ref b76), .unset] [(.int 1), (.ref b63)])) _
        refine st84.trans ?_
        refine XS.astore X84.here hx rfl (hb hby at_141) rfl rfl (l' := #[.val (.int p1), .val (.int p2), .val (.int 1), .val (.int z2), .val (.int z4), .val (.int z6), .val (.int z8), .val (.ref b57), .val (.ref b63), .val (.ref b76), .val (.ref b85)]) rfl ?_
        refine XS.aload X84.here hx rfl (hb hby at_143) rfl rfl ?_
        refine XS.ifnullNo X84.here hx rfl (hb hby at_145) rfl ?_
        refine XS.aload X84.here hx rfl (hb hby at_148) rfl rfl ?_
        refine XS.ifnullNo X84.here hx rfl (hb hby at_150) rfl ?_
        refine XS.aload X84.here hx rfl (hb hby at_153) rfl rfl ?_
        refine X84.arraylength hx Ar92.1 (State.isArrayOf_alike hZ.alike Ar92.2.1) (g := (mkF m 155 #[.val (.int p1), .val (.int p2), .val (.int 1), .val (.int z2), .val (.int z4), .val (.int z6), .val (.int z8), .val (.ref b57), .val (.ref b63), .val (.ref b76), .val (.ref b85)] [(.ref b76)])) rfl rfl (hb hby at_155) _ ?_
        rw [len_of Sa92 Na92]
        refine XS.iloadN X84.here hx rfl (hb hby at_156) rfl ?_
        refine XS.icmpNo X84.here hx rfl (hb hby at_157) rfl (teq (by decide : (1 : Int32) = (1 : Int32))).2 ?_
        refine XS.aload X84.here hx rfl (hb hby at_160) rfl rfl ?_
        refine X84.arraylength hx Ar93.1 (State.isArrayOf_alike hZ.alike Ar93.2.1) (g := (mkF m 162 #[.val (.int p1), .val (.int p2), .val (.int 1), .val (.int z2), .val (.int z4), .val (.int z6), .val (.int z8), .val (.ref b57), .val (.ref b63), .val (.ref b76), .val (.ref b85)] [(.ref b85)])) rfl rfl (hb hby at_162) _ ?_
        rw [len_of Sa93 Na93]
        refine XS.iloadN X84.here hx rfl (hb hby at_163) rfl ?_
        refine XS.icmpYes X84.here hx rfl (pc0 := 164) (pc' := 169) rfl (hb hby at_164) rfl (teq (by decide : (1 : Int32) = (1 : Int32))).1 (by decide) (by decide) ?_
        refine XS.aload X84.here hx rfl (hb hby at_169) rfl rfl ?_
        refine XS.aload X84.here hx rfl (hb hby at_171) rfl rfl ?_
        refine XS.aload X84.here hx rfl (hb hby at_173) rfl rfl ?_
        refine XS.iconst X84.here hx rfl (hb hby at_175) ?_
        refine XS.iloadN X84.here hx rfl (hb hby at_176) rfl ?_
        refine XS.iloadN X84.here hx rfl (hb hby at_177) rfl ?_
        exact k
      rcases hQ95 with ⟨hc97, hc98, hc99, rfl, Nq100, e101⟩ | ⟨hc102, hc103, hc104, rfl, Nq105, e106⟩ | ⟨hc107, hc108, rfl, Nq109, e110⟩ | ⟨hc111, rfl, Nq112, e113⟩
      ·
        have N95 := Fr.app N84 Nq100
        obtain ⟨_, T114, L114, X114, hQ114, st114⟩ := own_cs X95 hx hZ hown (y := yn3) (own_w hw 36 rfl) (own_w hw 37 rfl) (own_w hw 39 rfl) (own_w hw 38 rfl) e101 (argsL := [(.ref b57), (.ref b76), (.ref b85), (.int 1), (.int 1), (.int z4)]) (rest := []) (rm18 l Z a0 hw [] b57 b76 b85 z4 z2 z2 z2 T84.heap n0 O84 g_b57 g_b76 g_b85 (by have q0 := bz4; omega) (by have q0 := bz2; omega) (by have q0 := bz2; omega) (by have q0 := bz2; omega)) (g := (mkF m 194 #[.val (.int p1), .val (.int p2), .val (.int 1), .val (.int z2), .val (.int z4), .val (.int z6), .val (.int z8), .val (.ref b57), .val (.ref b63), .val (.ref b76), .val (.ref b85)] [(.int z4), (.int 1), (.int 1), (.ref b85), (.ref b76), (.ref b57)])) rfl (by rw [hml]; rfl) rfl (hb hby at_194) (lenOf pd3 rfl) (W := 0) (c1 := 10) (s1 := 172)
        obtain ⟨rfl, Nq115, e116⟩ := hQ114
        have N114 := Fr.app N95 Nq115
        obtain ⟨_, T117, L117, X117, hQ117, st117⟩ := own_cs X114 hx hZ hown (y := yn3) (own_w hw 36 rfl) (own_w hw 37 rfl) (own_w hw 39 rfl) (own_w hw 38 rfl) e116 (argsL := [(.ref b57), (.ref b76), (.ref b85), (.int 2), (.int 1), (.int z6)]) (rest := []) (rm19 l Z a0 hw [] b57 b76 b85 z6 z2 z2 z2 T84.heap n0 O84 g_b57 g_b76 g_b85 (by have q0 := bz6; omega) (by have q0 := bz2; omega) (by have q0 := bz2; omega) (by have q0 := bz2; omega)) (g := (mkF m 210 #[.val (.int p1), .val (.int p2), .val (.int 1), .val (.int z2), .val (.int z4), .val (.int z6), .val (.int z8), .val (.ref b57), .val (.ref b63), .val (.ref b76), .val (.ref b85)] [(.int z6), (.int 1), (.int 2), (.ref b85), (.ref b76), (.ref b57)])) rfl (by rw [hml]; rfl) rfl (hb hby at_210) (lenOf pd3 rfl) (W := 0) (c1 := 10) (s1 := 172)
        obtain ⟨rfl, Nq118, e119⟩ := hQ117
        have N117 := Fr.app N114 Nq118
        obtain ⟨_, T120, L120, X120, hQ120, st120⟩ := own_cs X117 hx hZ hown (y := yn3) (own_w hw 36 rfl) (own_w hw 37 rfl) (own_w hw 39 rfl) (own_w hw 38 rfl) e119 (argsL := [(.ref b57), (.ref b76), (.ref b85), (.int 3), (.int 1), (.int z8)]) (rest := []) (rm20 l Z a0 hw [] b57 b76 b85 z8 z2 z2 z2 T84.heap n0 O84 g_b57 g_b76 g_b85 (by have q0 := bz8; omega) (by have q0 := bz2; omega) (by have q0 := bz2; omega) (by have q0 := bz2; omega)) (g := (mkF m 226 #[.val (.int p1), .val (.int p2), .val (.int 1), .val (.int z2), .val (.int z4), .val (.int z6), .val (.int z8), .val (.ref b57), .val (.ref b63), .val (.ref b76), .val (.ref b85)] [(.int z8), (.int 1), (.int 3), (.ref b85), (.ref b76), (.ref b57)])) rfl (by rw [hml]; rfl) rfl (hb hby at_226) (lenOf pd3 rfl) (W := 0) (c1 := 10) (s1 := 172)
        obtain ⟨rfl, Nq121, e122⟩ := hQ120
        have N120 := Fr.app N117 Nq121
        obtain ⟨fs, hr, hrun, hended, hRE⟩ := X120.leaveW hS84 (by rw [e122]; exact (Nat.le_refl _)) (v := some (.int 1)) (fun h => by rw [hret] at h; cases h)
        refine ⟨_, _, pre96 _ ?_, hrun, hended, _, _, rfl, ?_, hRE.1, hRE.2.1, hRE.2.2.1, hRE.2.2.2.mono (by decide) (by decide)⟩
        ·
          show Steps p.tables e below (T84.setTop (mkF m 178 #[.val (.int p1), .val (.int p2), .val (.int 1), .val (.int z2), .val (.int z4), .val (.int z6), .val (.int z8), .val (.ref b57), .val (.ref b63), .val (.ref b76), .val (.ref b85)] [(.int z2), (.int 1), (.int 0), (.ref b85), (.ref b76), (.ref b57)])) _
          refine st95 _ ?_
          refine XS.ifNo X95.here hx rfl (hb hby at_181) rfl ((if0 _ _).trans (feq (by decide : ¬ ((1 : Int32) = (0 : Int32)))).1) ?_
          refine XS.aload X95.here hx rfl (hb hby at_184) rfl rfl ?_
          refine XS.aload X95.here hx rfl (hb hby at_186) rfl rfl ?_
          refine XS.aload X95.here hx rfl (hb hby at_188) rfl rfl ?_
          show Steps p.tables e below (T95.setTop (mkF m 190 #[.val (.int p1), .val (.int p2), .val (.int 1), .val (.int z2), .val (.int z4), .val (.int z6), .val (.int z8), .val (.ref b57), .val (.ref b63), .val (.ref b76), .val (.ref b85)] [(.ref b85), (.ref b76), (.ref b57)])) _
          refine XS.iconst X95.here hx rfl (hb hby at_190) ?_
          refine XS.iloadN X95.here hx rfl (hb hby at_191) rfl ?_
          refine XS.iload X95.here hx rfl (hb hby at_192) rfl ?_
          refine st114 _ ?_
          refine XS.ifNo X114.here hx rfl (hb hby at_197) rfl ((if0 _ _).trans (feq (by decide : ¬ ((1 : Int32) = (0 : Int32)))).1) ?_
          refine XS.aload X114.here hx rfl (hb hby at_200) rfl rfl ?_
          refine XS.aload X114.here hx rfl (hb hby at_202) rfl rfl ?_
          refine XS.aload X114.here hx rfl (hb hby at_204) rfl rfl ?_
          refine XS.iconst X114.here hx rfl (hb hby at_206) ?_
          refine XS.iloadN X114.here hx rfl (hb hby at_207) rfl ?_
          refine XS.iload X114.here hx rfl (hb hby at_208) rfl ?_
          refine st117 _ ?_
          refine XS.ifNo X117.here hx rfl (hb hby at_213) rfl ((if0 _ _).trans (feq (by decide : ¬ ((1 : Int32) = (0 : Int32)))).1) ?_
          refine XS.aload X117.here hx rfl (hb hby at_216) rfl rfl ?_
          refine XS.aload X117.here hx rfl (hb hby at_218) rfl rfl ?_
          refine XS.aload X117.here hx rfl (hb hby at_220) rfl rfl ?_
          refine XS.iconst X117.here hx rfl (hb hby at_222) ?_
          refine XS.iloadN X117.here hx rfl (hb hby at_223) rfl ?_
          refine XS.iload X117.here hx rfl (hb hby at_224) rfl ?_
          refine st120 _ ?_
          refine XS.ifNo X120.here hx rfl (hb hby at_229) rfl ((if0 _ _).trans (feq (by decide : ¬ ((1 : Int32) = (0 : Int32)))).1) ?_
          refine XS.iconst X120.here hx rfl (hb hby at_232) ?_
          refine XS.goto X120.here hx rfl (pc0 := 233) (pc' := 237) rfl (hb hby at_233) (by decide) (by decide) ?_
          show Steps p.tables e below (T120.setTop (mkF m 237 #[.val (.int p1), .val (.int p2), .val (.int 1), .val (.int z2), .val (.int z4), .val (.int z6), .val (.int z8), .val (.ref b57), .val (.ref b63), .val (.ref b76), .val (.ref b85)] [(.int 1)])) _
          exact retN X120 hx (t := .boolean) hret (by simp) (hb hby at_237) hr
        ·
          show Q0 n0 _ T120.heap _
          rw [e122]
          exact ⟨rfl, N120⟩
      ·
        exact absurd (rfl : z2 = z2) hc104
      ·
        exact absurd (rfl : z2 = z2) hc108
      ·
        exact absurd (rfl : z2 = z2) hc111
    ·
      by_cases hc123 : ((p2 &&& (2147483647 : Int32)) % (5 : Int32)) = (2 : Int32)
      ·
        have pre124 : ∀ t, Steps p.tables e below (s₁.setTop (mkF m 60 #[.val (.int p1), .val (.int p2), .val (.int 2), .val (.int z2), .val (.int z4), .val (.int z6), .val (.int z8), .unset, .unset, .unset, .unset] [(.int 2)])) t → Steps p.tables e below (s₁.setTop (entryFrame m #[(.int p1), (.int p2)] maxLocals)) t := fun t k => pre9 t (by rw [hc123]; exact k)
        obtain ⟨T125, h125, k125, X125, e125, E125, A125, EX125, st125⟩ := newPE X0 hx hZ (own_w hw 1 rfl) e0 (g := (mkF m 60 #[.val (.int p1), .val (.int p2), .val (.int 2), .val (.int z2), .val (.int z4), .val (.int z6), .val (.int z8), .unset, .unset, .unset, .unset] [(.int 2)])) rfl (hb hby at_60) rfl (by decide) (cap := 2) (by decide) (by decide) (by decide) (by decide) (ad := "[Z") (by decide)
        obtain ⟨b125, g125⟩ : ∃ z, z = h0.size := ⟨_, rfl⟩
        rw [← g125] at A125 EX125 st125
        have M125 : h0.size ≤ h125.size := Nat.le_trans (Nat.le_refl _) E125.1
        have O125 := Old.ext O0 E125
        have sz_b125 : h0.size ≤ b125 := Nat.le_of_eq g125.symm
        have g_b125 : n0 ≤ b125 := Nat.le_trans (own_oz O0) (Nat.le_trans (Nat.le_refl _) sz_b125)
        have V125_0 := Arv.new A125 (by decide)
        have V125 : Arv Z h125 b125 k125 .boolean (2 : Int32) [(.int 0), (.int 0)] (.int 0) := V125_0.pad (pad_rep [] (.int 0) 2)
        obtain ⟨cl126, Ar126, qa126, Sa126, Na126, Ha126, Ga126⟩ := id (V125)
        have hin126 : ¬ ((0 : Int32) < 0 ∨ cl126.slots.size ≤ ((0 : Int32)).toNatClampNeg) := inb_of Sa126 ⟨by decide, by decide⟩
        have hbz127 : 0 ≤ z2.toInt ∧ z2.toInt ≤ 1 := by have q0 := bz2; omega
        obtain ⟨T128, h128, X128, e128, W128, st128⟩ := stZ X125 hx hZ e125 Ar126 (j := (0 : Int32)) hin126 (g := (mkF m 72 #[.val (.int p1), .val (.int p2), .val (.int 2), .val (.int z2), .val (.int z4), .val (.int z6), .val (.int z8), .val (.ref b125), .unset, .unset, .unset] [(.int z2), (.int 0), (.ref b125)])) rfl rfl (hb hby at_72)
        rw [own_nz hbz127] at W128
        have V128 : Arv Z h128 b125 k125 .boolean (2 : Int32) [(.int z2), (.int 0)] (.int 0) := Arv.set Ar126 qa126 Sa126 Na126 Ha126 Ga126 (own_fz hbz127) W128 0 rfl (Nat.le_of_ble_eq_true rfl)
        have N128 := Fr.snoc X128 N0 g_b125
        have M128 : h0.size ≤ h128.size := Nat.le_trans M125 (Nat.le_of_eq W128.size.symm)
        have O128 := Old.wr O125 W128 g_b125
        obtain ⟨cl129, Ar129, qa129, Sa129, Na129, Ha129, Ga129⟩ := id (V128)
        have hin129 : ¬ ((1 : Int32) < 0 ∨ cl129.slots.size ≤ ((1 : Int32)).toNatClampNeg) := inb_of Sa129 ⟨by decide, by decide⟩
        have hbz130 : 0 ≤ z4.toInt ∧ z4.toInt ≤ 1 := by have q0 := bz4; omega
        obtain ⟨T131, h131, X131, e131, W131, st131⟩ := stZ X128 hx hZ e128 Ar129 (j := (1 : Int32)) hin129 (g := (mkF m 83 #[.val (.int p1), .val (.int p2), .val (.int 2), .val (.int z2), .val (.int z4), .val (.int z6), .val (.int z8), .val (.ref b125), .unset, .unset, .unset] [(.int z4), (.int 1), (.ref b125)])) rfl rfl (hb hby at_83)
        rw [own_nz hbz130] at W131
        have V131 : Arv Z h131 b125 k125 .boolean (2 : Int32) [(.int z2), (.int z4)] (.int 0) := Arv.set Ar129 qa129 Sa129 Na129 Ha129 Ga129 (own_fz hbz130) W131 1 rfl (Nat.le_of_ble_eq_true rfl)
        have N131 := Fr.snoc X131 N128 g_b125
        have M131 : h0.size ≤ h131.size := Nat.le_trans M128 (Nat.le_of_eq W131.size.symm)
        have O131 := Old.wr O128 W131 g_b125
        have pre132 : ∀ t, Steps p.tables e below (T131.setTop (mkF m 108 #[.val (.int p1), .val (.int p2), .val (.int 2), .val (.int z2), .val (.int z4), .val (.int z6), .val (.int z8), .val (.ref b125), .unset, .unset, .unset] [(.ref b125)])) t → Steps p.tables e below (s₁.setTop (entryFrame m #[(.int p1), (.int p2)] maxLocals)) t := fun t k => by
          refine pre124 _ ?_
          show Steps p.tables e below (s₁.setTop (mkF m 60 #[.val (.int p1), .val (.int p2), .val (.int 2), .val (.int z2), .val (.int z4), .val (.int z6), .val (.int z8), .unset, .unset, .unset, .unset] [(.int 2)])) _
          refine st125 _ ?_
          refine XS.astore X125.here hx rfl (hb hby at_62) rfl rfl (l' := #[.val (.int p1), .val (.int p2), .val (.int 2), .val (.int z2), .val (.int z4), .val (.int z6), .val (.int z8), .val (.ref b125), .unset, .unset, .unset]) rfl ?_
          refine XS.iloadN X125.here hx rfl (hb hby at_64) rfl ?_
          refine XS.ifNo X125.here hx rfl (hb hby at_65) rfl ((if0 _ _).trans (tlt (by decide : (0 : Int32) < (2 : Int32))).2.2.2) ?_
          refine XS.aload X125.here hx rfl (hb hby at_68) rfl rfl ?_
          refine XS.iconst X125.here hx rfl (hb hby at_70) ?_
          refine XS.iloadN X125.here hx rfl (hb hby at_71) rfl ?_
          refine st128 _ ?_
          refine XS.iloadN X128.here hx rfl (hb hby at_73) rfl ?_
          refine XS.iconst X128.here hx rfl (hb hby at_74) ?_
          refine XS.icmpNo X128.here hx rfl (hb hby at_75) rfl (tlt (by decide : (1 : Int32) < (2 : Int32))).2.2.2 ?_
          refine XS.aload X128.here hx rfl (hb hby at_78) rfl rfl ?_
          refine XS.iconst X128.here hx rfl (hb hby at_80) ?_
          refine XS.iload X128.here hx rfl (hb hby at_81) rfl ?_
          refine st131 _ ?_
          refine XS.iloadN X131.here hx rfl (hb hby at_84) rfl ?_
          refine XS.iconst X131.here hx rfl (hb hby at_85) ?_
          show Steps p.tables e below (T131.setTop (mkF m 86 #[.val (.int p1), .val (.int p2), .val (.int 2), .val (.int z2), .val (.int z4), .val (.int z6), .val (.int z8), .val (.ref b125), .unset, .unset, .unset] [(.int 2), (.int 2)])) _
          refine XS.icmpYes X131.here hx rfl (pc0 := 86) (pc' := 95) rfl (hb hby at_86) rfl (flt (by decide : ¬ ((2 : Int32) < (2 : Int32)))).2.2.2 (by decide) (by decide) ?_
          refine XS.iloadN X131.here hx rfl (hb hby at_95) rfl ?_
          refine XS.iconst X131.here hx rfl (hb hby at_96) ?_
          refine XS.icmpYes X131.here hx rfl (pc0 := 97) (pc' := 106) rfl (hb hby at_97) rfl (flt (by decide : ¬ ((3 : Int32) < (2 : Int32)))).2.2.2 (by decide) (by decide) ?_
          refine XS.aload X131.here hx rfl (hb hby at_106) rfl rfl ?_
          exact k
        obtain ⟨_, _, ⟨T133, L133, c133, n133⟩, -, X133, hSn133, hgr133, ⟨Lc133, hQ133, l133, y133, z133⟩, st133⟩ := callSS X131 hx (y := yn1) hown (mvT hZ (own_w hw 2 rfl)) (mvT hZ (own_w hw 3 rfl)) (mvT hZ (own_w hw 4 rfl)) (mvT hZ (own_w hw 5 rfl)) (by decide) (backOfS (W := 0) (rm22 l Z a0 hw w1 w2 G [] b125 z2 z4 k125 h131 n0 O131 g_b125 (by have q0 := bz2; omega) (by have q0 := bz4; omega) V131) hZ (own_w hw 5 rfl) (own_w hw 4 rfl) (by decide) (by decide)) (g := (mkF m 108 #[.val (.int p1), .val (.int p2), .val (.int 2), .val (.int z2), .val (.int z4), .val (.int z6), .val (.int z8), .val (.ref b125), .unset, .unset, .unset] [(.ref b125)])) rfl (by rw [hml]; rfl) (argsL := [(.ref b125)]) (rest := []) (lenOf pd1 rfl) rfl (by show 2 * 0 + _ ≤ _; exact Nat.le_of_eq rfl) (hb hby at_108) (fun _ _ => ⟨rfl, e131, (by decide : 1 + 3 ≤ _), (by decide : 2 + 58 ≤ _)⟩)
        dsimp only [Pt.U, Pt.locs, Pt.cells, Pt.slots] at X133 l133 y133 z133 st133 hQ133
        subst l133 y133 z133
        have hS133 : s.Since T133.vm T133.heap.size := hSn133
        have hZ := State.Warmed39.trans (t := s) hZ hS133.1
        have hown : (s.setVm T133.vm).vm.findClass "com/example/castless/castless/PrimitiveArraysBoxPinLaw" = some m.cls := by rw [show (s.setVm T133.vm).vm = T133.vm from rfl, hS133.1.alike.findClass]; exact hown
        have X133 : Stand p l e room_1 (s.setVm T133.vm) m #[(.int p1), (.int p2)] below meth c T133 _ 4 60 := X133
        obtain ⟨b134, k135, v136, v137, rfl, Nq138, K139, sz_b134, OV140, f141, f142, f143, f144, f145, f146⟩ := hQ133
        have N133 := Fr.app N131 Nq138
        have g_b134 : n0 ≤ b134 := Nat.le_trans (own_oz O131) sz_b134
        have M133 : h0.size ≤ T133.heap.size := Nat.le_trans M131 K139.1
        have O133 := Old.keep O131 K139 all0
        obtain ⟨cl147, Ar147, qa147, Sa147, Na147, Ha147, Ga147⟩ := id (f141)
        have pre148 : ∀ t, Steps p.tables e below (T133.setTop (mkF m 130 #[.val (.int p1), .val (.int p2), .val (.int 2), .val (.int z2), .val (.int z4), .val (.int z6), .val (.int z8), .val (.ref b125), .val (.ref b134), .unset, .unset] [(.int 0), (.ref b134)])) t → Steps p.tables e below (s₁.setTop (entryFrame m #[(.int p1), (.int p2)] maxLocals)) t := fun t k => by
          refine pre132 _ ?_
          show Steps p.tables e below (T131.setTop (mkF m 108 #[.val (.int p1), .val (.int p2), .val (.int 2), .val (.int z2), .val (.int z4), .val (.int z6), .val (.int z8), .val (.ref b125), .unset, .unset, .unset] [(.ref b125)])) _
          refine st133.trans ?_
          refine XS.astore X133.here hx rfl (hb hby at_111) rfl rfl (l' := #[.val (.int p1), .val (.int p2), .val (.int 2), .val (.int z2), .val (.int z4), .val (.int z6), .val (.int z8), .val (.ref b125), .val (.ref b134), .unset, .unset]) rfl ?_
          refine XS.aload X133.here hx rfl (hb hby at_113) rfl rfl ?_
          refine XS.ifnullNo X133.here hx rfl (hb hby at_115) rfl ?_
          refine XS.aload X133.here hx rfl (hb hby at_118) rfl rfl ?_
          refine X133.arraylength hx Ar147.1 (State.isArrayOf_alike hZ.alike Ar147.2.1) (g := (mkF m 120 #[.val (.int p1), .val (.int p2), .val (.int 2), .val (.int z2), .val (.int z4), .val (.int z6), .val (.int z8), .val (.ref b125), .val (.ref b134), .unset, .unset] [(.ref b134)])) rfl rfl (hb hby at_120) _ ?_
          rw [len_of Sa147 Na147]
          refine XS.iloadN X133.here hx rfl (hb hby at_121) rfl ?_
          refine XS.icmpYes X133.here hx rfl (pc0 := 122) (pc' := 127) rfl (hb hby at_122) rfl (teq (by decide : (2 : Int32) = (2 : Int32))).1 (by decide) (by decide) ?_
          refine XS.aload X133.here hx rfl (hb hby at_127) rfl rfl ?_
          refine XS.iconst X133.here hx rfl (hb hby at_129) ?_
          exact k
        obtain ⟨_, _, ⟨T149, L149, c149, n149⟩, -, X149, hSn149, hgr149, ⟨Lc149, hQ149, l149, y149, z149⟩, st149⟩ := callSS X133 hx (y := yn2) hown (mvT hZ (own_w hw 26 rfl)) (mvT hZ (own_w hw 27 rfl)) (mvT hZ (own_w hw 4 rfl)) (mvT hZ (own_w hw 28 rfl)) (by decide) (backOfS (W := 0) (rm24 l Z a0 hw [] b134 k135 z2 z4 v136 v137 T133.heap n0 O133 g_b134 OV140 (by have q0 := bz2; omega) (by have q0 := bz4; omega) f141 f143 f144 f145 f146) hZ (own_w hw 28 rfl) (own_w hw 4 rfl) (by decide) (by decide)) (g := (mkF m 130 #[.val (.int p1), .val (.int p2), .val (.int 2), .val (.int z2), .val (.int z4), .val (.int z6), .val (.int z8), .val (.ref b125), .val (.ref b134), .unset, .unset] [(.int 0), (.ref b134)])) rfl (by rw [hml]; rfl) (argsL := [(.ref b134), (.int 0)]) (rest := []) (lenOf pd2 rfl) rfl (by show 2 * 0 + _ ≤ _; exact Nat.le_of_eq rfl) (hb hby at_130) (fun _ _ => ⟨rfl, rfl, (by decide : 4 + 3 ≤ _), (by decide : 60 + 58 ≤ _)⟩)
        dsimp only [Pt.U, Pt.locs, Pt.cells, Pt.slots] at X149 l149 y149 z149 st149 hQ149
        subst l149 y149 z149
        have hS149 : s.Since T149.vm T149.heap.size := foldS (T := T133) hS133 (Nat.le_refl _) hSn149 hgr149
        have hown : (s.setVm T149.vm).vm.findClass "com/example/castless/castless/PrimitiveArraysBoxPinLaw" = some m.cls := by rw [show (s.setVm T149.vm).vm = T149.vm from rfl, hSn149.1.alike.findClass]; exact hown
        have hZ := State.Warmed39.trans (t := (s.setVm T133.vm)) hZ hSn149.1
        have X149 : Stand p l e room_1 (s.setVm T149.vm) m #[(.int p1), (.int p2)] below meth c T149 _ 7 118 := X149
        obtain ⟨b150, k151, rfl, Nq152, K153, sz_b150, f154, f155⟩ := hQ149
        have N149 := Fr.app N133 Nq152
        have g_b150 : n0 ≤ b150 := Nat.le_trans (own_oz O133) sz_b150
        have M149 : h0.size ≤ T149.heap.size := Nat.le_trans M133 K153.1
        have O149 := Old.keep O133 K153 all0
        have f156 := (f141.keep K153 nin0)
        have pre157 : ∀ t, Steps p.tables e below (T149.setTop (mkF m 138 #[.val (.int p1), .val (.int p2), .val (.int 2), .val (.int z2), .val (.int z4), .val (.int z6), .val (.int z8), .val (.ref b125), .val (.ref b134), .val (.ref b150), .unset] [(.int 1), (.ref b134)])) t → Steps p.tables e below (s₁.setTop (entryFrame m #[(.int p1), (.int p2)] maxLocals)) t := fun t k => by
          refine pre148 _ ?_
          show Steps p.tables e below (T133.setTop (mkF m 130 #[.val (.int p1), .val (.int p2), .val (.int 2), .val (.int z2), .val (.int z4), .val (.int z6), .val (.int z8), .val (.ref b125), .val (.ref b134), .unset, .unset] [(.int 0), (.ref b134)])) _
          refine st149.trans ?_
          refine XS.astore X149.here hx rfl (hb hby at_133) rfl rfl (l' := #[.val (.int p1), .val (.int p2), .val (.int 2), .val (.int z2), .val (.int z4), .val (.int z6), .val (.int z8), .val (.ref b125), .val (.ref b134), .val (.ref b150), .unset]) rfl ?_
          refine XS.aload X149.here hx rfl (hb hby at_135) rfl rfl ?_
          refine XS.iconst X149.here hx rfl (hb hby at_137) ?_
          exact k
        obtain ⟨_, _, ⟨T158, L158, c158, n158⟩, -, X158, hSn158, hgr158, ⟨Lc158, hQ158, l158, y158, z158⟩, st158⟩ := callSS X149 hx (y := yn2) hown (mvT hZ (own_w hw 26 rfl)) (mvT hZ (own_w hw 27 rfl)) (mvT hZ (own_w hw 4 rfl)) (mvT hZ (own_w hw 28 rfl)) (by decide) (backOfS (W := 0) (rm25 l Z a0 hw [] b134 k135 z2 z4 v136 v137 T149.heap n0 O149 g_b134 OV140 (by have q0 := bz2; omega) (by have q0 := bz4; omega) f156 f143 f144 f145 f146) hZ (own_w hw 28 rfl) (own_w hw 4 rfl) (by decide) (by decide)) (g := (mkF m 138 #[.val (.int p1), .val (.int p2), .val (.int 2), .val (.int z2), .val (.int z4), .val (.int z6), .val (.int z8), .val (.ref b125), .val (.ref b134), .val (.ref b150), .unset] [(.int 1), (.ref b134)])) rfl (by rw [hml]; rfl) (argsL := [(.ref b134), (.int 1)]) (rest := []) (lenOf pd2 rfl) rfl (by show 2 * 0 + _ ≤ _; exact Nat.le_of_eq rfl) (hb hby at_138) (fun _ _ => ⟨rfl, rfl, (by decide : 7 + 3 ≤ _), (by decide : 118 + 58 ≤ _)⟩)
        dsimp only [Pt.U, Pt.locs, Pt.cells, Pt.slots] at X158 l158 y158 z158 st158 hQ158
        subst l158 y158 z158
        have hS158 : s.Since T158.vm T158.heap.size := foldS (T := T149) hS149 (Nat.le_refl _) hSn158 hgr158
        have hown : (s.setVm T158.vm).vm.findClass "com/example/castless/castless/PrimitiveArraysBoxPinLaw" = some m.cls := by rw [show (s.setVm T158.vm).vm = T158.vm from rfl, hSn158.1.alike.findClass]; exact hown
        have hZ := State.Warmed39.trans (t := (s.setVm T149.vm)) hZ hSn158.1
        have X158 : Stand p l e room_1 (s.setVm T158.vm) m #[(.int p1), (.int p2)] below meth c T158 _ 10 176 := X158
        obtain ⟨b159, k160, rfl, Nq161, K162, sz_b159, f163, f164⟩ := hQ158
        have N158 := Fr.app N149 Nq161
        have g_b159 : n0 ≤ b159 := Nat.le_trans (own_oz O149) sz_b159
        have M158 : h0.size ≤ T158.heap.size := Nat.le_trans M149 K162.1
        have O158 := Old.keep O149 K162 all0
        have f165 := (f154.keep K162 nin0)
        obtain ⟨cl166, Ar166, qa166, Sa166, Na166, Ha166, Ga166⟩ := id (f165)
        obtain ⟨cl167, Ar167, qa167, Sa167, Na167, Ha167, Ga167⟩ := id (f163)
        have f168 := (((V131.keep K139 nin0).keep K153 nin0).keep K162 nin0)
        obtain ⟨_, T169, L169, X169, hQ169, st169⟩ := own_cs X158 hx hZ hown (y := yn3) (own_w hw 36 rfl) (own_w hw 37 rfl) (own_w hw 39 rfl) (own_w hw 38 rfl) rfl (argsL := [(.ref b125), (.ref b150), (.ref b159), (.int 0), (.int 2), (.int z2)]) (rest := []) (rm26 l Z a0 hw [] b125 b150 b159 z2 z2 z4 z2 z4 z2 z4 k125 k151 k160 T158.heap n0 O158 g_b125 g_b150 g_b159 (by have q0 := bz2; omega) (by have q0 := bz2; omega) (by have q0 := bz4; omega) (by have q0 := bz2; omega) (by have q0 := bz4; omega) (by have q0 := bz2; omega) (by have q0 := bz4; omega) f168 f165 f163) (g := (mkF m 178 #[.val (.int p1), .val (.int p2), .val (.int 2), .val (.int z2), .val (.int z4), .val (.int z6), .val (.int z8), .val (.ref b125), .val (.ref b134), .val (.ref b150), .val (.ref b159)] [(.int z2), (.int 2), (.int 0), (.ref b159), (.ref b150), (.ref b125)])) rfl (by rw [hml]; rfl) rfl (hb hby at_178) (lenOf pd3 rfl) (W := 0) (c1 := 10) (s1 := 176)
        have pre170 : ∀ t, Steps p.tables e below (T158.setTop (mkF m 178 #[.val (.int p1), .val (.int p2), .val (.int 2), .val (.int z2), .val (.int z4), .val (.int z6), .val (.int z8), .val (.ref b125), .val (.ref b134), .val (.ref b150), .val (.ref b159)] [(.int z2), (.int 2), (.int 0), (.ref b159), (.ref b150), (.ref b125)])) t → Steps p.tables e below (s₁.setTop (entryFrame m #[(.int p1), (.int p2)] maxLocals)) t := fun t k => by
          refine pre157 _ ?_
          show Steps p.tables e below (T149.setTop (mkF m 138 #[.val (.int p1), .val (.int p2), .val (.int 2), .val (.int z2), .val (.int z4), .val (.int z6), .val (.int z8), .val (.ref b125), .val (.ref b134), .val (.ref b150), .unset] [(.int 1), (.ref b134)])) _
          refine st158.trans ?_
          refine XS.astore X158.here hx rfl (hb hby at_141) rfl rfl (l' := #[.val (.int p1), .val (.int p2), .val (.int 2), .val (.int z2), .val (.int z4), .val (.int z6), .val (.int z8), .val (.ref b125), .val (.ref b134), .val (.ref b150), .val (.ref b159)]) rfl ?_
          refine XS.aload X158.here hx rfl (hb hby at_143) rfl rfl ?_
          refine XS.ifnullNo X158.here hx rfl (hb hby at_145) rfl ?_
          refine XS.aload X158.here hx rfl (hb hby at_148) rfl rfl ?_
          refine XS.ifnullNo X158.here hx rfl (hb hby at_150) rfl ?_
          refine XS.aload X158.here hx rfl (hb hby at_153) rfl rfl ?_
          refine X158.arraylength hx Ar166.1 (State.isArrayOf_alike hZ.alike Ar166.2.1) (g := (mkF m 155 #[.val (.int p1), .val (.int p2), .val (.int 2), .val (.int z2), .val (.int z4), .val (.int z6), .val (.int z8), .val (.ref b125), .val (.ref b134), .val (.ref b150), .val (.ref b159)] [(.ref b150)])) rfl rfl (hb hby at_155) _ ?_
          rw [len_of Sa166 Na166]
          refine XS.iloadN X158.here hx rfl (hb hby at_156) rfl ?_
          refine XS.icmpNo X158.here hx rfl (hb hby at_157) rfl (teq (by decide : (2 : Int32) = (2 : Int32))).2 ?_
          refine XS.aload X158.here hx rfl (hb hby at_160) rfl rfl ?_
          refine X158.arraylength hx Ar167.1 (State.isArrayOf_alike hZ.alike Ar167.2.1) (g := (mkF m 162 #[.val (.int p1), .val (.int p2), .val (.int 2), .val (.int z2), .val (.int z4), .val (.int z6), .val (.int z8), .val (.ref b125), .val (.ref b134), .val (.ref b150), .val (.ref b159)] [(.ref b159)])) rfl rfl (hb hby at_162) _ ?_
          rw [len_of Sa167 Na167]
          refine XS.iloadN X158.here hx rfl (hb hby at_163) rfl ?_
          refine XS.icmpYes X158.here hx rfl (pc0 := 164) (pc' := 169) rfl (hb hby at_164) rfl (teq (by decide : (2 : Int32) = (2 : Int32))).1 (by decide) (by decide) ?_
          refine XS.aload X158.here hx rfl (hb hby at_169) rfl rfl ?_
          refine XS.aload X158.here hx rfl (hb hby at_171) rfl rfl ?_
          refine XS.aload X158.here hx rfl (hb hby at_173) rfl rfl ?_
          refine XS.iconst X158.here hx rfl (hb hby at_175) ?_
          refine XS.iloadN X158.here hx rfl (hb hby at_176) rfl ?_
          refine XS.iloadN X158.here hx rfl (hb hby at_177) rfl ?_
          exact k
        rcases hQ169 with ⟨hc171, hc172, hc173, rfl, Nq174, e175⟩ | ⟨hc176, hc177, hc178, rfl, Nq179, e180⟩ | ⟨hc181, hc182, rfl, Nq183, e184⟩ | ⟨hc185, rfl, Nq186, e187⟩
        ·
          have N169 := Fr.app N158 Nq174
          obtain ⟨_, T188, L188, X188, hQ188, st188⟩ := own_cs X169 hx hZ hown (y := yn3) (own_w hw 36 rfl) (own_w hw 37 rfl) (own_w hw 39 rfl) (own_w hw 38 rfl) e175 (argsL := [(.ref b125), (.ref b150), (.ref b159), (.int 1), (.int 2), (.int z4)]) (rest := []) (rm27 l Z a0 hw [] b125 b150 b159 z4 z2 z4 z2 z4 z2 z4 k125 k151 k160 T158.heap n0 O158 g_b125 g_b150 g_b159 (by have q0 := bz4; omega) (by have q0 := bz2; omega) (by have q0 := bz4; omega) (by have q0 := bz2; omega) (by have q0 := bz4; omega) (by have q0 := bz2; omega) (by have q0 := bz4; omega) f168 f165 f163) (g := (mkF m 194 #[.val (.int p1), .val (.int p2), .val (.int 2), .val (.int z2), .val (.int z4), .val (.int z6), .val (.int z8), .val (.ref b125), .val (.ref b134), .val (.ref b150), .val (.ref b159)] [(.int z4), (.int 2), (.int 1), (.ref b159), (.ref b150), (.ref b125)])) rfl (by rw [hml]; rfl) rfl (hb hby at_194) (lenOf pd3 rfl) (W := 0) (c1 := 10) (s1 := 176)
          have pre189 : ∀ t, Steps p.tables e below (T169.setTop (mkF m 194 #[.val (.int p1), .val (.int p2), .val (.int 2), .val (.int z2), .val (.int z4), .val (.int z6), .val (.int z8), .val (.ref b125), .val (.ref b134), .val (.ref b150), .val (.ref b159)] [(.int z4), (.int 2), (.int 1), (.ref b159), (.ref b150), (.ref b125)])) t → Steps p.tables e below (s₁.setTop (entryFrame m #[(.int p1), (.int p2)] maxLocals)) t := fun t k => by
            refine pre170 _ ?_
            show Steps p.tables e below (T158.setTop (mkF m 178 #[.val (.int p1), .val (.int p2), .val (.int 2), .val (.int z2), .val (.int z4), .val (.int z6), .val (.int z8), .val (.ref b125), .val (.ref b134), .val (.ref b150), .val (.ref b159)] [(.int z2), (.int 2), (.int 0), (.ref b159), (.ref b150), (.ref b125)])) _
            refine st169 _ ?_
            show Steps p.tables e below (T169.setTop (mkF m 181 #[.val (.int p1), .val (.int p2), .val (.int 2), .val (.int z2), .val (.int z4), .val (.int z6), .val (.int z8), .val (.ref b125), .val (.ref b134), .val (.ref b150), .val (.ref b159)] [(.int 1)])) _
            refine XS.ifNo X169.here hx rfl (hb hby at_181) rfl ((if0 _ _).trans (feq (by decide : ¬ ((1 : Int32) = (0 : Int32)))).1) ?_
            refine XS.aload X169.here hx rfl (hb hby at_184) rfl rfl ?_
            refine XS.aload X169.here hx rfl (hb hby at_186) rfl rfl ?_
            refine XS.aload X169.here hx rfl (hb hby at_188) rfl rfl ?_
            refine XS.iconst X169.here hx rfl (hb hby at_190) ?_
            refine XS.iloadN X169.here hx rfl (hb hby at_191) rfl ?_
            refine XS.iload X169.here hx rfl (hb hby at_192) rfl ?_
            exact k
          rcases hQ188 with ⟨hc190, hc191, hc192, rfl, Nq193, e194⟩ | ⟨hc195, hc196, hc197, rfl, Nq198, e199⟩ | ⟨hc200, hc201, rfl, Nq202, e203⟩ | ⟨hc204, rfl, Nq205, e206⟩
          ·
            have N188 := Fr.app N169 Nq193
            obtain ⟨_, T207, L207, X207, hQ207, st207⟩ := own_cs X188 hx hZ hown (y := yn3) (own_w hw 36 rfl) (own_w hw 37 rfl) (own_w hw 39 rfl) (own_w hw 38 rfl) e194 (argsL := [(.ref b125), (.ref b150), (.ref b159), (.int 2), (.int 2), (.int z6)]) (rest := []) (rm28 l Z a0 hw [] b125 b150 b159 z6 z2 z4 z2 z4 z2 z4 T158.heap n0 O158 g_b125 g_b150 g_b159 (by have q0 := bz6; omega) (by have q0 := bz2; omega) (by have q0 := bz4; omega) (by have q0 := bz2; omega) (by have q0 := bz4; omega) (by have q0 := bz2; omega) (by have q0 := bz4; omega)) (g := (mkF m 210 #[.val (.int p1), .val (.int p2), .val (.int 2), .val (.int z2), .val (.int z4), .val (.int z6), .val (.int z8), .val (.ref b125), .val (.ref b134), .val (.ref b150), .val (.ref b159)] [(.int z6), (.int 2), (.int 2), (.ref b159), (.ref b150), (.ref b125)])) rfl (by rw [hml]; rfl) rfl (hb hby at_210) (lenOf pd3 rfl) (W := 0) (c1 := 10) (s1 := 176)
            obtain ⟨rfl, Nq208, e209⟩ := hQ207
            have N207 := Fr.app N188 Nq208
            obtain ⟨_, T210, L210, X210, hQ210, st210⟩ := own_cs X207 hx hZ hown (y := yn3) (own_w hw 36 rfl) (own_w hw 37 rfl) (own_w hw 39 rfl) (own_w hw 38 rfl) e209 (argsL := [(.ref b125), (.ref b150), (.ref b159), (.int 3), (.int 2), (.int z8)]) (rest := []) (rm29 l Z a0 hw [] b125 b150 b159 z8 z2 z4 z2 z4 z2 z4 T158.heap n0 O158 g_b125 g_b150 g_b159 (by have q0 := bz8; omega) (by have q0 := bz2; omega) (by have q0 := bz4; omega) (by have q0 := bz2; omega) (by have q0 := bz4; omega) (by have q0 := bz2; omega) (by have q0 := bz4; omega)) (g := (mkF m 226 #[.val (.int p1), .val (.int p2), .val (.int 2), .val (.int z2), .val (.int z4), .val (.int z6), .val (.int z8), .val (.ref b125), .val (.ref b134), .val (.ref b150), .val (.ref b159)] [(.int z8), (.int 2), (.int 3), (.ref b159), (.ref b150), (.ref b125)])) rfl (by rw [hml]; rfl) rfl (hb hby at_226) (lenOf pd3 rfl) (W := 0) (c1 := 10) (s1 := 176)
            obtain ⟨rfl, Nq211, e212⟩ := hQ210
            have N210 := Fr.app N207 Nq211
            obtain ⟨fs, hr, hrun, hended, hRE⟩ := X210.leaveW hS158 (by rw [e212]; exact (Nat.le_refl _)) (v := some (.int 1)) (fun h => by rw [hret] at h; cases h)
            refine ⟨_, _, pre189 _ ?_, hrun, hended, _, _, rfl, ?_, hRE.1, hRE.2.1, hRE.2.2.1, hRE.2.2.2.mono (by decide) (by decide)⟩
            ·
              show Steps p.tables e below (T169.setTop (mkF m 194 #[.val (.int p1), .val (.int p2), .val (.int 2), .val (.int z2), .val (.int z4), .val (.int z6), .val (.int z8), .val (.ref b125), .val (.ref b134), .val (.ref b150), .val (.ref b159)] [(.int z4), (.int 2), (.int 1), (.ref b159), (.ref b150), (.ref b125)])) _
              refine st188 _ ?_
              refine XS.ifNo X188.here hx rfl (hb hby at_197) rfl ((if0 _ _).trans (feq (by decide : ¬ ((1 : Int32) = (0 : Int32)))).1) ?_
              refine XS.aload X188.here hx rfl (hb hby at_200) rfl rfl ?_
              refine XS.aload X188.here hx rfl (hb hby at_202) rfl rfl ?_
              refine XS.aload X188.here hx rfl (hb hby at_204) rfl rfl ?_
              refine XS.iconst X188.here hx rfl (hb hby at_206) ?_
              refine XS.iloadN X188.here hx rfl (hb hby at_207) rfl ?_
              refine XS.iload X188.here hx rfl (hb hby at_208) rfl ?_
              refine st207 _ ?_
              refine XS.ifNo X207.here hx rfl (hb hby at_213) rfl ((if0 _ _).trans (feq (by decide : ¬ ((1 : Int32) = (0 : Int32)))).1) ?_
              refine XS.aload X207.here hx rfl (hb hby at_216) rfl rfl ?_
              refine XS.aload X207.here hx rfl (hb hby at_218) rfl rfl ?_
              refine XS.aload X207.here hx rfl (hb hby at_220) rfl rfl ?_
              refine XS.iconst X207.here hx rfl (hb hby at_222) ?_
              refine XS.iloadN X207.here hx rfl (hb hby at_223) rfl ?_
              refine XS.iload X207.here hx rfl (hb hby at_224) rfl ?_
              refine st210 _ ?_
              refine XS.ifNo X210.here hx rfl (hb hby at_229) rfl ((if0 _ _).trans (feq (by decide : ¬ ((1 : Int32) = (0 : Int32)))).1) ?_
              refine XS.iconst X210.here hx rfl (hb hby at_232) ?_
              refine XS.goto X210.here hx rfl (pc0 := 233) (pc' := 237) rfl (hb hby at_233) (by decide) (by decide) ?_
              show Steps p.tables e below (T210.setTop (mkF m 237 #[.val (.int p1), .val (.int p2), .val (.int 2), .val (.int z2), .val (.int z4), .val (.int z6), .val (.int z8), .val (.ref b125), .val (.ref b134), .val (.ref b150), .val (.ref b159)] [(.int 1)])) _
              exact retN X210 hx (t := .boolean) hret (by simp) (hb hby at_237) hr
            ·
              show Q0 n0 _ T210.heap _
              rw [e212]
              exact ⟨rfl, N210⟩
          ·
            exact absurd (rfl : z4 = z4) hc197
          ·
            exact absurd (rfl : z4 = z4) hc201
          ·
            exact absurd (rfl : z4 = z4) hc204
        ·
          exact absurd (rfl : z2 = z2) hc178
        ·
          exact absurd (rfl : z2 = z2) hc182
        ·
          exact absurd (rfl : z2 = z2) hc185
      ·
        by_cases hc213 : ((p2 &&& (2147483647 : Int32)) % (5 : Int32)) = (3 : Int32)
        ·
          have pre214 : ∀ t, Steps p.tables e below (s₁.setTop (mkF m 60 #[.val (.int p1), .val (.int p2), .val (.int 3), .val (.int z2), .val (.int z4), .val (.int z6), .val (.int z8), .unset, .unset, .unset, .unset] [(.int 3)])) t → Steps p.tables e below (s₁.setTop (entryFrame m #[(.int p1), (.int p2)] maxLocals)) t := fun t k => pre9 t (by rw [hc213]; exact k)
          obtain ⟨T215, h215, k215, X215, e215, E215, A215, EX215, st215⟩ := newPE X0 hx hZ (own_w hw 1 rfl) e0 (g := (mkF m 60 #[.val (.int p1), .val (.int p2), .val (.int 3), .val (.int z2), .val (.int z4), .val (.int z6), .val (.int z8), .unset, .unset, .unset, .unset] [(.int 3)])) rfl (hb hby at_60) rfl (by decide) (cap := 3) (by decide) (by decide) (by decide) (by decide) (ad := "[Z") (by decide)
          obtain ⟨b215, g215⟩ : ∃ z, z = h0.size := ⟨_, rfl⟩
          rw [← g215] at A215 EX215 st215
          have M215 : h0.size ≤ h215.size := Nat.le_trans (Nat.le_refl _) E215.1
          have O215 := Old.ext O0 E215
          have sz_b215 : h0.size ≤ b215 := Nat.le_of_eq g215.symm
          have g_b215 : n0 ≤ b215 := Nat.le_trans (own_oz O0) (Nat.le_trans (Nat.le_refl _) sz_b215)
          have V215_0 := Arv.new A215 (by decide)
          have V215 : Arv Z h215 b215 k215 .boolean (3 : Int32) [(.int 0), (.int 0), (.int 0)] (.int 0) := V215_0.pad (pad_rep [] (.int 0) 3)
          obtain ⟨cl216, Ar216, qa216, Sa216, Na216, Ha216, Ga216⟩ := id (V215)
          have hin216 : ¬ ((0 : Int32) < 0 ∨ cl216.slots.size ≤ ((0 : Int32)).toNatClampNeg) := inb_of Sa216 ⟨by decide, by decide⟩
          have hbz217 : 0 ≤ z2.toInt ∧ z2.toInt ≤ 1 := by have q0 := bz2; omega
          obtain ⟨T218, h218, X218, e218, W218, st218⟩ := stZ X215 hx hZ e215 Ar216 (j := (0 : Int32)) hin216 (g := (mkF m 72 #[.val (.int p1), .val (.int p2), .val (.int 3), .val (.int z2), .val (.int z4), .val (.int z6), .val (.int z8), .val (.ref b215), .unset, .unset, .unset] [(.int z2), (.int 0), (.ref b215)])) rfl rfl (hb hby at_72)
          rw [own_nz hbz217] at W218
          have V218 : Arv Z h218 b215 k215 .boolean (3 : Int32) [(.int z2), (.int 0), (.int 0)] (.int 0) := Arv.set Ar216 qa216 Sa216 Na216 Ha216 Ga216 (own_fz hbz217) W218 0 rfl (Nat.le_of_ble_eq_true rfl)
          have N218 := Fr.snoc X218 N0 g_b215
          have M218 : h0.size ≤ h218.size := Nat.le_trans M215 (Nat.le_of_eq W218.size.symm)
          have O218 := Old.wr O215 W218 g_b215
          obtain ⟨cl219, Ar219, qa219, Sa219, Na219, Ha219, Ga219⟩ := id (V218)
          have hin219 : ¬ ((1 : Int32) < 0 ∨ cl219.slots.size ≤ ((1 : Int32)).toNatClampNeg) := inb_of Sa219 ⟨by decide, by decide⟩
          have hbz220 : 0 ≤ z4.toInt ∧ z4.toInt ≤ 1 := by have q0 := bz4; omega
          obtain ⟨T221, h221, X221, e221, W221, st221⟩ := stZ X218 hx hZ e218 Ar219 (j := (1 : Int32)) hin219 (g := (mkF m 83 #[.val (.int p1), .val (.int p2), .val (.int 3), .val (.int z2), .val (.int z4), .val (.int z6), .val (.int z8), .val (.ref b215), .unset, .unset, .unset] [(.int z4), (.int 1), (.ref b215)])) rfl rfl (hb hby at_83)
          rw [own_nz hbz220] at W221
          have V221 : Arv Z h221 b215 k215 .boolean (3 : Int32) [(.int z2), (.int z4), (.int 0)] (.int 0) := Arv.set Ar219 qa219 Sa219 Na219 Ha219 Ga219 (own_fz hbz220) W221 1 rfl (Nat.le_of_ble_eq_true rfl)
          have N221 := Fr.snoc X221 N218 g_b215
          have M221 : h0.size ≤ h221.size := Nat.le_trans M218 (Nat.le_of_eq W221.size.symm)
          have O221 := Old.wr O218 W221 g_b215
          obtain ⟨cl222, Ar222, qa222, Sa222, Na222, Ha222, Ga222⟩ := id (V221)
          have hin222 : ¬ ((2 : Int32) < 0 ∨ cl222.slots.size ≤ ((2 : Int32)).toNatClampNeg) := inb_of Sa222 ⟨by decide, by decide⟩
          have hbz223 : 0 ≤ z6.toInt ∧ z6.toInt ≤ 1 := by have q0 := bz6; omega
          obtain ⟨T224, h224, X224, e224, W224, st224⟩ := stZ X221 hx hZ e221 Ar222 (j := (2 : Int32)) hin222 (g := (mkF m 94 #[.val (.int p1), .val (.int p2), .val (.int 3), .val (.int z2), .val (.int z4), .val (.int z6), .val (.int z8), .val (.ref b215), .unset, .unset, .unset] [(.int z6), (.int 2), (.ref b215)])) rfl rfl (hb hby at_94)
          rw [own_nz hbz223] at W224
          have V224 : Arv Z h224 b215 k215 .boolean (3 : Int32) [(.int z2), (.int z4), (.int z6)] (.int 0) := Arv.set Ar222 qa222 Sa222 Na222 Ha222 Ga222 (own_fz hbz223) W224 2 rfl (Nat.le_of_ble_eq_true rfl)
          have N224 := Fr.snoc X224 N221 g_b215
          have M224 : h0.size ≤ h224.size := Nat.le_trans M221 (Nat.le_of_eq W224.size.symm)
          have O224 := Old.wr O221 W224 g_b215
          have pre225 : ∀ t, Steps p.tables e below (T224.setTop (mkF m 108 #[.val (.int p1), .val (.int p2), .val (.int 3), .val (.int z2), .val (.int z4), .val (.int z6), .val (.int z8), .val (.ref b215), .unset, .unset, .unset] [(.ref b215)])) t → Steps p.tables e below (s₁.setTop (entryFrame m #[(.int p1), (.int p2)] maxLocals)) t := fun t k => by
            refine pre214 _ ?_
            show Steps p.tables e below (s₁.setTop (mkF m 60 #[.val (.int p1), .val (.int p2), .val (.int 3), .val (.int z2), .val (.int z4), .val (.int z6), .val (.int z8), .unset, .unset, .unset, .unset] [(.int 3)])) _
            refine st215 _ ?_
            refine XS.astore X215.here hx rfl (hb hby at_62) rfl rfl (l' := #[.val (.int p1), .val (.int p2), .val (.int 3), .val (.int z2), .val (.int z4), .val (.int z6), .val (.int z8), .val (.ref b215), .unset, .unset, .unset]) rfl ?_
            refine XS.iloadN X215.here hx rfl (hb hby at_64) rfl ?_
            refine XS.ifNo X215.here hx rfl (hb hby at_65) rfl ((if0 _ _).trans (tlt (by decide : (0 : Int32) < (3 : Int32))).2.2.2) ?_
            refine XS.aload X215.here hx rfl (hb hby at_68) rfl rfl ?_
            refine XS.iconst X215.here hx rfl (hb hby at_70) ?_
            refine XS.iloadN X215.here hx rfl (hb hby at_71) rfl ?_
            refine st218 _ ?_
            refine XS.iloadN X218.here hx rfl (hb hby at_73) rfl ?_
            refine XS.iconst X218.here hx rfl (hb hby at_74) ?_
            refine XS.icmpNo X218.here hx rfl (hb hby at_75) rfl (tlt (by decide : (1 : Int32) < (3 : Int32))).2.2.2 ?_
            refine XS.aload X218.here hx rfl (hb hby at_78) rfl rfl ?_
            refine XS.iconst X218.here hx rfl (hb hby at_80) ?_
            refine XS.iload X218.here hx rfl (hb hby at_81) rfl ?_
            refine st221 _ ?_
            refine XS.iloadN X221.here hx rfl (hb hby at_84) rfl ?_
            refine XS.iconst X221.here hx rfl (hb hby at_85) ?_
            show Steps p.tables e below (T221.setTop (mkF m 86 #[.val (.int p1), .val (.int p2), .val (.int 3), .val (.int z2), .val (.int z4), .val (.int z6), .val (.int z8), .val (.ref b215), .unset, .unset, .unset] [(.int 2), (.int 3)])) _
            refine XS.icmpNo X221.here hx rfl (hb hby at_86) rfl (tlt (by decide : (2 : Int32) < (3 : Int32))).2.2.2 ?_
            refine XS.aload X221.here hx rfl (hb hby at_89) rfl rfl ?_
            refine XS.iconst X221.here hx rfl (hb hby at_91) ?_
            refine XS.iload X221.here hx rfl (hb hby at_92) rfl ?_
            refine st224 _ ?_
            refine XS.iloadN X224.here hx rfl (hb hby at_95) rfl ?_
            refine XS.iconst X224.here hx rfl (hb hby at_96) ?_
            refine XS.icmpYes X224.here hx rfl (pc0 := 97) (pc' := 106) rfl (hb hby at_97) rfl (flt (by decide : ¬ ((3 : Int32) < (3 : Int32)))).2.2.2 (by decide) (by decide) ?_
            refine XS.aload X224.here hx rfl (hb hby at_106) rfl rfl ?_
            exact k
          obtain ⟨_, _, ⟨T226, L226, c226, n226⟩, -, X226, hSn226, hgr226, ⟨Lc226, hQ226, l226, y226, z226⟩, st226⟩ := callSS X224 hx (y := yn1) hown (mvT hZ (own_w hw 2 rfl)) (mvT hZ (own_w hw 3 rfl)) (mvT hZ (own_w hw 4 rfl)) (mvT hZ (own_w hw 5 rfl)) (by decide) (backOfS (W := 0) (rm31 l Z a0 hw w1 w2 G [] b215 z2 z4 z6 k215 h224 n0 O224 g_b215 (by have q0 := bz2; omega) (by have q0 := bz4; omega) (by have q0 := bz6; omega) V224) hZ (own_w hw 5 rfl) (own_w hw 4 rfl) (by decide) (by decide)) (g := (mkF m 108 #[.val (.int p1), .val (.int p2), .val (.int 3), .val (.int z2), .val (.int z4), .val (.int z6), .val (.int z8), .val (.ref b215), .unset, .unset, .unset] [(.ref b215)])) rfl (by rw [hml]; rfl) (argsL := [(.ref b215)]) (rest := []) (lenOf pd1 rfl) rfl (by show 2 * 0 + _ ≤ _; exact Nat.le_of_eq rfl) (hb hby at_108) (fun _ _ => ⟨rfl, e224, (by decide : 1 + 3 ≤ _), (by decide : 3 + 59 ≤ _)⟩)
          dsimp only [Pt.U, Pt.locs, Pt.cells, Pt.slots] at X226 l226 y226 z226 st226 hQ226
          subst l226 y226 z226
          have hS226 : s.Since T226.vm T226.heap.size := hSn226
          have hZ := State.Warmed39.trans (t := s) hZ hS226.1
          have hown : (s.setVm T226.vm).vm.findClass "com/example/castless/castless/PrimitiveArraysBoxPinLaw" = some m.cls := by rw [show (s.setVm T226.vm).vm = T226.vm from rfl, hS226.1.alike.findClass]; exact hown
          have X226 : Stand p l e room_1 (s.setVm T226.vm) m #[(.int p1), (.int p2)] below meth c T226 _ 4 62 := X226
          obtain ⟨b227, k228, v229, v230, v231, rfl, Nq232, K233, sz_b227, OV234, f235, f236, f237, f238, f239, f240, f241, f242⟩ := hQ226
          have N226 := Fr.app N224 Nq232
          have g_b227 : n0 ≤ b227 := Nat.le_trans (own_oz O224) sz_b227
          have M226 : h0.size ≤ T226.heap.size := Nat.le_trans M224 K233.1
          have O226 := Old.keep O224 K233 all0
          obtain ⟨cl243, Ar243, qa243, Sa243, Na243, Ha243, Ga243⟩ := id (f235)
          have pre244 : ∀ t, Steps p.tables e below (T226.setTop (mkF m 130 #[.val (.int p1), .val (.int p2), .val (.int 3), .val (.int z2), .val (.int z4), .val (.int z6), .val (.int z8), .val (.ref b215), .val (.ref b227), .unset, .unset] [(.int 0), (.ref b227)])) t → Steps p.tables e below (s₁.setTop (entryFrame m #[(.int p1), (.int p2)] maxLocals)) t := fun t k => by
            refine pre225 _ ?_
            show Steps p.tables e below (T224.setTop (mkF m 108 #[.val (.int p1), .val (.int p2), .val (.int 3), .val (.int z2), .val (.int z4), .val (.int z6), .val (.int z8), .val (.ref b215), .unset, .unset, .unset] [(.ref b215)])) _
            refine st226.trans ?_
            refine XS.astore X226.here hx rfl (hb hby at_111) rfl rfl (l' := #[.val (.int p1), .val (.int p2), .val (.int 3), .val (.int z2), .val (.int z4), .val (.int z6), .val (.int z8), .val (.ref b215), .val (.ref b227), .unset, .unset]) rfl ?_
            refine XS.aload X226.here hx rfl (hb hby at_113) rfl rfl ?_
            refine XS.ifnullNo X226.here hx rfl (hb hby at_115) rfl ?_
            refine XS.aload X226.here hx rfl (hb hby at_118) rfl rfl ?_
            refine X226.arraylength hx Ar243.1 (State.isArrayOf_alike hZ.alike Ar243.2.1) (g := (mkF m 120 #[.val (.int p1), .val (.int p2), .val (.int 3), .val (.int z2), .val (.int z4), .val (.int z6), .val (.int z8), .val (.ref b215), .val (.ref b227), .unset, .unset] [(.ref b227)])) rfl rfl (hb hby at_120) _ ?_
            rw [len_of Sa243 Na243]
            refine XS.iloadN X226.here hx rfl (hb hby at_121) rfl ?_
            refine XS.icmpYes X226.here hx rfl (pc0 := 122) (pc' := 127) rfl (hb hby at_122) rfl (teq (by decide : (3 : Int32) = (3 : Int32))).1 (by decide) (by decide) ?_
            refine XS.aload X226.here hx rfl (hb hby at_127) rfl rfl ?_
            refine XS.iconst X226.here hx rfl (hb hby at_129) ?_
            exact k
          obtain ⟨_, _, ⟨T245, L245, c245, n245⟩, -, X245, hSn245, hgr245, ⟨Lc245, hQ245, l245, y245, z245⟩, st245⟩ := callSS X226 hx (y := yn2) hown (mvT hZ (own_w hw 26 rfl)) (mvT hZ (own_w hw 27 rfl)) (mvT hZ (own_w hw 4 rfl)) (mvT hZ (own_w hw 28 rfl)) (by decide) (backOfS (W := 0) (rm33 l Z a0 hw [] b227 k228 z2 z4 z6 v229 v230 v231 T226.heap n0 O226 g_b227 OV234 (by have q0 := bz2; omega) (by have q0 := bz4; omega) (by have q0 := bz6; omega) f235 f237 f238 f239 f240 f241 f242) hZ (own_w hw 28 rfl) (own_w hw 4 rfl) (by decide) (by decide)) (g := (mkF m 130 #[.val (.int p1), .val (.int p2), .val (.int 3), .val (.int z2), .val (.int z4), .val (.int z6), .val (.int z8), .val (.ref b215), .val (.ref b227), .unset, .unset] [(.int 0), (.ref b227)])) rfl (by rw [hml]; rfl) (argsL := [(.ref b227), (.int 0)]) (rest := []) (lenOf pd2 rfl) rfl (by show 2 * 0 + _ ≤ _; exact Nat.le_of_eq rfl) (hb hby at_130) (fun _ _ => ⟨rfl, rfl, (by decide : 4 + 3 ≤ _), (by decide : 62 + 59 ≤ _)⟩)
          dsimp only [Pt.U, Pt.locs, Pt.cells, Pt.slots] at X245 l245 y245 z245 st245 hQ245
          subst l245 y245 z245
          have hS245 : s.Since T245.vm T245.heap.size := foldS (T := T226) hS226 (Nat.le_refl _) hSn245 hgr245
          have hown : (s.setVm T245.vm).vm.findClass "com/example/castless/castless/PrimitiveArraysBoxPinLaw" = some m.cls := by rw [show (s.setVm T245.vm).vm = T245.vm from rfl, hSn245.1.alike.findClass]; exact hown
          have hZ := State.Warmed39.trans (t := (s.setVm T226.vm)) hZ hSn245.1
          have X245 : Stand p l e room_1 (s.setVm T245.vm) m #[(.int p1), (.int p2)] below meth c T245 _ 7 121 := X245
          obtain ⟨b246, k247, rfl, Nq248, K249, sz_b246, f250, f251⟩ := hQ245
          have N245 := Fr.app N226 Nq248
          have g_b246 : n0 ≤ b246 := Nat.le_trans (own_oz O226) sz_b246
          have M245 : h0.size ≤ T245.heap.size := Nat.le_trans M226 K249.1
          have O245 := Old.keep O226 K249 all0
          have f252 := (f235.keep K249 nin0)
          have pre253 : ∀ t, Steps p.tables e below (T245.setTop (mkF m 138 #[.val (.int p1), .val (.int p2), .val (.int 3), .val (.int z2), .val (.int z4), .val (.int z6), .val (.int z8), .val (.ref b215), .val (.ref b227), .val (.ref b246), .unset] [(.int 1), (.ref b227)])) t → Steps p.tables e below (s₁.setTop (entryFrame m #[(.int p1), (.int p2)] maxLocals)) t := fun t k => by
            refine pre244 _ ?_
            show Steps p.tables e below (T226.setTop (mkF m 130 #[.val (.int p1), .val (.int p2), .val (.int 3), .val (.int z2), .val (.int z4), .val (.int z6), .val (.int z8), .val (.ref b215), .val (.ref b227), .unset, .unset] [(.int 0), (.ref b227)])) _
            refine st245.trans ?_
            refine XS.astore X245.here hx rfl (hb hby at_133) rfl rfl (l' := #[.val (.int p1), .val (.int p2), .val (.int 3), .val (.int z2), .val (.int z4), .val (.int z6), .val (.int z8), .val (.ref b215), .val (.ref b227), .val (.ref b246), .unset]) rfl ?_
            refine XS.aload X245.here hx rfl (hb hby at_135) rfl rfl ?_
            refine XS.iconst X245.here hx rfl (hb hby at_137) ?_
            exact k
          obtain ⟨_, _, ⟨T254, L254, c254, n254⟩, -, X254, hSn254, hgr254, ⟨Lc254, hQ254, l254, y254, z254⟩, st254⟩ := callSS X245 hx (y := yn2) hown (mvT hZ (own_w hw 26 rfl)) (mvT hZ (own_w hw 27 rfl)) (mvT hZ (own_w hw 4 rfl)) (mvT hZ (own_w hw 28 rfl)) (by decide) (backOfS (W := 0) (rm34 l Z a0 hw [] b227 k228 z2 z4 z6 v229 v230 v231 T245.heap n0 O245 g_b227 OV234 (by have q0 := bz2; omega) (by have q0 := bz4; omega) (by have q0 := bz6; omega) f252 f237 f238 f239 f240 f241 f242) hZ (own_w hw 28 rfl) (own_w hw 4 rfl) (by decide) (by decide)) (g := (mkF m 138 #[.val (.int p1), .val (.int p2), .val (.int 3), .val (.int z2), .val (.int z4), .val (.int z6), .val (.int z8), .val (.ref b215), .val (.ref b227), .val (.ref b246), .unset] [(.int 1), (.ref b227)])) rfl (by rw [hml]; rfl) (argsL := [(.ref b227), (.int 1)]) (rest := []) (lenOf pd2 rfl) rfl (by show 2 * 0 + _ ≤ _; exact Nat.le_of_eq rfl) (hb hby at_138) (fun _ _ => ⟨rfl, rfl, (by decide : 7 + 3 ≤ _), (by decide : 121 + 59 ≤ _)⟩)
          dsimp only [Pt.U, Pt.locs, Pt.cells, Pt.slots] at X254 l254 y254 z254 st254 hQ254
          subst l254 y254 z254
          have hS254 : s.Since T254.vm T254.heap.size := foldS (T := T245) hS245 (Nat.le_refl _) hSn254 hgr254
          have hown : (s.setVm T254.vm).vm.findClass "com/example/castless/castless/PrimitiveArraysBoxPinLaw" = some m.cls := by rw [show (s.setVm T254.vm).vm = T254.vm from rfl, hSn254.1.alike.findClass]; exact hown
          have hZ := State.Warmed39.trans (t := (s.setVm T245.vm)) hZ hSn254.1
          have X254 : Stand p l e room_1 (s.setVm T254.vm) m #[(.int p1), (.int p2)] below meth c T254 _ 10 180 := X254
          obtain ⟨b255, k256, rfl, Nq257, K258, sz_b255, f259, f260⟩ := hQ254
          have N254 := Fr.app N245 Nq257
          have g_b255 : n0 ≤ b255 := Nat.le_trans (own_oz O245) sz_b255
          have M254 : h0.size ≤ T254.heap.size := Nat.le_trans M245 K258.1
          have O254 := Old.keep O245 K258 all0
          have f261 := (f250.keep K258 nin0)
          obtain ⟨cl262, Ar262, qa262, Sa262, Na262, Ha262, Ga262⟩ := id (f261)
          obtain ⟨cl263, Ar263, qa263, Sa263, Na263, Ha263, Ga263⟩ := id (f259)
          have f264 := (((V224.keep K233 nin0).keep K249 nin0).keep K258 nin0)
          obtain ⟨_, T265, L265, X265, hQ265, st265⟩ := own_cs X254 hx hZ hown (y := yn3) (own_w hw 36 rfl) (own_w hw 37 rfl) (own_w hw 39 rfl) (own_w hw 38 rfl) rfl (argsL := [(.ref b215), (.ref b246), (.ref b255), (.int 0), (.int 3), (.int z2)]) (rest := []) (rm35 l Z a0 hw [] b215 b246 b255 z2 z2 z4 z6 z2 z4 z6 z2 z4 z6 k215 k247 k256 T254.heap n0 O254 g_b215 g_b246 g_b255 (by have q0 := bz2; omega) (by have q0 := bz2; omega) (by have q0 := bz4; omega) (by have q0 := bz6; omega) (by have q0 := bz2; omega) (by have q0 := bz4; omega) (by have q0 := bz6; omega) (by have q0 := bz2; omega) (by have q0 := bz4; omega) (by have q0 := bz6; omega) f264 f261 f259) (g := (mkF m 178 #[.val (.int p1), .val (.int p2), .val (.int 3), .val (.int z2), .val (.int z4), .val (.int z6), .val (.int z8), .val (.ref b215), .val (.ref b227), .val (.ref b246), .val (.ref b255)] [(.int z2), (.int 3), (.int 0), (.ref b255), (.ref b246), (.ref b215)])) rfl (by rw [hml]; rfl) rfl (hb hby at_178) (lenOf pd3 rfl) (W := 0) (c1 := 10) (s1 := 180)
          have pre266 : ∀ t, Steps p.tables e below (T254.setTop (mkF m 178 #[.val (.int p1), .val (.int p2), .val (.int 3), .val (.int z2), .val (.int z4), .val (.int z6), .val (.int z8), .val (.ref b215), .val (.ref b227), .val (.ref b246), .val (.ref b255)] [(.int z2), (.int 3), (.int 0), (.ref b255), (.ref b246), (.ref b215)])) t → Steps p.tables e below (s₁.setTop (entryFrame m #[(.int p1), (.int p2)] maxLocals)) t := fun t k => by
            refine pre253 _ ?_
            show Steps p.tables e below (T245.setTop (mkF m 138 #[.val (.int p1), .val (.int p2), .val (.int 3), .val (.int z2), .val (.int z4), .val (.int z6), .val (.int z8), .val (.ref b215), .val (.ref b227), .val (.ref b246), .unset] [(.int 1), (.ref b227)])) _
            refine st254.trans ?_
            refine XS.astore X254.here hx rfl (hb hby at_141) rfl rfl (l' := #[.val (.int p1), .val (.int p2), .val (.int 3), .val (.int z2), .val (.int z4), .val (.int z6), .val (.int z8), .val (.ref b215), .val (.ref b227), .val (.ref b246), .val (.ref b255)]) rfl ?_
            refine XS.aload X254.here hx rfl (hb hby at_143) rfl rfl ?_
            refine XS.ifnullNo X254.here hx rfl (hb hby at_145) rfl ?_
            refine XS.aload X254.here hx rfl (hb hby at_148) rfl rfl ?_
            refine XS.ifnullNo X254.here hx rfl (hb hby at_150) rfl ?_
            refine XS.aload X254.here hx rfl (hb hby at_153) rfl rfl ?_
            refine X254.arraylength hx Ar262.1 (State.isArrayOf_alike hZ.alike Ar262.2.1) (g := (mkF m 155 #[.val (.int p1), .val (.int p2), .val (.int 3), .val (.int z2), .val (.int z4), .val (.int z6), .val (.int z8), .val (.ref b215), .val (.ref b227), .val (.ref b246), .val (.ref b255)] [(.ref b246)])) rfl rfl (hb hby at_155) _ ?_
            rw [len_of Sa262 Na262]
            refine XS.iloadN X254.here hx rfl (hb hby at_156) rfl ?_
            refine XS.icmpNo X254.here hx rfl (hb hby at_157) rfl (teq (by decide : (3 : Int32) = (3 : Int32))).2 ?_
            refine XS.aload X254.here hx rfl (hb hby at_160) rfl rfl ?_
            refine X254.arraylength hx Ar263.1 (State.isArrayOf_alike hZ.alike Ar263.2.1) (g := (mkF m 162 #[.val (.int p1), .val (.int p2), .val (.int 3), .val (.int z2), .val (.int z4), .val (.int z6), .val (.int z8), .val (.ref b215), .val (.ref b227), .val (.ref b246), .val (.ref b255)] [(.ref b255)])) rfl rfl (hb hby at_162) _ ?_
            rw [len_of Sa263 Na263]
            refine XS.iloadN X254.here hx rfl (hb hby at_163) rfl ?_
            refine XS.icmpYes X254.here hx rfl (pc0 := 164) (pc' := 169) rfl (hb hby at_164) rfl (teq (by decide : (3 : Int32) = (3 : Int32))).1 (by decide) (by decide) ?_
            refine XS.aload X254.here hx rfl (hb hby at_169) rfl rfl ?_
            refine XS.aload X254.here hx rfl (hb hby at_171) rfl rfl ?_
            refine XS.aload X254.here hx rfl (hb hby at_173) rfl rfl ?_
            show Steps p.tables e below (T254.setTop (mkF m 175 #[.val (.int p1), .val (.int p2), .val (.int 3), .val (.int z2), .val (.int z4), .val (.int z6), .val (.int z8), .val (.ref b215), .val (.ref b227), .val (.ref b246), .val (.ref b255)] [(.ref b255), (.ref b246), (.ref b215)])) _
            refine XS.iconst X254.here hx rfl (hb hby at_175) ?_
            refine XS.iloadN X254.here hx rfl (hb hby at_176) rfl ?_
            refine XS.iloadN X254.here hx rfl (hb hby at_177) rfl ?_
            exact k
          rcases hQ265 with ⟨hc267, hc268, hc269, rfl, Nq270, e271⟩ | ⟨hc272, hc273, hc274, rfl, Nq275, e276⟩ | ⟨hc277, hc278, rfl, Nq279, e280⟩ | ⟨hc281, rfl, Nq282, e283⟩
          ·
            have N265 := Fr.app N254 Nq270
            obtain ⟨_, T284, L284, X284, hQ284, st284⟩ := own_cs X265 hx hZ hown (y := yn3) (own_w hw 36 rfl) (own_w hw 37 rfl) (own_w hw 39 rfl) (own_w hw 38 rfl) e271 (argsL := [(.ref b215), (.ref b246), (.ref b255), (.int 1), (.int 3), (.int z4)]) (rest := []) (rm36 l Z a0 hw [] b215 b246 b255 z4 z2 z4 z6 z2 z4 z6 z2 z4 z6 k215 k247 k256 T254.heap n0 O254 g_b215 g_b246 g_b255 (by have q0 := bz4; omega) (by have q0 := bz2; omega) (by have q0 := bz4; omega) (by have q0 := bz6; omega) (by have q0 := bz2; omega) (by have q0 := bz4; omega) (by have q0 := bz6; omega) (by have q0 := bz2; omega) (by have q0 := bz4; omega) (by have q0 := bz6; omega) f264 f261 f259) (g := (mkF m 194 #[.val (.int p1), .val (.int p2), .val (.int 3), .val (.int z2), .val (.int z4), .val (.int z6), .val (.int z8), .val (.ref b215), .val (.ref b227), .val (.ref b246), .val (.ref b255)] [(.int z4), (.int 3), (.int 1), (.ref b255), (.ref b246), (.ref b215)])) rfl (by rw [hml]; rfl) rfl (hb hby at_194) (lenOf pd3 rfl) (W := 0) (c1 := 10) (s1 := 180)
            have pre285 : ∀ t, Steps p.tables e below (T265.setTop (mkF m 194 #[.val (.int p1), .val (.int p2), .val (.int 3), .val (.int z2), .val (.int z4), .val (.int z6), .val (.int z8), .val (.ref b215), .val (.ref b227), .val (.ref b246), .val (.ref b255)] [(.int z4), (.int 3), (.int 1), (.ref b255), (.ref b246), (.ref b215)])) t → Steps p.tables e below (s₁.setTop (entryFrame m #[(.int p1), (.int p2)] maxLocals)) t := fun t k => by
              refine pre266 _ ?_
              show Steps p.tables e below (T254.setTop (mkF m 178 #[.val (.int p1), .val (.int p2), .val (.int 3), .val (.int z2), .val (.int z4), .val (.int z6), .val (.int z8), .val (.ref b215), .val (.ref b227), .val (.ref b246), .val (.ref b255)] [(.int z2), (.int 3), (.int 0), (.ref b255), (.ref b246), (.ref b215)])) _
              refine st265 _ ?_
              refine XS.ifNo X265.here hx rfl (hb hby at_181) rfl ((if0 _ _).trans (feq (by decide : ¬ ((1 : Int32) = (0 : Int32)))).1) ?_
              refine XS.aload X265.here hx rfl (hb hby at_184) rfl rfl ?_
              refine XS.aload X265.here hx rfl (hb hby at_186) rfl rfl ?_
              refine XS.aload X265.here hx rfl (hb hby at_188) rfl rfl ?_
              refine XS.iconst X265.here hx rfl (hb hby at_190) ?_
              refine XS.iloadN X265.here hx rfl (hb hby at_191) rfl ?_
              refine XS.iload X265.here hx rfl (hb hby at_192) rfl ?_
              exact k
            rcases hQ284 with ⟨hc286, hc287, hc288, rfl, Nq289, e290⟩ | ⟨hc291, hc292, hc293, rfl, Nq294, e295⟩ | ⟨hc296, hc297, rfl, Nq298, e299⟩ | ⟨hc300, rfl, Nq301, e302⟩
            ·
              have N284 := Fr.app N265 Nq289
              obtain ⟨_, T303, L303, X303, hQ303, st303⟩ := own_cs X284 hx hZ hown (y := yn3) (own_w hw 36 rfl) (own_w hw 37 rfl) (own_w hw 39 rfl) (own_w hw 38 rfl) e290 (argsL := [(.ref b215), (.ref b246), (.ref b255), (.int 2), (.int 3), (.int z6)]) (rest := []) (rm37 l Z a0 hw [] b215 b246 b255 z6 z2 z4 z6 z2 z4 z6 z2 z4 z6 k215 k247 k256 T254.heap n0 O254 g_b215 g_b246 g_b255 (by have q0 := bz6; omega) (by have q0 := bz2; omega) (by have q0 := bz4; omega) (by have q0 := bz6; omega) (by have q0 := bz2; omega) (by have q0 := bz4; omega) (by have q0 := bz6; omega) (by have q0 := bz2; omega) (by have q0 := bz4; omega) (by have q0 := bz6; omega) f264 f261 f259) (g := (mkF m 210 #[.val (.int p1), .val (.int p2), .val (.int 3), .val (.int z2), .val (.int z4), .val (.int z6), .val (.int z8), .val (.ref b215), .val (.ref b227), .val (.ref b246), .val (.ref b255)] [(.int z6), (.int 3), (.int 2), (.ref b255), (.ref b246), (.ref b215)])) rfl (by rw [hml]; rfl) rfl (hb hby at_210) (lenOf pd3 rfl) (W := 0) (c1 := 10) (s1 := 180)
              have pre304 : ∀ t, Steps p.tables e below (T284.setTop (mkF m 210 #[.val (.int p1), .val (.int p2), .val (.int 3), .val (.int z2), .val (.int z4), .val (.int z6), .val (.int z8), .val (.ref b215), .val (.ref b227), .val (.ref b246), .val (.ref b255)] [(.int z6), (.int 3), (.int 2), (.ref b255), (.ref b246), (.ref b215)])) t → Steps p.tables e below (s₁.setTop (entryFrame m #[(.int p1), (.int p2)] maxLocals)) t := fun t k => by
                refine pre285 _ ?_
                show Steps p.tables e below (T265.setTop (mkF m 194 #[.val (.int p1), .val (.int p2), .val (.int 3), .val (.int z2), .val (.int z4), .val (.int z6), .val (.int z8), .val (.ref b215), .val (.ref b227), .val (.ref b246), .val (.ref b255)] [(.int z4), (.int 3), (.int 1), (.ref b255), (.ref b246), (.ref b215)])) _
                refine st284 _ ?_
                refine XS.ifNo X284.here hx rfl (hb hby at_197) rfl ((if0 _ _).trans (feq (by decide : ¬ ((1 : Int32) = (0 : Int32)))).1) ?_
                refine XS.aload X284.here hx rfl (hb hby at_200) rfl rfl ?_
                refine XS.aload X284.here hx rfl (hb hby at_202) rfl rfl ?_
                refine XS.aload X284.here hx rfl (hb hby at_204) rfl rfl ?_
                refine XS.iconst X284.here hx rfl (hb hby at_206) ?_
                refine XS.iloadN X284.here hx rfl (hb hby at_207) rfl ?_
                refine XS.iload X284.here hx rfl (hb hby at_208) rfl ?_
                exact k
              rcases hQ303 with ⟨hc305, hc306, hc307, rfl, Nq308, e309⟩ | ⟨hc310, hc311, hc312, rfl, Nq313, e314⟩ | ⟨hc315, hc316, rfl, Nq317, e318⟩ | ⟨hc319, rfl, Nq320, e321⟩
              ·
                have N303 := Fr.app N284 Nq308
                obtain ⟨_, T322, L322, X322, hQ322, st322⟩ := own_cs X303 hx hZ hown (y := yn3) (own_w hw 36 rfl) (own_w hw 37 rfl) (own_w hw 39 rfl) (own_w hw 38 rfl) e309 (argsL := [(.ref b215), (.ref b246), (.ref b255), (.int 3), (.int 3), (.int z8)]) (rest := []) (rm38 l Z a0 hw [] b215 b246 b255 z8 z2 z4 z6 z2 z4 z6 z2 z4 z6 T254.heap n0 O254 g_b215 g_b246 g_b255 (by have q0 := bz8; omega) (by have q0 := bz2; omega) (by have q0 := bz4; omega) (by have q0 := bz6; omega) (by have q0 := bz2; omega) (by have q0 := bz4; omega) (by have q0 := bz6; omega) (by have q0 := bz2; omega) (by have q0 := bz4; omega) (by have q0 := bz6; omega)) (g := (mkF m 226 #[.val (.int p1), .val (.int p2), .val (.int 3), .val (.int z2), .val (.int z4), .val (.int z6), .val (.int z8), .val (.ref b215), .val (.ref b227), .val (.ref b246), .val (.ref b255)] [(.int z8), (.int 3), (.int 3), (.ref b255), (.ref b246), (.ref b215)])) rfl (by rw [hml]; rfl) rfl (hb hby at_226) (lenOf pd3 rfl) (W := 0) (c1 := 10) (s1 := 180)
                obtain ⟨rfl, Nq323, e324⟩ := hQ322
                have N322 := Fr.app N303 Nq323
                obtain ⟨fs, hr, hrun, hended, hRE⟩ := X322.leaveW hS254 (by rw [e324]; exact (Nat.le_refl _)) (v := some (.int 1)) (fun h => by rw [hret] at h; cases h)
                refine ⟨_, _, pre304 _ ?_, hrun, hended, _, _, rfl, ?_, hRE.1, hRE.2.1, hRE.2.2.1, hRE.2.2.2.mono (by decide) (by decide)⟩
                ·
                  show Steps p.tables e below (T284.setTop (mkF m 210 #[.val (.int p1), .val (.int p2), .val (.int 3), .val (.int z2), .val (.int z4), .val (.int z6), .val (.int z8), .val (.ref b215), .val (.ref b227), .val (.ref b246), .val (.ref b255)] [(.int z6), (.int 3), (.int 2), (.ref b255), (.ref b246), (.ref b215)])) _
                  refine st303 _ ?_
                  refine XS.ifNo X303.here hx rfl (hb hby at_213) rfl ((if0 _ _).trans (feq (by decide : ¬ ((1 : Int32) = (0 : Int32)))).1) ?_
                  refine XS.aload X303.here hx rfl (hb hby at_216) rfl rfl ?_
                  refine XS.aload X303.here hx rfl (hb hby at_218) rfl rfl ?_
                  refine XS.aload X303.here hx rfl (hb hby at_220) rfl rfl ?_
                  refine XS.iconst X303.here hx rfl (hb hby at_222) ?_
                  refine XS.iloadN X303.here hx rfl (hb hby at_223) rfl ?_
                  refine XS.iload X303.here hx rfl (hb hby at_224) rfl ?_
                  refine st322 _ ?_
                  refine XS.ifNo X322.here hx rfl (hb hby at_229) rfl ((if0 _ _).trans (feq (by decide : ¬ ((1 : Int32) = (0 : Int32)))).1) ?_
                  refine XS.iconst X322.here hx rfl (hb hby at_232) ?_
                  refine XS.goto X322.here hx rfl (pc0 := 233) (pc' := 237) rfl (hb hby at_233) (by decide) (by decide) ?_
                  show Steps p.tables e below (T322.setTop (mkF m 237 #[.val (.int p1), .val (.int p2), .val (.int 3), .val (.int z2), .val (.int z4), .val (.int z6), .val (.int z8), .val (.ref b215), .val (.ref b227), .val (.ref b246), .val (.ref b255)] [(.int 1)])) _
                  exact retN X322 hx (t := .boolean) hret (by simp) (hb hby at_237) hr
                ·
                  show Q0 n0 _ T322.heap _
                  rw [e324]
                  exact ⟨rfl, N322⟩
              ·
                exact absurd (rfl : z6 = z6) hc312
              ·
                exact absurd (rfl : z6 = z6) hc316
              ·
                exact absurd (rfl : z6 = z6) hc319
            ·
              exact absurd (rfl : z4 = z4) hc293
            ·
              exact absurd (rfl : z4 = z4) hc297
            ·
              exact absurd (rfl : z4 = z4) hc300
          ·
            exact absurd (rfl : z2 = z2) hc274
          ·
            exact absurd (rfl : z2 = z2) hc278
          ·
            exact absurd (rfl : z2 = z2) hc281
        ·
          have hq325 : ((p2 &&& (2147483647 : Int32)) % (5 : Int32)) = (4 : Int32) := (own_geq (n := 4) (k := (4 : Int32)) (by decide) (by have q0 := own_rem (x := (p2 &&& (2147483647 : Int32))) (k := (5 : Int32)) (n := 5) (by decide) (by decide) (by have q0 := own_and (x := p2) (k := (2147483647 : Int32)) (n := 2147483647) (by decide) (by decide); omega); have q1 := own_neq (n := 0) (k := (0 : Int32)) (by decide) hc10; have q2 := own_neq (n := 1) (k := (1 : Int32)) (by decide) hc55; have q3 := own_neq (n := 2) (k := (2 : Int32)) (by decide) hc123; have q4 := own_neq (n := 3) (k := (3 : Int32)) (by decide) hc213; omega))
          have pre326 : ∀ t, Steps p.tables e below (s₁.setTop (mkF m 60 #[.val (.int p1), .val (.int p2), .val (.int 4), .val (.int z2), .val (.int z4), .val (.int z6), .val (.int z8), .unset, .unset, .unset, .unset] [(.int 4)])) t → Steps p.tables e below (s₁.setTop (entryFrame m #[(.int p1), (.int p2)] maxLocals)) t := fun t k => pre9 t (by rw [hq325]; exact k)
          obtain ⟨T327, h327, k327, X327, e327, E327, A327, EX327, st327⟩ := newPE X0 hx hZ (own_w hw 1 rfl) e0 (g := (mkF m 60 #[.val (.int p1), .val (.int p2), .val (.int 4), .val (.int z2), .val (.int z4), .val (.int z6), .val (.int z8), .unset, .unset, .unset, .unset] [(.int 4)])) rfl (hb hby at_60) rfl (by decide) (cap := 4) (by decide) (by decide) (by decide) (by decide) (ad := "[Z") (by decide)
          obtain ⟨b327, g327⟩ : ∃ z, z = h0.size := ⟨_, rfl⟩
          rw [← g327] at A327 EX327 st327
          have M327 : h0.size ≤ h327.size := Nat.le_trans (Nat.le_refl _) E327.1
          have O327 := Old.ext O0 E327
          have sz_b327 : h0.size ≤ b327 := Nat.le_of_eq g327.symm
          have g_b327 : n0 ≤ b327 := Nat.le_trans (own_oz O0) (Nat.le_trans (Nat.le_refl _) sz_b327)
          have V327_0 := Arv.new A327 (by decide)
          have V327 : Arv Z h327 b327 k327 .boolean (4 : Int32) [(.int 0), (.int 0), (.int 0), (.int 0)] (.int 0) := V327_0.pad (pad_rep [] (.int 0) 4)
          obtain ⟨cl328, Ar328, qa328, Sa328, Na328, Ha328, Ga328⟩ := id (V327)
          have hin328 : ¬ ((0 : Int32) < 0 ∨ cl328.slots.size ≤ ((0 : Int32)).toNatClampNeg) := inb_of Sa328 ⟨by decide, by decide⟩
          have hbz329 : 0 ≤ z2.toInt ∧ z2.toInt ≤ 1 := by have q0 := bz2; omega
          obtain ⟨T330, h330, X330, e330, W330, st330⟩ := stZ X327 hx hZ e327 Ar328 (j := (0 : Int32)) hin328 (g := (mkF m 72 #[.val (.int p1), .val (.int p2), .val (.int 4), .val (.int z2), .val (.int z4), .val (.int z6), .val (.int z8), .val (.ref b327), .unset, .unset, .unset] [(.int z2), (.int 0), (.ref b327)])) rfl rfl (hb hby at_72)
          rw [own_nz hbz329] at W330
          have V330 : Arv Z h330 b327 k327 .boolean (4 : Int32) [(.int z2), (.int 0), (.int 0), (.int 0)] (.int 0) := Arv.set Ar328 qa328 Sa328 Na328 Ha328 Ga328 (own_fz hbz329) W330 0 rfl (Nat.le_of_ble_eq_true rfl)
          have N330 := Fr.snoc X330 N0 g_b327
          have M330 : h0.size ≤ h330.size := Nat.le_trans M327 (Nat.le_of_eq W330.size.symm)
          have O330 := Old.wr O327 W330 g_b327
          obtain ⟨cl331, Ar331, qa331, Sa331, Na331, Ha331, Ga331⟩ := id (V330)
          have hin331 : ¬ ((1 : Int32) < 0 ∨ cl331.slots.size ≤ ((1 : Int32)).toNatClampNeg) := inb_of Sa331 ⟨by decide, by decide⟩
          have hbz332 : 0 ≤ z4.toInt ∧ z4.toInt ≤ 1 := by have q0 := bz4; omega
          obtain ⟨T333, h333, X333, e333, W333, st333⟩ := stZ X330 hx hZ e330 Ar331 (j := (1 : Int32)) hin331 (g := (mkF m 83 #[.val (.int p1), .val (.int p2), .val (.int 4), .val (.int z2), .val (.int z4), .val (.int z6), .val (.int z8), .val (.ref b327), .unset, .unset, .unset] [(.int z4), (.int 1), (.ref b327)])) rfl rfl (hb hby at_83)
          rw [own_nz hbz332] at W333
          have V333 : Arv Z h333 b327 k327 .boolean (4 : Int32) [(.int z2), (.int z4), (.int 0), (.int 0)] (.int 0) := Arv.set Ar331 qa331 Sa331 Na331 Ha331 Ga331 (own_fz hbz332) W333 1 rfl (Nat.le_of_ble_eq_true rfl)
          have N333 := Fr.snoc X333 N330 g_b327
          have M333 : h0.size ≤ h333.size := Nat.le_trans M330 (Nat.le_of_eq W333.size.symm)
          have O333 := Old.wr O330 W333 g_b327
          obtain ⟨cl334, Ar334, qa334, Sa334, Na334, Ha334, Ga334⟩ := id (V333)
          have hin334 : ¬ ((2 : Int32) < 0 ∨ cl334.slots.size ≤ ((2 : Int32)).toNatClampNeg) := inb_of Sa334 ⟨by decide, by decide⟩
          have hbz335 : 0 ≤ z6.toInt ∧ z6.toInt ≤ 1 := by have q0 := bz6; omega
          obtain ⟨T336, h336, X336, e336, W336, st336⟩ := stZ X333 hx hZ e333 Ar334 (j := (2 : Int32)) hin334 (g := (mkF m 94 #[.val (.int p1), .val (.int p2), .val (.int 4), .val (.int z2), .val (.int z4), .val (.int z6), .val (.int z8), .val (.ref b327), .unset, .unset, .unset] [(.int z6), (.int 2), (.ref b327)])) rfl rfl (hb hby at_94)
          rw [own_nz hbz335] at W336
          have V336 : Arv Z h336 b327 k327 .boolean (4 : Int32) [(.int z2), (.int z4), (.int z6), (.int 0)] (.int 0) := Arv.set Ar334 qa334 Sa334 Na334 Ha334 Ga334 (own_fz hbz335) W336 2 rfl (Nat.le_of_ble_eq_true rfl)
          have N336 := Fr.snoc X336 N333 g_b327
          have M336 : h0.size ≤ h336.size := Nat.le_trans M333 (Nat.le_of_eq W336.size.symm)
          have O336 := Old.wr O333 W336 g_b327
          obtain ⟨cl337, Ar337, qa337, Sa337, Na337, Ha337, Ga337⟩ := id (V336)
          have hin337 : ¬ ((3 : Int32) < 0 ∨ cl337.slots.size ≤ ((3 : Int32)).toNatClampNeg) := inb_of Sa337 ⟨by decide, by decide⟩
          have hbz338 : 0 ≤ z8.toInt ∧ z8.toInt ≤ 1 := by have q0 := bz8; omega
          obtain ⟨T339, h339, X339, e339, W339, st339⟩ := stZ X336 hx hZ e336 Ar337 (j := (3 : Int32)) hin337 (g := (mkF m 105 #[.val (.int p1), .val (.int p2), .val (.int 4), .val (.int z2), .val (.int z4), .val (.int z6), .val (.int z8), .val (.ref b327), .unset, .unset, .unset] [(.int z8), (.int 3), (.ref b327)])) rfl rfl (hb hby at_105)
          rw [own_nz hbz338] at W339
          have V339 : Arv Z h339 b327 k327 .boolean (4 : Int32) [(.int z2), (.int z4), (.int z6), (.int z8)] (.int 0) := Arv.set Ar337 qa337 Sa337 Na337 Ha337 Ga337 (own_fz hbz338) W339 3 rfl (Nat.le_of_ble_eq_true rfl)
          have N339 := Fr.snoc X339 N336 g_b327
          have M339 : h0.size ≤ h339.size := Nat.le_trans M336 (Nat.le_of_eq W339.size.symm)
          have O339 := Old.wr O336 W339 g_b327
          have pre340 : ∀ t, Steps p.tables e below (T339.setTop (mkF m 108 #[.val (.int p1), .val (.int p2), .val (.int 4), .val (.int z2), .val (.int z4), .val (.int z6), .val (.int z8), .val (.ref b327), .unset, .unset, .unset] [(.ref b327)])) t → Steps p.tables e below (s₁.setTop (entryFrame m #[(.int p1), (.int p2)] maxLocals)) t := fun t k => by
            refine pre326 _ ?_
            show Steps p.tables e below (s₁.setTop (mkF m 60 #[.val (.int p1), .val (.int p2), .val (.int 4), .val (.int z2), .val (.int z4), .val (.int z6), .val (.int z8), .unset, .unset, .unset, .unset] [(.int 4)])) _
            refine st327 _ ?_
            refine XS.astore X327.here hx rfl (hb hby at_62) rfl rfl (l' := #[.val (.int p1), .val (.int p2), .val (.int 4), .val (.int z2), .val (.int z4), .val (.int z6), .val (.int z8), .val (.ref b327), .unset, .unset, .unset]) rfl ?_
            refine XS.iloadN X327.here hx rfl (hb hby at_64) rfl ?_
            refine XS.ifNo X327.here hx rfl (hb hby at_65) rfl ((if0 _ _).trans (tlt (by decide : (0 : Int32) < (4 : Int32))).2.2.2) ?_
            refine XS.aload X327.here hx rfl (hb hby at_68) rfl rfl ?_
            refine XS.iconst X327.here hx rfl (hb hby at_70) ?_
            refine XS.iloadN X327.here hx rfl (hb hby at_71) rfl ?_
            refine st330 _ ?_
            refine XS.iloadN X330.here hx rfl (hb hby at_73) rfl ?_
            refine XS.iconst X330.here hx rfl (hb hby at_74) ?_
            refine XS.icmpNo X330.here hx rfl (hb hby at_75) rfl (tlt (by decide : (1 : Int32) < (4 : Int32))).2.2.2 ?_
            refine XS.aload X330.here hx rfl (hb hby at_78) rfl rfl ?_
            refine XS.iconst X330.here hx rfl (hb hby at_80) ?_
            refine XS.iload X330.here hx rfl (hb hby at_81) rfl ?_
            refine st333 _ ?_
            refine XS.iloadN X333.here hx rfl (hb hby at_84) rfl ?_
            refine XS.iconst X333.here hx rfl (hb hby at_85) ?_
            show Steps p.tables e below (T333.setTop (mkF m 86 #[.val (.int p1), .val (.int p2), .val (.int 4), .val (.int z2), .val (.int z4), .val (.int z6), .val (.int z8), .val (.ref b327), .unset, .unset, .unset] [(.int 2), (.int 4)])) _
            refine XS.icmpNo X333.here hx rfl (hb hby at_86) rfl (tlt (by decide : (2 : Int32) < (4 : Int32))).2.2.2 ?_
            refine XS.aload X333.here hx rfl (hb hby at_89) rfl rfl ?_
            refine XS.iconst X333.here hx rfl (hb hby at_91) ?_
            refine XS.iload X333.here hx rfl (hb hby at_92) rfl ?_
            refine st336 _ ?_
            refine XS.iloadN X336.here hx rfl (hb hby at_95) rfl ?_
            refine XS.iconst X336.here hx rfl (hb hby at_96) ?_
            refine XS.icmpNo X336.here hx rfl (hb hby at_97) rfl (tlt (by decide : (3 : Int32) < (4 : Int32))).2.2.2 ?_
            refine XS.aload X336.here hx rfl (hb hby at_100) rfl rfl ?_
            refine XS.iconst X336.here hx rfl (hb hby at_102) ?_
            refine XS.iload X336.here hx rfl (hb hby at_103) rfl ?_
            refine st339 _ ?_
            refine XS.aload X339.here hx rfl (hb hby at_106) rfl rfl ?_
            exact k
          obtain ⟨_, _, ⟨T341, L341, c341, n341⟩, -, X341, hSn341, hgr341, ⟨Lc341, hQ341, l341, y341, z341⟩, st341⟩ := callSS X339 hx (y := yn1) hown (mvT hZ (own_w hw 2 rfl)) (mvT hZ (own_w hw 3 rfl)) (mvT hZ (own_w hw 4 rfl)) (mvT hZ (own_w hw 5 rfl)) (by decide) (backOfS (W := 0) (rm40 l Z a0 hw w1 w2 G [] b327 z2 z4 z6 z8 k327 h339 n0 O339 g_b327 (by have q0 := bz2; omega) (by have q0 := bz4; omega) (by have q0 := bz6; omega) (by have q0 := bz8; omega) V339) hZ (own_w hw 5 rfl) (own_w hw 4 rfl) (by decide) (by decide)) (g := (mkF m 108 #[.val (.int p1), .val (.int p2), .val (.int 4), .val (.int z2), .val (.int z4), .val (.int z6), .val (.int z8), .val (.ref b327), .unset, .unset, .unset] [(.ref b327)])) rfl (by rw [hml]; rfl) (argsL := [(.ref b327)]) (rest := []) (lenOf pd1 rfl) rfl (by show 2 * 0 + _ ≤ _; exact Nat.le_of_eq rfl) (hb hby at_108) (fun _ _ => ⟨rfl, e339, (by decide : 1 + 3 ≤ _), (by decide : 4 + 60 ≤ _)⟩)
          dsimp only [Pt.U, Pt.locs, Pt.cells, Pt.slots] at X341 l341 y341 z341 st341 hQ341
          subst l341 y341 z341
          have hS341 : s.Since T341.vm T341.heap.size := hSn341
          have hZ := State.Warmed39.trans (t := s) hZ hS341.1
          have hown : (s.setVm T341.vm).vm.findClass "com/example/castless/castless/PrimitiveArraysBoxPinLaw" = some m.cls := by rw [show (s.setVm T341.vm).vm = T341.vm from rfl, hS341.1.alike.findClass]; exact hown
          have X341 : Stand p l e room_1 (s.setVm T341.vm) m #[(.int p1), (.int p2)] below meth c T341 _ 4 64 := X341
          obtain ⟨b342, k343, v344, v345, v346, v347, rfl, Nq348, K349, sz_b342, OV350, f351, f352, f353, f354, f355, f356, f357, f358, f359, f360⟩ := hQ341
          have N341 := Fr.app N339 Nq348
          have g_b342 : n0 ≤ b342 := Nat.le_trans (own_oz O339) sz_b342
          have M341 : h0.size ≤ T341.heap.size := Nat.le_trans M339 K349.1
          have O341 := Old.keep O339 K349 all0
          obtain ⟨cl361, Ar361, qa361, Sa361, Na361, Ha361, Ga361⟩ := id (f351)
          have pre362 : ∀ t, Steps p.tables e below (T341.setTop (mkF m 130 #[.val (.int p1), .val (.int p2), .val (.int 4), .val (.int z2), .val (.int z4), .val (.int z6), .val (.int z8), .val (.ref b327), .val (.ref b342), .unset, .unset] [(.int 0), (.ref b342)])) t → Steps p.tables e below (s₁.setTop (entryFrame m #[(.int p1), (.int p2)] maxLocals)) t := fun t k => by
            refine pre340 _ ?_
            show Steps p.tables e below (T339.setTop (mkF m 108 #[.val (.int p1), .val (.int p2), .val (.int 4), .val (.int z2), .val (.int z4), .val (.int z6), .val (.int z8), .val (.ref b327), .unset, .unset, .unset] [(.ref b327)])) _
            refine st341.trans ?_
            refine XS.astore X341.here hx rfl (hb hby at_111) rfl rfl (l' := #[.val (.int p1), .val (.int p2), .val (.int 4), .val (.int z2), .val (.int z4), .val (.int z6), .val (.int z8), .val (.ref b327), .val (.ref b342), .unset, .unset]) rfl ?_
            refine XS.aload X341.here hx rfl (hb hby at_113) rfl rfl ?_
            refine XS.ifnullNo X341.here hx rfl (hb hby at_115) rfl ?_
            refine XS.aload X341.here hx rfl (hb hby at_118) rfl rfl ?_
            refine X341.arraylength hx Ar361.1 (State.isArrayOf_alike hZ.alike Ar361.2.1) (g := (mkF m 120 #[.val (.int p1), .val (.int p2), .val (.int 4), .val (.int z2), .val (.int z4), .val (.int z6), .val (.int z8), .val (.ref b327), .val (.ref b342), .unset, .unset] [(.ref b342)])) rfl rfl (hb hby at_120) _ ?_
            rw [len_of Sa361 Na361]
            refine XS.iloadN X341.here hx rfl (hb hby at_121) rfl ?_
            refine XS.icmpYes X341.here hx rfl (pc0 := 122) (pc' := 127) rfl (hb hby at_122) rfl (teq (by decide : (4 : Int32) = (4 : Int32))).1 (by decide) (by decide) ?_
            refine XS.aload X341.here hx rfl (hb hby at_127) rfl rfl ?_
            refine XS.iconst X341.here hx rfl (hb hby at_129) ?_
            exact k
          obtain ⟨_, _, ⟨T363, L363, c363, n363⟩, -, X363, hSn363, hgr363, ⟨Lc363, hQ363, l363, y363, z363⟩, st363⟩ := callSS X341 hx (y := yn2) hown (mvT hZ (own_w hw 26 rfl)) (mvT hZ (own_w hw 27 rfl)) (mvT hZ (own_w hw 4 rfl)) (mvT hZ (own_w hw 28 rfl)) (by decide) (backOfS (W := 0) (rm42 l Z a0 hw [] b342 k343 z2 z4 z6 z8 v344 v345 v346 v347 T341.heap n0 O341 g_b342 OV350 (by have q0 := bz2; omega) (by have q0 := bz4; omega) (by have q0 := bz6; omega) (by have q0 := bz8; omega) f351 f353 f354 f355 f356 f357 f358 f359 f360) hZ (own_w hw 28 rfl) (own_w hw 4 rfl) (by decide) (by decide)) (g := (mkF m 130 #[.val (.int p1), .val (.int p2), .val (.int 4), .val (.int z2), .val (.int z4), .val (.int z6), .val (.int z8), .val (.ref b327), .val (.ref b342), .unset, .unset] [(.int 0), (.ref b342)])) rfl (by rw [hml]; rfl) (argsL := [(.ref b342), (.int 0)]) (rest := []) (lenOf pd2 rfl) rfl (by show 2 * 0 + _ ≤ _; exact Nat.le_of_eq rfl) (hb hby at_130) (fun _ _ => ⟨rfl, rfl, (by decide : 4 + 3 ≤ _), (by decide : 64 + 60 ≤ _)⟩)
          dsimp only [Pt.U, Pt.locs, Pt.cells, Pt.slots] at X363 l363 y363 z363 st363 hQ363
          subst l363 y363 z363
          have hS363 : s.Since T363.vm T363.heap.size := foldS (T := T341) hS341 (Nat.le_refl _) hSn363 hgr363
          have hown : (s.setVm T363.vm).vm.findClass "com/example/castless/castless/PrimitiveArraysBoxPinLaw" = some m.cls := by rw [show (s.setVm T363.vm).vm = T363.vm from rfl, hSn363.1.alike.findClass]; exact hown
          have hZ := State.Warmed39.trans (t := (s.setVm T341.vm)) hZ hSn363.1
          have X363 : Stand p l e room_1 (s.setVm T363.vm) m #[(.int p1), (.int p2)] below meth c T363 _ 7 124 := X363
          obtain ⟨b364, k365, rfl, Nq366, K367, sz_b364, f368, f369⟩ := hQ363
          have N363 := Fr.app N341 Nq366
          have g_b364 : n0 ≤ b364 := Nat.le_trans (own_oz O341) sz_b364
          have M363 : h0.size ≤ T363.heap.size := Nat.le_trans M341 K367.1
          have O363 := Old.keep O341 K367 all0
          have f370 := (f351.keep K367 nin0)
          have pre371 : ∀ t, Steps p.tables e below (T363.setTop (mkF m 138 #[.val (.int p1), .val (.int p2), .val (.int 4), .val (.int z2), .val (.int z4), .val (.int z6), .val (.int z8), .val (.ref b327), .val (.ref b342), .val (.ref b364), .unset] [(.int 1), (.ref b342)])) t → Steps p.tables e below (s₁.setTop (entryFrame m #[(.int p1), (.int p2)] maxLocals)) t := fun t k => by
            refine pre362 _ ?_
            show Steps p.tables e below (T341.setTop (mkF m 130 #[.val (.int p1), .val (.int p2), .val (.int 4), .val (.int z2), .val (.int z4), .val (.int z6), .val (.int z8), .val (.ref b327), .val (.ref b342), .unset, .unset] [(.int 0), (.ref b342)])) _
            refine st363.trans ?_
            refine XS.astore X363.here hx rfl (hb hby at_133) rfl rfl (l' := #[.val (.int p1), .val (.int p2), .val (.int 4), .val (.int z2), .val (.int z4), .val (.int z6), .val (.int z8), .val (.ref b327), .val (.ref b342), .val (.ref b364), .unset]) rfl ?_
            refine XS.aload X363.here hx rfl (hb hby at_135) rfl rfl ?_
            refine XS.iconst X363.here hx rfl (hb hby at_137) ?_
            exact k
          obtain ⟨_, _, ⟨T372, L372, c372, n372⟩, -, X372, hSn372, hgr372, ⟨Lc372, hQ372, l372, y372, z372⟩, st372⟩ := callSS X363 hx (y := yn2) hown (mvT hZ (own_w hw 26 rfl)) (mvT hZ (own_w hw 27 rfl)) (mvT hZ (own_w hw 4 rfl)) (mvT hZ (own_w hw 28 rfl)) (by decide) (backOfS (W := 0) (rm43 l Z a0 hw [] b342 k343 z2 z4 z6 z8 v344 v345 v346 v347 T363.heap n0 O363 g_b342 OV350 (by have q0 := bz2; omega) (by have q0 := bz4; omega) (by have q0 := bz6; omega) (by have q0 := bz8; omega) f370 f353 f354 f355 f356 f357 f358 f359 f360) hZ (own_w hw 28 rfl) (own_w hw 4 rfl) (by decide) (by decide)) (g := (mkF m 138 #[.val (.int p1), .val (.int p2), .val (.int 4), .val (.int z2), .val (.int z4), .val (.int z6), .val (.int z8), .val (.ref b327), .val (.ref b342), .val (.ref b364), .unset] [(.int 1), (.ref b342)])) rfl (by rw [hml]; rfl) (argsL := [(.ref b342), (.int 1)]) (rest := []) (lenOf pd2 rfl) rfl (by show 2 * 0 + _ ≤ _; exact Nat.le_of_eq rfl) (hb hby at_138) (fun _ _ => ⟨rfl, rfl, (by decide : 7 + 3 ≤ _), (by decide : 124 + 60 ≤ _)⟩)
          dsimp only [Pt.U, Pt.locs, Pt.cells, Pt.slots] at X372 l372 y372 z372 st372 hQ372
          subst l372 y372 z372
          have hS372 : s.Since T372.vm T372.heap.size := foldS (T := T363) hS363 (Nat.le_refl _) hSn372 hgr372
          have hown : (s.setVm T372.vm).vm.findClass "com/example/castless/castless/PrimitiveArraysBoxPinLaw" = some m.cls := by rw [show (s.setVm T372.vm).vm = T372.vm from rfl, hSn372.1.alike.findClass]; exact hown
          have hZ := State.Warmed39.trans (t := (s.setVm T363.vm)) hZ hSn372.1
          have X372 : Stand p l e room_1 (s.setVm T372.vm) m #[(.int p1), (.int p2)] below meth c T372 _ 10 184 := X372
          obtain ⟨b373, k374, rfl, Nq375, K376, sz_b373, f377, f378⟩ := hQ372
          have N372 := Fr.app N363 Nq375
          have g_b373 : n0 ≤ b373 := Nat.le_trans (own_oz O363) sz_b373
          have M372 : h0.size ≤ T372.heap.size := Nat.le_trans M363 K376.1
          have O372 := Old.keep O363 K376 all0
          have f379 := (f368.keep K376 nin0)
          obtain ⟨cl380, Ar380, qa380, Sa380, Na380, Ha380, Ga380⟩ := id (f379)
          obtain ⟨cl381, Ar381, qa381, Sa381, Na381, Ha381, Ga381⟩ := id (f377)
          have f382 := (((V339.keep K349 nin0).keep K367 nin0).keep K376 nin0)
          obtain ⟨_, T383, L383, X383, hQ383, st383⟩ := own_cs X372 hx hZ hown (y := yn3) (own_w hw 36 rfl) (own_w hw 37 rfl) (own_w hw 39 rfl) (own_w hw 38 rfl) rfl (argsL := [(.ref b327), (.ref b364), (.ref b373), (.int 0), (.int 4), (.int z2)]) (rest := []) (rm44 l Z a0 hw [] b327 b364 b373 z2 z2 z4 z6 z8 z2 z4 z6 z8 z2 z4 z6 z8 k327 k365 k374 T372.heap n0 O372 g_b327 g_b364 g_b373 (by have q0 := bz2; omega) (by have q0 := bz2; omega) (by have q0 := bz4; omega) (by have q0 := bz6; omega) (by have q0 := bz8; omega) (by have q0 := bz2; omega) (by have q0 := bz4; omega) (by have q0 := bz6; omega) (by have q0 := bz8; omega) (by have q0 := bz2; omega) (by have q0 := bz4; omega) (by have q0 := bz6; omega) (by have q0 := bz8; omega) f382 f379 f377) (g := (mkF m 178 #[.val (.int p1), .val (.int p2), .val (.int 4), .val (.int z2), .val (.int z4), .val (.int z6), .val (.int z8), .val (.ref b327), .val (.ref b342), .val (.ref b364), .val (.ref b373)] [(.int z2), (.int 4), (.int 0), (.ref b373), (.ref b364), (.ref b327)])) rfl (by rw [hml]; rfl) rfl (hb hby at_178) (lenOf pd3 rfl) (W := 0) (c1 := 10) (s1 := 184)
          have pre384 : ∀ t, Steps p.tables e below (T372.setTop (mkF m 178 #[.val (.int p1), .val (.int p2), .val (.int 4), .val (.int z2), .val (.int z4), .val (.int z6), .val (.int z8), .val (.ref b327), .val (.ref b342), .val (.ref b364), .val (.ref b373)] [(.int z2), (.int 4), (.int 0), (.ref b373), (.ref b364), (.ref b327)])) t → Steps p.tables e below (s₁.setTop (entryFrame m #[(.int p1), (.int p2)] maxLocals)) t := fun t k => by
            refine pre371 _ ?_
            show Steps p.tables e below (T363.setTop (mkF m 138 #[.val (.int p1), .val (.int p2), .val (.int 4), .val (.int z2), .val (.int z4), .val (.int z6), .val (.int z8), .val (.ref b327), .val (.ref b342), .val (.ref b364), .unset] [(.int 1), (.ref b342)])) _
            refine st372.trans ?_
            refine XS.astore X372.here hx rfl (hb hby at_141) rfl rfl (l' := #[.val (.int p1), .val (.int p2), .val (.int 4), .val (.int z2), .val (.int z4), .val (.int z6), .val (.int z8), .val (.ref b327), .val (.ref b342), .val (.ref b364), .val (.ref b373)]) rfl ?_
            refine XS.aload X372.here hx rfl (hb hby at_143) rfl rfl ?_
            refine XS.ifnullNo X372.here hx rfl (hb hby at_145) rfl ?_
            refine XS.aload X372.here hx rfl (hb hby at_148) rfl rfl ?_
            refine XS.ifnullNo X372.here hx rfl (hb hby at_150) rfl ?_
            refine XS.aload X372.here hx rfl (hb hby at_153) rfl rfl ?_
            refine X372.arraylength hx Ar380.1 (State.isArrayOf_alike hZ.alike Ar380.2.1) (g := (mkF m 155 #[.val (.int p1), .val (.int p2), .val (.int 4), .val (.int z2), .val (.int z4), .val (.int z6), .val (.int z8), .val (.ref b327), .val (.ref b342), .val (.ref b364), .val (.ref b373)] [(.ref b364)])) rfl rfl (hb hby at_155) _ ?_
            rw [len_of Sa380 Na380]
            refine XS.iloadN X372.here hx rfl (hb hby at_156) rfl ?_
            refine XS.icmpNo X372.here hx rfl (hb hby at_157) rfl (teq (by decide : (4 : Int32) = (4 : Int32))).2 ?_
            refine XS.aload X372.here hx rfl (hb hby at_160) rfl rfl ?_
            refine X372.arraylength hx Ar381.1 (State.isArrayOf_alike hZ.alike Ar381.2.1) (g := (mkF m 162 #[.val (.int p1), .val (.int p2), .val (.int 4), .val (.int z2), .val (.int z4), .val (.int z6), .val (.int z8), .val (.ref b327), .val (.ref b342), .val (.ref b364), .val (.ref b373)] [(.ref b373)])) rfl rfl (hb hby at_162) _ ?_
            rw [len_of Sa381 Na381]
            refine XS.iloadN X372.here hx rfl (hb hby at_163) rfl ?_
            show Steps p.tables e below (T372.setTop (mkF m 164 #[.val (.int p1), .val (.int p2), .val (.int 4), .val (.int z2), .val (.int z4), .val (.int z6), .val (.int z8), .val (.ref b327), .val (.ref b342), .val (.ref b364), .val (.ref b373)] [(.int 4), (.int 4)])) _
            refine XS.icmpYes X372.here hx rfl (pc0 := 164) (pc' := 169) rfl (hb hby at_164) rfl (teq (by decide : (4 : Int32) = (4 : Int32))).1 (by decide) (by decide) ?_
            refine XS.aload X372.here hx rfl (hb hby at_169) rfl rfl ?_
            refine XS.aload X372.here hx rfl (hb hby at_171) rfl rfl ?_
            refine XS.aload X372.here hx rfl (hb hby at_173) rfl rfl ?_
            refine XS.iconst X372.here hx rfl (hb hby at_175) ?_
            refine XS.iloadN X372.here hx rfl (hb hby at_176) rfl ?_
            refine XS.iloadN X372.here hx rfl (hb hby at_177) rfl ?_
            exact k
          rcases hQ383 with ⟨hc385, hc386, hc387, rfl, Nq388, e389⟩ | ⟨hc390, hc391, hc392, rfl, Nq393, e394⟩ | ⟨hc395, hc396, rfl, Nq397, e398⟩ | ⟨hc399, rfl, Nq400, e401⟩
          ·
            have N383 := Fr.app N372 Nq388
            obtain ⟨_, T402, L402, X402, hQ402, st402⟩ := own_cs X383 hx hZ hown (y := yn3) (own_w hw 36 rfl) (own_w hw 37 rfl) (own_w hw 39 rfl) (own_w hw 38 rfl) e389 (argsL := [(.ref b327), (.ref b364), (.ref b373), (.int 1), (.int 4), (.int z4)]) (rest := []) (rm45 l Z a0 hw [] b327 b364 b373 z4 z2 z4 z6 z8 z2 z4 z6 z8 z2 z4 z6 z8 k327 k365 k374 T372.heap n0 O372 g_b327 g_b364 g_b373 (by have q0 := bz4; omega) (by have q0 := bz2; omega) (by have q0 := bz4; omega) (by have q0 := bz6; omega) (by have q0 := bz8; omega) (by have q0 := bz2; omega) (by have q0 := bz4; omega) (by have q0 := bz6; omega) (by have q0 := bz8; omega) (by have q0 := bz2; omega) (by have q0 := bz4; omega) (by have q0 := bz6; omega) (by have q0 := bz8; omega) f382 f379 f377) (g := (mkF m 194 #[.val (.int p1), .val (.int p2), .val (.int 4), .val (.int z2), .val (.int z4), .val (.int z6), .val (.int z8), .val (.ref b327), .val (.ref b342), .val (.ref b364), .val (.ref b373)] [(.int z4), (.int 4), (.int 1), (.ref b373), (.ref b364), (.ref b327)])) rfl (by rw [hml]; rfl) rfl (hb hby at_194) (lenOf pd3 rfl) (W := 0) (c1 := 10) (s1 := 184)
            have pre403 : ∀ t, Steps p.tables e below (T383.setTop (mkF m 194 #[.val (.int p1), .val (.int p2), .val (.int 4), .val (.int z2), .val (.int z4), .val (.int z6), .val (.int z8), .val (.ref b327), .val (.ref b342), .val (.ref b364), .val (.ref b373)] [(.int z4), (.int 4), (.int 1), (.ref b373), (.ref b364), (.ref b327)])) t → Steps p.tables e below (s₁.setTop (entryFrame m #[(.int p1), (.int p2)] maxLocals)) t := fun t k => by
              refine pre384 _ ?_
              show Steps p.tables e below (T372.setTop (mkF m 178 #[.val (.int p1), .val (.int p2), .val (.int 4), .val (.int z2), .val (.int z4), .val (.int z6), .val (.int z8), .val (.ref b327), .val (.ref b342), .val (.ref b364), .val (.ref b373)] [(.int z2), (.int 4), (.int 0), (.ref b373), (.ref b364), (.ref b327)])) _
              refine st383 _ ?_
              refine XS.ifNo X383.here hx rfl (hb hby at_181) rfl ((if0 _ _).trans (feq (by decide : ¬ ((1 : Int32) = (0 : Int32)))).1) ?_
              refine XS.aload X383.here hx rfl (hb hby at_184) rfl rfl ?_
              refine XS.aload X383.here hx rfl (hb hby at_186) rfl rfl ?_
              refine XS.aload X383.here hx rfl (hb hby at_188) rfl rfl ?_
              refine XS.iconst X383.here hx rfl (hb hby at_190) ?_
              refine XS.iloadN X383.here hx rfl (hb hby at_191) rfl ?_
              refine XS.iload X383.here hx rfl (hb hby at_192) rfl ?_
              exact k
            rcases hQ402 with ⟨hc404, hc405, hc406, rfl, Nq407, e408⟩ | ⟨hc409, hc410, hc411, rfl, Nq412, e413⟩ | ⟨hc414, hc415, rfl, Nq416, e417⟩ | ⟨hc418, rfl, Nq419, e420⟩
            ·
              have N402 := Fr.app N383 Nq407
              obtain ⟨_, T421, L421, X421, hQ421, st421⟩ := own_cs X402 hx hZ hown (y := yn3) (own_w hw 36 rfl) (own_w hw 37 rfl) (own_w hw 39 rfl) (own_w hw 38 rfl) e408 (argsL := [(.ref b327), (.ref b364), (.ref b373), (.int 2), (.int 4), (.int z6)]) (rest := []) (rm46 l Z a0 hw [] b327 b364 b373 z6 z2 z4 z6 z8 z2 z4 z6 z8 z2 z4 z6 z8 k327 k365 k374 T372.heap n0 O372 g_b327 g_b364 g_b373 (by have q0 := bz6; omega) (by have q0 := bz2; omega) (by have q0 := bz4; omega) (by have q0 := bz6; omega) (by have q0 := bz8; omega) (by have q0 := bz2; omega) (by have q0 := bz4; omega) (by have q0 := bz6; omega) (by have q0 := bz8; omega) (by have q0 := bz2; omega) (by have q0 := bz4; omega) (by have q0 := bz6; omega) (by have q0 := bz8; omega) f382 f379 f377) (g := (mkF m 210 #[.val (.int p1), .val (.int p2), .val (.int 4), .val (.int z2), .val (.int z4), .val (.int z6), .val (.int z8), .val (.ref b327), .val (.ref b342), .val (.ref b364), .val (.ref b373)] [(.int z6), (.int 4), (.int 2), (.ref b373), (.ref b364), (.ref b327)])) rfl (by rw [hml]; rfl) rfl (hb hby at_210) (lenOf pd3 rfl) (W := 0) (c1 := 10) (s1 := 184)
              have pre422 : ∀ t, Steps p.tables e below (T402.setTop (mkF m 210 #[.val (.int p1), .val (.int p2), .val (.int 4), .val (.int z2), .val (.int z4), .val (.int z6), .val (.int z8), .val (.ref b327), .val (.ref b342), .val (.ref b364), .val (.ref b373)] [(.int z6), (.int 4), (.int 2), (.ref b373), (.ref b364), (.ref b327)])) t → Steps p.tables e below (s₁.setTop (entryFrame m #[(.int p1), (.int p2)] maxLocals)) t := fun t k => by
                refine pre403 _ ?_
                show Steps p.tables e below (T383.setTop (mkF m 194 #[.val (.int p1), .val (.int p2), .val (.int 4), .val (.int z2), .val (.int z4), .val (.int z6), .val (.int z8), .val (.ref b327), .val (.ref b342), .val (.ref b364), .val (.ref b373)] [(.int z4), (.int 4), (.int 1), (.ref b373), (.ref b364), (.ref b327)])) _
                refine st402 _ ?_
                refine XS.ifNo X402.here hx rfl (hb hby at_197) rfl ((if0 _ _).trans (feq (by decide : ¬ ((1 : Int32) = (0 : Int32)))).1) ?_
                refine XS.aload X402.here hx rfl (hb hby at_200) rfl rfl ?_
                refine XS.aload X402.here hx rfl (hb hby at_202) rfl rfl ?_
                refine XS.aload X402.here hx rfl (hb hby at_204) rfl rfl ?_
                refine XS.iconst X402.here hx rfl (hb hby at_206) ?_
                refine XS.iloadN X402.here hx rfl (hb hby at_207) rfl ?_
                refine XS.iload X402.here hx rfl (hb hby at_208) rfl ?_
                exact k
              rcases hQ421 with ⟨hc423, hc424, hc425, rfl, Nq426, e427⟩ | ⟨hc428, hc429, hc430, rfl, Nq431, e432⟩ | ⟨hc433, hc434, rfl, Nq435, e436⟩ | ⟨hc437, rfl, Nq438, e439⟩
              ·
                have N421 := Fr.app N402 Nq426
                obtain ⟨_, T440, L440, X440, hQ440, st440⟩ := own_cs X421 hx hZ hown (y := yn3) (own_w hw 36 rfl) (own_w hw 37 rfl) (own_w hw 39 rfl) (own_w hw 38 rfl) e427 (argsL := [(.ref b327), (.ref b364), (.ref b373), (.int 3), (.int 4), (.int z8)]) (rest := []) (rm47 l Z a0 hw [] b327 b364 b373 z8 z2 z4 z6 z8 z2 z4 z6 z8 z2 z4 z6 z8 k327 k365 k374 T372.heap n0 O372 g_b327 g_b364 g_b373 (by have q0 := bz8; omega) (by have q0 := bz2; omega) (by have q0 := bz4; omega) (by have q0 := bz6; omega) (by have q0 := bz8; omega) (by have q0 := bz2; omega) (by have q0 := bz4; omega) (by have q0 := bz6; omega) (by have q0 := bz8; omega) (by have q0 := bz2; omega) (by have q0 := bz4; omega) (by have q0 := bz6; omega) (by have q0 := bz8; omega) f382 f379 f377) (g := (mkF m 226 #[.val (.int p1), .val (.int p2), .val (.int 4), .val (.int z2), .val (.int z4), .val (.int z6), .val (.int z8), .val (.ref b327), .val (.ref b342), .val (.ref b364), .val (.ref b373)] [(.int z8), (.int 4), (.int 3), (.ref b373), (.ref b364), (.ref b327)])) rfl (by rw [hml]; rfl) rfl (hb hby at_226) (lenOf pd3 rfl) (W := 0) (c1 := 10) (s1 := 184)
                have pre441 : ∀ t, Steps p.tables e below (T421.setTop (mkF m 226 #[.val (.int p1), .val (.int p2), .val (.int 4), .val (.int z2), .val (.int z4), .val (.int z6), .val (.int z8), .val (.ref b327), .val (.ref b342), .val (.ref b364), .val (.ref b373)] [(.int z8), (.int 4), (.int 3), (.ref b373), (.ref b364), (.ref b327)])) t → Steps p.tables e below (s₁.setTop (entryFrame m #[(.int p1), (.int p2)] maxLocals)) t := fun t k => by
                  refine pre422 _ ?_
                  show Steps p.tables e below (T402.setTop (mkF m 210 #[.val (.int p1), .val (.int p2), .val (.int 4), .val (.int z2), .val (.int z4), .val (.int z6), .val (.int z8), .val (.ref b327), .val (.ref b342), .val (.ref b364), .val (.ref b373)] [(.int z6), (.int 4), (.int 2), (.ref b373), (.ref b364), (.ref b327)])) _
                  refine st421 _ ?_
                  refine XS.ifNo X421.here hx rfl (hb hby at_213) rfl ((if0 _ _).trans (feq (by decide : ¬ ((1 : Int32) = (0 : Int32)))).1) ?_
                  refine XS.aload X421.here hx rfl (hb hby at_216) rfl rfl ?_
                  refine XS.aload X421.here hx rfl (hb hby at_218) rfl rfl ?_
                  refine XS.aload X421.here hx rfl (hb hby at_220) rfl rfl ?_
                  refine XS.iconst X421.here hx rfl (hb hby at_222) ?_
                  refine XS.iloadN X421.here hx rfl (hb hby at_223) rfl ?_
                  refine XS.iload X421.here hx rfl (hb hby at_224) rfl ?_
                  exact k
                rcases hQ440 with ⟨hc442, hc443, hc444, rfl, Nq445, e446⟩ | ⟨hc447, hc448, hc449, rfl, Nq450, e451⟩ | ⟨hc452, hc453, rfl, Nq454, e455⟩ | ⟨hc456, rfl, Nq457, e458⟩
                ·
                  have N440 := Fr.app N421 Nq445
                  obtain ⟨fs, hr, hrun, hended, hRE⟩ := X440.leaveW hS372 (by rw [e446]; exact (Nat.le_refl _)) (v := some (.int 1)) (fun h => by rw [hret] at h; cases h)
                  refine ⟨_, _, pre441 _ ?_, hrun, hended, _, _, rfl, ?_, hRE.1, hRE.2.1, hRE.2.2.1, hRE.2.2.2.mono (by decide) (by decide)⟩
                  ·
                    show Steps p.tables e below (T421.setTop (mkF m 226 #[.val (.int p1), .val (.int p2), .val (.int 4), .val (.int z2), .val (.int z4), .val (.int z6), .val (.int z8), .val (.ref b327), .val (.ref b342), .val (.ref b364), .val (.ref b373)] [(.int z8), (.int 4), (.int 3), (.ref b373), (.ref b364), (.ref b327)])) _
                    refine st440 _ ?_
                    refine XS.ifNo X440.here hx rfl (hb hby at_229) rfl ((if0 _ _).trans (feq (by decide : ¬ ((1 : Int32) = (0 : Int32)))).1) ?_
                    refine XS.iconst X440.here hx rfl (hb hby at_232) ?_
                    refine XS.goto X440.here hx rfl (pc0 := 233) (pc' := 237) rfl (hb hby at_233) (by decide) (by decide) ?_
                    show Steps p.tables e below (T440.setTop (mkF m 237 #[.val (.int p1), .val (.int p2), .val (.int 4), .val (.int z2), .val (.int z4), .val (.int z6), .val (.int z8), .val (.ref b327), .val (.ref b342), .val (.ref b364), .val (.ref b373)] [(.int 1)])) _
                    exact retN X440 hx (t := .boolean) hret (by simp) (hb hby at_237) hr
                  ·
                    show Q0 n0 _ T440.heap _
                    rw [e446]
                    exact ⟨rfl, N440⟩
                ·
                  exact absurd (rfl : z8 = z8) hc449
                ·
                  exact absurd (rfl : z8 = z8) hc453
                ·
                  exact absurd (rfl : z8 = z8) hc456
              ·
                exact absurd (rfl : z6 = z6) hc430
              ·
                exact absurd (rfl : z6 = z6) hc434
              ·
                exact absurd (rfl : z6 = z6) hc437
            ·
              exact absurd (rfl : z4 = z4) hc411
            ·
              exact absurd (rfl : z4 = z4) hc415
            ·
              exact absurd (rfl : z4 = z4) hc418
          ·
            exact absurd (rfl : z2 = z2) hc392
          ·
            exact absurd (rfl : z2 = z2) hc396
          ·
            exact absurd (rfl : z2 = z2) hc399
set_option maxRecDepth 65536 in
set_option maxHeartbeats 40000000 in
theorem comes_1 {Post : Tables → Env → Array Value → State → Outcome → State → Prop} (hpost : ∀ tb e args s v u, (limb_1_1.after args s (.returned v) u = true ∧ limb_1_2.after args s (.returned v) u = true ∧ True) → ReturnedEndW s (.returned v) u (Jvm.fieldLocs frame_1_writes args s ++ Jvm.arrayLocs frame_1_arrays args s ++ Jvm.staticLocs frame_1_statics s) 24 1152 → Post tb e args s (.returned v) u) :
    ArmFor flags0 classFile x code maxLocals ret World_1 tables_1 room_1 Calls_1 rest_1 Pre_1 Post := by
  intro l hfl _ _ p e ha hc hk s m args below hf hA hF happ hP
  obtain ⟨hcalls, hrest, hpre⟩ := hP
  obtain ⟨-, -, -, hnamed, -, -, -, hat⟩ := (Spec.applies_iff hf).mp happ
  obtain ⟨hg, hn⟩ := and_e (Cond.before_iff.mp (show (Jvm.Cond.and given_1 narrow_1).before args s = true from hpre))
  obtain ⟨hcount, hk0⟩ := and_e hg
  obtain ⟨hi0, hk1⟩ := and_e hk0
  have hi1 := hk1
  obtain ⟨w_a0, w_a1, rfl⟩ : ∃ w_a0 w_a1 : Value, args = #[w_a0, w_a1] := by
    have hs : args.size = 2 := by simpa [Cond.value, given_1] using hcount
    obtain ⟨L⟩ := args
    match L, hs with
    | [w_a0, w_a1], _ => exact ⟨w_a0, w_a1, rfl⟩
  have hw := fun d (hd : d ∈ tables_1) => atoms_spec (ws := Jvm.Cond.code x code maxLocals ret :: tables_1) hat d (List.mem_cons_of_mem _ hd)
  have hfit : Fit s := fun {y c} hc i hi => by
    obtain ⟨ha, rfl⟩ := Array.getElem?_eq_some_iff.mp hc
    have q := List.all_eq_true.mp ((Array.all_eq_true_iff_forall_mem.mp hF) _ (Array.getElem_mem ha)) i (List.mem_range.mpr hi)
    simpa [Array.getElem?_eq_getElem hi] using q
  obtain ⟨hsets, hown0⟩ := atoms_of _ (rest_1_c_eq ▸ (show rest_1_c.before _ s = true from hrest))
  obtain ⟨i0, ei0⟩ := is_v hi0
  obtain rfl : w_a0 = (.int i0) := Option.some.inj ei0
  obtain ⟨i1, ei1⟩ := is_v hi1
  obtain rfl : w_a1 = (.int i1) := Option.some.inj ei1
  obtain ⟨w1, ev_w1⟩ := exa_v (Cond.before_iff.mp (hsets _ (List.mem_of_getElem? (i := 2) rfl)))
  have S_w1 : Sta s s.heap "java/lang/Boolean" "FALSE" "Ljava/lang/Boolean;" (.ref w1) := Sta.start ev_w1 (Or.inl (hsets _ (List.mem_of_getElem? (i := 1) rfl)))
  have E_w1 : Exa s s.heap w1 "java/lang/Boolean" := Exa.start ev_w1 (Cond.before_iff.mp (hsets _ (List.mem_of_getElem? (i := 2) rfl)))
  obtain ⟨w2, ev_w2⟩ := exa_v (Cond.before_iff.mp (hsets _ (List.mem_of_getElem? (i := 6) rfl)))
  have S_w2 : Sta s s.heap "java/lang/Boolean" "TRUE" "Ljava/lang/Boolean;" (.ref w2) := Sta.start ev_w2 (Or.inl (hsets _ (List.mem_of_getElem? (i := 5) rfl)))
  have E_w2 : Exa s s.heap w2 "java/lang/Boolean" := Exa.start ev_w2 (Cond.before_iff.mp (hsets _ (List.mem_of_getElem? (i := 6) rfl)))
  have F_w1_value : Fld s s.heap w1 "java/lang/Boolean" "value" "Z" (.int 0) := Fld.start ((fld_at ev_w1).symm.trans (eqv_i rfl (Cond.before_iff.mp (hsets _ (List.mem_of_getElem? (i := 3) rfl)))))
  have F_w2_value : Fld s s.heap w2 "java/lang/Boolean" "value" "Z" (.int 1) := Fld.start ((fld_at ev_w2).symm.trans (eqv_i rfl (Cond.before_iff.mp (hsets _ (List.mem_of_getElem? (i := 7) rfl)))))
  have G : GW s w1 w2 := ⟨S_w1, E_w1, S_w2, E_w2, F_w1_value, F_w2_value⟩
  obtain ⟨n, o, h1, h2, h3, _, L, rfl, ⟨rfl, N⟩, hq⟩ := rm0 l s _ hw w1 w2 G tables_1 i0 i1 s.heap s.heap.size (Old.start s) p e ha hc hk s m _ below hf ((Spec.applies_iff_loose hf).mp happ).1 ⟨rfl, State.Warmed39.refl s, rfl⟩ trivial
  refine ⟨n, _, h1, h2, h3, hpost _ _ _ _ _ _ ⟨Cond.after_iff.mpr rfl, Cond.after_iff.mpr (eq_i res_at (Term.int_eval (1)) rfl), trivial⟩ ⟨hq.1, hq.2.1, hq.2.2.1, (hq.2.2.2.sift fun y hy => Or.inr (N y hy)).mono (by decide) (by decide)⟩⟩
theorem main_1_1 : Claimed_1_1 := comes_1 fun _ _ _ _ _ _ h hF => ⟨h.1, hF⟩
theorem main_1_2 : Claimed_1_2 := comes_1 fun _ _ _ _ _ _ h hF => ⟨h.2.1, hF⟩
end Jvm.Pilot.@@N@@
namespace Jvm.Pilot.@@N@@
open Jvm Jvm.ClassFile Sem Op Lib Jvm.Free Jvm.Stand Jvm.Pilot.@@N@@.Jvm.D
/-! MADE BY PROGRAM (witnessworld.py) out of the Statement's table words and the real class files: 19 classes; the members and pool entries that the words name. The judged class is class 1, her method 1. -/
namespace start1
open Jvm.ClassFile
def u (s : String) : CpInfo := .utf8 (stringToUtf16 s)
/-- a pool by its gaps: so many unusable entries, then the entry; so many at the end -/
def gap : Nat → List CpInfo → List CpInfo
  | 0, r => r
  | n + 1, r => .unusable :: gap n r
def poolList (es : List (Nat × CpInfo)) (last : Nat) : List CpInfo := es.foldr (fun e r => gap e.1 (e.2 :: r)) (gap last [])
def pool (es : List (Nat × CpInfo)) (last : Nat) : Array CpInfo := ⟨poolList es last⟩
def fileOf (pool : Array CpInfo) (this : Nat) (attrs : Array Attribute := #[]) (ms : Array MethodInfo := #[]) (fl : Nat := 33) (sup : Nat := 0) (ifs : Array Nat := #[]) (fds : Array FieldInfo := #[]) : ClassFile where
  minorVersion := 0
  majorVersion := 65
  constantPool := pool
  accessFlags := fl
  thisClass := this
  superClass := sup
  interfaces := ifs
  fields := fds
  methods := ms
  attributes := attrs
def plain (name : String) (sup : Option ClassId) : Class where
  name := name
  kind := .ordinary
  loader := none
  accessFlags := 33
  super := sup
  interfaces := #[]
  cf := none
  fields := #[]
  methods := #[]
  instanceTypes := #[]
  staticTypes := #[]
  resolved := #[]
  callSites := []
  init := .initialized
  statics := none
  mirror := none

def pool0 : Array CpInfo := pool [(5, u "<init>"), (0, u "()V"), (1, .class_ 10), (1, u "java/lang/Object")] 113

def k0m0 : Method := { name := "<init>", desc := "()V", sig := { parameters := [], returnType := none }, accessFlags := 1, code := none }
/-- java/lang/Object -/
def k0 : Class := { plain "java/lang/Object" none with
  accessFlags := 33
  interfaces := #[]
  cf := some (fileOf pool0 8 #[] #[{ accessFlags := 1, nameIndex := 5, descriptorIndex := 6, attributes := #[] }] 33 0 #[] #[])
  fields := #[]
  methods := #[k0m0]
  instanceTypes := #[]
  staticTypes := #[]
  resolved := Array.replicate 124 none
  statics := none }

def pool1 : Array CpInfo := pool [(2, .class_ 4), (1, u "java/lang/Object"), (0, u "<init>"), (0, u "()V"), (0, .integer 2147483647), (0, .methodref 9 10), (0, .class_ 11), (0, .nameAndType 12 13), (0, u "com/example/castless/castless/PrimitiveArrays"), (0, u "box"), (0, u "([Z)[Ljava/lang/Boolean;"), (0, .methodref 9 15), (0, .nameAndType 16 17), (0, u "unbox"), (0, u "([Ljava/lang/Boolean;Z)[Z"), (0, .methodref 19 20), (0, .class_ 21), (0, .nameAndType 22 23), (0, u "com/example/castless/castless/PrimitiveArraysBoxPinLaw"), (0, u "ok"), (0, u "([Z[Z[ZIIZ)Z"), (2, u "law"), (0, u "(II)Z")] 7

def k1m0 : Method := { name := "<init>", desc := "()V", sig := { parameters := [], returnType := none }, accessFlags := 2, code := none }
def k1c1 : Code := { maxStack := 6, maxLocals := 11, code := code, exceptionTable := #[], attributes := #[] }
def k1m1 : Method := { name := "law", desc := "(II)Z", sig := { parameters := [.int, .int], returnType := some .boolean }, accessFlags := 9, code := some k1c1 }
def k1c2 : Code := { maxStack := 2, maxLocals := 6, code := method_3_code, exceptionTable := #[], attributes := #[] }
def k1m2 : Method := { name := "ok", desc := "([Z[Z[ZIIZ)Z", sig := { parameters := [(.array .boolean), (.array .boolean), (.array .boolean), .int, .int, .boolean], returnType := some .boolean }, accessFlags := 10, code := some k1c2 }
/-- com/example/castless/castless/PrimitiveArraysBoxPinLaw -/
def k1 : Class := { plain "com/example/castless/castless/PrimitiveArraysBoxPinLaw" (some 0) with
  accessFlags := 49
  interfaces := #[]
  cf := some (fileOf pool1 19 #[] #[{ accessFlags := 2, nameIndex := 5, descriptorIndex := 6, attributes := #[] }, { accessFlags := 9, nameIndex := 26, descriptorIndex := 27, attributes := #[] }, { accessFlags := 10, nameIndex := 22, descriptorIndex := 23, attributes := #[] }] 49 2 #[] #[])
  fields := #[]
  methods := #[k1m0, k1m1, k1m2]
  instanceTypes := #[]
  staticTypes := #[]
  resolved := Array.replicate 35 none
  statics := none }

def pool2 : Array CpInfo := pool [(2, .class_ 4), (1, u "java/lang/Object"), (0, u "<init>"), (0, u "()V"), (0, .class_ 8), (0, u "com/example/castless/castless/PrimitiveArrays"), (0, .string 10), (0, u "array is null"), (0, .methodref 12 13), (0, .class_ 14), (0, .nameAndType 15 16), (0, u "java/util/Objects"), (0, u "requireNonNull"), (0, u "(Ljava/lang/Object;Ljava/lang/String;)Ljava/lang/Object;"), (0, .class_ 18), (0, u "java/lang/Boolean"), (0, .methodref 17 20), (0, .nameAndType 21 22), (0, u "valueOf"), (0, u "(Z)Ljava/lang/Boolean;"), (4, .methodref 17 28), (0, .nameAndType 29 30), (0, u "booleanValue"), (0, u "()Z"), (69, u "NULL_ARRAY"), (0, u "Ljava/lang/String;"), (3, u "box"), (0, u "([Z)[Ljava/lang/Boolean;"), (3, u "unbox"), (3, u "([Ljava/lang/Boolean;Z)[Z")] 53

def k2m0 : Method := { name := "<init>", desc := "()V", sig := { parameters := [], returnType := none }, accessFlags := 2, code := none }
def k2c1 : Code := { maxStack := 4, maxLocals := 3, code := prog_11_method_2_code, exceptionTable := #[], attributes := #[] }
def k2m1 : Method := { name := "box", desc := "([Z)[Ljava/lang/Boolean;", sig := { parameters := [(.array .boolean)], returnType := some (.array (.object "java/lang/Boolean")) }, accessFlags := 9, code := some k2c1 }
def k2c2 : Code := { maxStack := 3, maxLocals := 5, code := prog_11_method_4_code, exceptionTable := #[], attributes := #[] }
def k2m2 : Method := { name := "unbox", desc := "([Ljava/lang/Boolean;Z)[Z", sig := { parameters := [(.array (.object "java/lang/Boolean")), .boolean], returnType := some (.array .boolean) }, accessFlags := 9, code := some k2c2 }
/-- com/example/castless/castless/PrimitiveArrays -/
def k2 : Class := { plain "com/example/castless/castless/PrimitiveArrays" (some 0) with
  accessFlags := 49
  interfaces := #[]
  cf := some (fileOf pool2 7 #[] #[{ accessFlags := 2, nameIndex := 5, descriptorIndex := 6, attributes := #[] }, { accessFlags := 9, nameIndex := 105, descriptorIndex := 106, attributes := #[] }, { accessFlags := 9, nameIndex := 110, descriptorIndex := 114, attributes := #[] }] 49 2 #[] #[{ accessFlags := 26, nameIndex := 100, descriptorIndex := 101, attributes := #[] }])
  fields := #[{ name := "NULL_ARRAY", type := (.object "java/lang/String"), accessFlags := 26, slot := 0, constantValue := 0 }]
  methods := #[k2m0, k2m1, k2m2]
  instanceTypes := #[]
  staticTypes := #[(.object "java/lang/String")]
  resolved := Array.replicate 168 none
  statics := none }

def pool3 : Array CpInfo := pool [(1, .class_ 2), (0, u "java/io/Serializable"), (0, .class_ 4), (0, u "java/lang/Object")] 2

/-- java/io/Serializable -/
def k3 : Class := { plain "java/io/Serializable" (some 0) with
  accessFlags := 1537
  interfaces := #[]
  cf := some (fileOf pool3 1 #[] #[] 1537 3 #[] #[])
  fields := #[]
  methods := #[]
  instanceTypes := #[]
  staticTypes := #[]
  resolved := Array.replicate 7 none
  statics := none }

def pool4 : Array CpInfo := pool [(1, .class_ 2), (0, u "java/lang/Comparable"), (0, .class_ 4), (0, u "java/lang/Object")] 7

/-- java/lang/Comparable -/
def k4 : Class := { plain "java/lang/Comparable" (some 0) with
  accessFlags := 1537
  interfaces := #[]
  cf := some (fileOf pool4 1 #[] #[] 1537 3 #[] #[])
  fields := #[]
  methods := #[]
  instanceTypes := #[]
  staticTypes := #[]
  resolved := Array.replicate 12 none
  statics := none }

def pool5 : Array CpInfo := pool [(2, .class_ 4), (1, u "java/lang/CharSequence"), (42, .class_ 48), (0, u "java/lang/CharSequence$1CodePointIterator"), (10, .class_ 60), (0, u "java/lang/CharSequence$1CharIterator"), (5, .class_ 67), (0, u "java/lang/Object")] 63

/-- java/lang/CharSequence -/
def k5 : Class := { plain "java/lang/CharSequence" (some 0) with
  accessFlags := 1537
  interfaces := #[]
  cf := some (fileOf pool5 2 #[.nestMembers #[47, 59]] #[] 1537 66 #[] #[])
  fields := #[]
  methods := #[]
  instanceTypes := #[]
  staticTypes := #[]
  resolved := Array.replicate 131 none
  statics := none }

def pool6 : Array CpInfo := pool [(1, .class_ 2), (0, u "java/lang/constant/Constable"), (0, .class_ 4), (0, u "java/lang/Object")] 6

/-- java/lang/constant/Constable -/
def k6 : Class := { plain "java/lang/constant/Constable" (some 0) with
  accessFlags := 1537
  interfaces := #[]
  cf := some (fileOf pool6 1 #[] #[] 1537 3 #[] #[])
  fields := #[]
  methods := #[]
  instanceTypes := #[]
  staticTypes := #[]
  resolved := Array.replicate 11 none
  statics := none }

def pool7 : Array CpInfo := pool [(1, .class_ 2), (0, u "java/lang/constant/ConstantDesc"), (0, .class_ 4), (0, u "java/lang/Object")] 32

/-- java/lang/constant/ConstantDesc -/
def k7 : Class := { plain "java/lang/constant/ConstantDesc" (some 0) with
  accessFlags := 1537
  interfaces := #[]
  cf := some (fileOf pool7 1 #[] #[] 1537 3 #[] #[])
  fields := #[]
  methods := #[]
  instanceTypes := #[]
  staticTypes := #[]
  resolved := Array.replicate 37 none
  statics := none }

def pool8 : Array CpInfo := pool [(2, .class_ 4), (1, u "java/lang/Object"), (0, u "<init>"), (0, u "()V"), (3, .class_ 12), (1, u "java/lang/String"), (0, u "value"), (0, u "[B"), (2, u "coder"), (0, u "B"), (2, u "hash"), (0, u "I"), (2, u "hashIsZero"), (0, u "Z"), (13, u "COMPACT_STRINGS"), (534, .class_ 576), (0, u "java/lang/CharSequence"), (22, u "CASE_INSENSITIVE_ORDER"), (0, u "Ljava/util/Comparator;"), (500, u "serialPersistentFields"), (0, u "[Ljava/io/ObjectStreamField;"), (0, .class_ 1104), (0, u "java/lang/String$CaseInsensitiveComparator"), (1, .class_ 1107), (0, u "java/io/Serializable"), (0, .class_ 1109), (0, u "java/lang/Comparable"), (0, .class_ 1111), (0, u "java/lang/constant/Constable"), (0, .class_ 1113), (0, u "java/lang/constant/ConstantDesc"), (2, u "serialVersionUID"), (0, u "J"), (3, u "REPL"), (0, u "C"), (2, u "LATIN1"), (1, u "UTF16")] 323

def k8m0 : Method := { name := "<init>", desc := "()V", sig := { parameters := [], returnType := none }, accessFlags := 1, code := none }
/-- java/lang/String -/
def k8 : Class := { plain "java/lang/String" (some 0) with
  accessFlags := 49
  interfaces := #[3, 4, 5, 6, 7]
  cf := some (fileOf pool8 10 #[.nestMembers #[1103]] #[{ accessFlags := 1, nameIndex := 5, descriptorIndex := 6, attributes := #[] }] 49 2 #[1106, 1108, 575, 1110, 1112] #[{ accessFlags := 18, nameIndex := 13, descriptorIndex := 14, attributes := #[] }, { accessFlags := 18, nameIndex := 17, descriptorIndex := 18, attributes := #[] }, { accessFlags := 2, nameIndex := 21, descriptorIndex := 22, attributes := #[] }, { accessFlags := 2, nameIndex := 25, descriptorIndex := 26, attributes := #[] }, { accessFlags := 26, nameIndex := 1116, descriptorIndex := 1117, attributes := #[] }, { accessFlags := 24, nameIndex := 40, descriptorIndex := 26, attributes := #[] }, { accessFlags := 26, nameIndex := 1101, descriptorIndex := 1102, attributes := #[] }, { accessFlags := 26, nameIndex := 1121, descriptorIndex := 1122, attributes := #[] }, { accessFlags := 25, nameIndex := 599, descriptorIndex := 600, attributes := #[] }, { accessFlags := 24, nameIndex := 1125, descriptorIndex := 18, attributes := #[] }, { accessFlags := 24, nameIndex := 1127, descriptorIndex := 18, attributes := #[] }])
  fields := #[{ name := "value", type := (.array .byte), accessFlags := 18, slot := 0, constantValue := 0 }, { name := "coder", type := .byte, accessFlags := 18, slot := 1, constantValue := 0 }, { name := "hash", type := .int, accessFlags := 2, slot := 2, constantValue := 0 }, { name := "hashIsZero", type := .boolean, accessFlags := 2, slot := 3, constantValue := 0 }, { name := "serialVersionUID", type := .long, accessFlags := 26, slot := 0, constantValue := 0 }, { name := "COMPACT_STRINGS", type := .boolean, accessFlags := 24, slot := 1, constantValue := 0 }, { name := "serialPersistentFields", type := (.array (.object "java/io/ObjectStreamField")), accessFlags := 26, slot := 2, constantValue := 0 }, { name := "REPL", type := .char, accessFlags := 26, slot := 3, constantValue := 0 }, { name := "CASE_INSENSITIVE_ORDER", type := (.object "java/util/Comparator"), accessFlags := 25, slot := 4, constantValue := 0 }, { name := "LATIN1", type := .byte, accessFlags := 24, slot := 5, constantValue := 0 }, { name := "UTF16", type := .byte, accessFlags := 24, slot := 6, constantValue := 0 }]
  methods := #[k8m0]
  instanceTypes := #[(.array .byte), .byte, .int, .boolean]
  staticTypes := #[.long, .boolean, (.array (.object "java/io/ObjectStreamField")), .char, (.object "java/util/Comparator"), .byte, .byte]
  resolved := Array.replicate 1451 none
  statics := none }

def pool9 : Array CpInfo := pool [(2, .class_ 4), (1, u "java/lang/Object"), (0, u "<init>"), (0, u "()V"), (35, .class_ 44), (1, u "java/util/Objects"), (0, u "requireNonNull"), (48, u "(Ljava/lang/Object;Ljava/lang/String;)Ljava/lang/Object;")] 89

def k9m0 : Method := { name := "<init>", desc := "()V", sig := { parameters := [], returnType := none }, accessFlags := 2, code := none }
def k9c1 : Code := { maxStack := 3, maxLocals := 2, code := jdk_31_method_11_code, exceptionTable := #[], attributes := #[] }
def k9m1 : Method := { name := "requireNonNull", desc := "(Ljava/lang/Object;Ljava/lang/String;)Ljava/lang/Object;", sig := { parameters := [(.object "java/lang/Object"), (.object "java/lang/String")], returnType := some (.object "java/lang/Object") }, accessFlags := 9, code := some k9c1 }
/-- java/util/Objects -/
def k9 : Class := { plain "java/util/Objects" (some 0) with
  accessFlags := 49
  interfaces := #[]
  cf := some (fileOf pool9 42 #[] #[{ accessFlags := 2, nameIndex := 5, descriptorIndex := 6, attributes := #[] }, { accessFlags := 9, nameIndex := 45, descriptorIndex := 94, attributes := #[] }] 49 2 #[] #[])
  fields := #[]
  methods := #[k9m0, k9m1]
  instanceTypes := #[]
  staticTypes := #[]
  resolved := Array.replicate 184 none
  statics := none }

def pool10 : Array CpInfo := pool [(2, .class_ 4), (1, u "java/lang/Object"), (2, .fieldref 8 9), (0, .class_ 10), (0, .nameAndType 11 12), (0, u "java/lang/Boolean"), (0, u "value"), (0, u "Z"), (14, .fieldref 8 28), (0, .nameAndType 29 30), (0, u "TRUE"), (0, u "Ljava/lang/Boolean;"), (0, .fieldref 8 32), (0, .nameAndType 33 30), (0, u "FALSE"), (2, u "valueOf"), (7, u "booleanValue"), (0, u "()Z"), (41, u "TYPE"), (0, u "Ljava/lang/Class;"), (0, .class_ 90), (0, u "java/io/Serializable"), (0, .class_ 92), (0, u "java/lang/Comparable"), (0, .class_ 94), (0, u "java/lang/constant/Constable"), (2, u "serialVersionUID"), (0, u "J"), (18, u "(Z)Ljava/lang/Boolean;")] 34

def k10c0 : Code := { maxStack := 1, maxLocals := 1, code := jdk_2055_method_4_code, exceptionTable := #[], attributes := #[] }
def k10m0 : Method := { name := "booleanValue", desc := "()Z", sig := { parameters := [], returnType := some .boolean }, accessFlags := 1, code := some k10c0 }
def k10c1 : Code := { maxStack := 1, maxLocals := 1, code := jdk_2055_method_5_code, exceptionTable := #[], attributes := #[] }
def k10m1 : Method := { name := "valueOf", desc := "(Z)Ljava/lang/Boolean;", sig := { parameters := [.boolean], returnType := some (.object "java/lang/Boolean") }, accessFlags := 9, code := some k10c1 }
/-- java/lang/Boolean -/
def k10 : Class := { plain "java/lang/Boolean" (some 0) with
  accessFlags := 49
  interfaces := #[3, 4, 6]
  cf := some (fileOf pool10 8 #[] #[{ accessFlags := 1, nameIndex := 44, descriptorIndex := 45, attributes := #[] }, { accessFlags := 9, nameIndex := 36, descriptorIndex := 117, attributes := #[] }] 49 2 #[89, 91, 93] #[{ accessFlags := 25, nameIndex := 29, descriptorIndex := 30, attributes := #[] }, { accessFlags := 25, nameIndex := 33, descriptorIndex := 30, attributes := #[] }, { accessFlags := 25, nameIndex := 87, descriptorIndex := 88, attributes := #[] }, { accessFlags := 18, nameIndex := 11, descriptorIndex := 12, attributes := #[] }, { accessFlags := 26, nameIndex := 97, descriptorIndex := 98, attributes := #[] }])
  fields := #[{ name := "TRUE", type := (.object "java/lang/Boolean"), accessFlags := 25, slot := 0, constantValue := 0 }, { name := "FALSE", type := (.object "java/lang/Boolean"), accessFlags := 25, slot := 1, constantValue := 0 }, { name := "TYPE", type := (.object "java/lang/Class"), accessFlags := 25, slot := 2, constantValue := 0 }, { name := "value", type := .boolean, accessFlags := 18, slot := 0, constantValue := 0 }, { name := "serialVersionUID", type := .long, accessFlags := 26, slot := 3, constantValue := 0 }]
  methods := #[k10m0, k10m1]
  instanceTypes := #[.boolean]
  staticTypes := #[(.object "java/lang/Boolean"), (.object "java/lang/Boolean"), (.object "java/lang/Class"), .long]
  resolved := Array.replicate 152 none
  statics := some 0 }

def pool11 : Array CpInfo := pool [(1, u "java/lang/Cloneable"), (0, .class_ 1), (0, u "java/lang/Object"), (0, .class_ 3)] 3

/-- java/lang/Cloneable -/
def k11 : Class := { plain "java/lang/Cloneable" (some 0) with
  accessFlags := 1537
  interfaces := #[]
  cf := some (fileOf pool11 2 #[] #[] 1537 4 #[] #[])
  fields := #[]
  methods := #[]
  instanceTypes := #[]
  staticTypes := #[]
  resolved := Array.replicate 8 none
  statics := none }

/-- the primitive boolean -/
def k12 : Class := { plain "boolean" none with kind := .primitive 'Z', accessFlags := 0x411 }
/-- [Z -/
def k13 : Class := { plain "[Z" (some 0) with kind := .array 12 .boolean, interfaces := #[11, 3], accessFlags := 1041 }

/-- the primitive byte -/
def k14 : Class := { plain "byte" none with kind := .primitive 'B', accessFlags := 0x411 }
/-- [B -/
def k15 : Class := { plain "[B" (some 0) with kind := .array 14 .byte, interfaces := #[11, 3], accessFlags := 1041 }

/-- the primitive int -/
def k16 : Class := { plain "int" none with kind := .primitive 'I', accessFlags := 0x411 }
/-- [I -/
def k17 : Class := { plain "[I" (some 0) with kind := .array 16 .int, interfaces := #[11, 3], accessFlags := 1041 }

/-- [Ljava/lang/Boolean; -/
def k18 : Class := { plain "[Ljava/lang/Boolean;" (some 0) with kind := .array 10 (.object "java/lang/Boolean"), interfaces := #[11, 3], accessFlags := 1041 }

def heap : Heap := #[{ cls := 10, slots := #[.ref 2, .ref 1, .null, .long 0], vm := .statics 10 },
  { cls := 10, slots := #[.int 0], vm := .none },
  { cls := 10, slots := #[.int 1], vm := .none }]
def classes : Array Class := #[k0, k1, k2, k3, k4, k5, k6, k7, k8, k9, k10, k11, k12, k13, k14, k15, k16, k17, k18]
def interned : List (Array UInt16 × Addr) := []
def slotsUsed : Nat := 6
def theMethod : MethodId := ⟨1, 1⟩
def args0 : Array Value := #[.int 5, .int 5]
def aboutOver (below : List Frame) : State where
  vm := { classes := classes, interned := interned.toArray }
  heap := heap
  slotsUsed := slotsUsed
  threads := #[{ frames := .invoking theMethod args0 :: below }]
def below0 : List Frame := [.native { method := ⟨0, 0⟩, args := #[] }]
def about1 : State := aboutOver below0
def p0 : Program := .bare "" "" ""
def e0 : Env := launch0.env 0 0 0
theorem w_frames : about1.frames = Frame.invoking theMethod args0 :: below0 := rfl
set_option maxRecDepth 65536 in
theorem w_args : argsFit about1.vm theMethod args0 = true := by decide +kernel
set_option maxRecDepth 65536 in
theorem w_heap : heapFits about1 = true := by decide +kernel
set_option maxRecDepth 65536 in
theorem w_runnable : about1.curStatus? = some .runnable := by decide +kernel
set_option maxRecDepth 65536 in
theorem w_alone : about1.alone = true := by decide +kernel
set_option maxRecDepth 65536 in
theorem w_named : about1.methodNamed? x = some theMethod := by decide +kernel
set_option maxRecDepth 65536 in
theorem w_hears : about1.hears theMethod below0 = true := by decide +kernel
set_option maxRecDepth 65536 in
theorem w_ripe : about1.ripe theMethod args0 below0 = true := by decide +kernel
theorem w_running : about1.status = .running := rfl
set_option maxRecDepth 65536 in
theorem w_room : about1.hasRoom e0.platform room_1 = true :=
  launch0.hasRoom_least _ room_1 (by decide +kernel) (by decide +kernel) (by decide +kernel) (by decide +kernel) (by decide +kernel) (by decide +kernel)
theorem allAtoms_all (ts : List Jvm.Cond) (a : Array Jvm.Value) (st : Jvm.State) : (allAtoms ts).before a st = ts.all (fun c => c.before a st) := by
  induction ts with
  | nil => rfl
  | cons c t ih =>
    show (Jvm.Cond.and c (allAtoms t)).before a st = _
    rw [Jvm.Cond.before_and, ih, List.all_cons]
def words1 : List Jvm.Cond := Jvm.Cond.code x code maxLocals ret :: tables_1
/-- a 'code' word, met by the world's own term for the bytes: nothing is compared byte by byte -/
theorem code_word {y : MethodName} {bytes : ByteArray} {mx : Nat} {rt : Option FieldType} {a : Array Value} {s : State} {m : MethodId} {meth : Method} {c : Code} (h1 : s.methodNamed? y = some m) (h2 : s.vm.method? m = some meth) (h3 : meth.code = some c) (h4 : c.code = bytes)
    (h5 : (c.maxLocals == mx && c.exceptionTable.isEmpty && decide (c.maxStack ≤ mostOperands) && decide (meth.sig.returnType = rt) && !meth.locks && decide (parseMethodDescriptor y.desc = some meth.sig)) = true) : (Jvm.Cond.code y bytes mx rt).before a s = true := by
  simp only [Bool.and_eq_true, beq_iff_eq, Bool.not_eq_true', decide_eq_true_eq] at h5
  obtain ⟨⟨⟨⟨⟨g1, g2⟩, g3⟩, g4⟩, g5⟩, g6⟩ := h5
  simp [Cond.before, Cond.holds, Cond.value, h1, h2, h3, h4, g1, g2, g3, g4, g5, g6]
def isCode : Jvm.Cond → Bool
  | .code _ _ _ _ => true
  | _ => false
theorem all_split {L : List Jvm.Cond} {P : Jvm.Cond → Bool} (h1 : L.all (fun c => isCode c || P c) = true) (h2 : ∀ c ∈ L.filter isCode, P c = true) : L.all P = true := by
  refine List.all_eq_true.mpr fun c hc => ?_
  have h := List.all_eq_true.mp h1 c hc
  rcases Bool.eq_false_or_eq_true (isCode c) with hi | hi
  · exact h2 c (List.mem_filter.mpr ⟨hc, hi⟩)
  · simpa [hi] using h
set_option maxRecDepth 65536 in
theorem w_c0 : (Jvm.Cond.code x code maxLocals ret).before args0 about1 = true := code_word (m := ⟨1, 1⟩) (meth := k1m1) (c := k1c1) (by decide +kernel) rfl rfl rfl (by decide +kernel)
set_option maxRecDepth 65536 in
theorem w_c1 : (Jvm.Cond.code ({ cls := "com/example/castless/castless/PrimitiveArrays", name := "box", desc := "([Z)[Ljava/lang/Boolean;" } : Jvm.MethodName) prog_11_method_2_code (3 : Nat) (Option.some (Jvm.ClassFile.FieldType.array (Jvm.ClassFile.FieldType.object "java/lang/Boolean")))).before args0 about1 = true := code_word (m := ⟨2, 1⟩) (meth := k2m1) (c := k2c1) (by decide +kernel) rfl rfl rfl (by decide +kernel)
set_option maxRecDepth 65536 in
theorem w_c2 : (Jvm.Cond.code ({ cls := "java/util/Objects", name := "requireNonNull", desc := "(Ljava/lang/Object;Ljava/lang/String;)Ljava/lang/Object;" } : Jvm.MethodName) jdk_31_method_11_code (2 : Nat) (Option.some (Jvm.ClassFile.FieldType.object "java/lang/Object"))).before args0 about1 = true := code_word (m := ⟨9, 1⟩) (meth := k9m1) (c := k9c1) (by decide +kernel) rfl rfl rfl (by decide +kernel)
set_option maxRecDepth 65536 in
theorem w_c3 : (Jvm.Cond.code ({ cls := "java/lang/Boolean", name := "valueOf", desc := "(Z)Ljava/lang/Boolean;" } : Jvm.MethodName) jdk_2055_method_5_code (1 : Nat) (Option.some (Jvm.ClassFile.FieldType.object "java/lang/Boolean"))).before args0 about1 = true := code_word (m := ⟨10, 1⟩) (meth := k10m1) (c := k10c1) (by decide +kernel) rfl rfl rfl (by decide +kernel)
set_option maxRecDepth 65536 in
theorem w_c4 : (Jvm.Cond.code ({ cls := "com/example/castless/castless/PrimitiveArrays", name := "unbox", desc := "([Ljava/lang/Boolean;Z)[Z" } : Jvm.MethodName) prog_11_method_4_code (5 : Nat) (Option.some (Jvm.ClassFile.FieldType.array Jvm.ClassFile.FieldType.boolean))).before args0 about1 = true := code_word (m := ⟨2, 2⟩) (meth := k2m2) (c := k2c2) (by decide +kernel) rfl rfl rfl (by decide +kernel)
set_option maxRecDepth 65536 in
theorem w_c5 : (Jvm.Cond.code ({ cls := "java/lang/Boolean", name := "booleanValue", desc := "()Z" } : Jvm.MethodName) jdk_2055_method_4_code (1 : Nat) (Option.some Jvm.ClassFile.FieldType.boolean)).before args0 about1 = true := code_word (m := ⟨10, 0⟩) (meth := k10m0) (c := k10c0) (by decide +kernel) rfl rfl rfl (by decide +kernel)
set_option maxRecDepth 65536 in
theorem w_c6 : (Jvm.Cond.code ({ cls := "com/example/castless/castless/PrimitiveArraysBoxPinLaw", name := "ok", desc := "([Z[Z[ZIIZ)Z" } : Jvm.MethodName) method_3_code (6 : Nat) (Option.some Jvm.ClassFile.FieldType.boolean)).before args0 about1 = true := code_word (m := ⟨1, 2⟩) (meth := k1m2) (c := k1c2) (by decide +kernel) rfl rfl rfl (by decide +kernel)
def codes1 : List Jvm.Cond := [Jvm.Cond.code x code maxLocals ret, Jvm.Cond.code ({ cls := "com/example/castless/castless/PrimitiveArrays", name := "box", desc := "([Z)[Ljava/lang/Boolean;" } : Jvm.MethodName) prog_11_method_2_code (3 : Nat) (Option.some (Jvm.ClassFile.FieldType.array (Jvm.ClassFile.FieldType.object "java/lang/Boolean"))), Jvm.Cond.code ({ cls := "java/util/Objects", name := "requireNonNull", desc := "(Ljava/lang/Object;Ljava/lang/String;)Ljava/lang/Object;" } : Jvm.MethodName) jdk_31_method_11_code (2 : Nat) (Option.some (Jvm.ClassFile.FieldType.object "java/lang/Object")), Jvm.Cond.code ({ cls := "java/lang/Boolean", name := "valueOf", desc := "(Z)Ljava/lang/Boolean;" } : Jvm.MethodName) jdk_2055_method_5_code (1 : Nat) (Option.some (Jvm.ClassFile.FieldType.object "java/lang/Boolean")), Jvm.Cond.code ({ cls := "com/example/castless/castless/PrimitiveArrays", name := "unbox", desc := "([Ljava/lang/Boolean;Z)[Z" } : Jvm.MethodName) prog_11_method_4_code (5 : Nat) (Option.some (Jvm.ClassFile.FieldType.array Jvm.ClassFile.FieldType.boolean)), Jvm.Cond.code ({ cls := "java/lang/Boolean", name := "booleanValue", desc := "()Z" } : Jvm.MethodName) jdk_2055_method_4_code (1 : Nat) (Option.some Jvm.ClassFile.FieldType.boolean), Jvm.Cond.code ({ cls := "com/example/castless/castless/PrimitiveArraysBoxPinLaw", name := "ok", desc := "([Z[Z[ZIIZ)Z" } : Jvm.MethodName) method_3_code (6 : Nat) (Option.some Jvm.ClassFile.FieldType.boolean)]
set_option maxRecDepth 65536 in
theorem codes_eq : words1.filter isCode = codes1 := rfl
theorem w_codes : ∀ c ∈ words1.filter isCode, c.before args0 about1 = true := by
  rw [codes_eq]
  intro c hc
  simp only [codes1, List.mem_cons, List.not_mem_nil, or_false] at hc
  rcases hc with rfl | rfl | rfl | rfl | rfl | rfl | rfl
  · exact w_c0
  · exact w_c1
  · exact w_c2
  · exact w_c3
  · exact w_c4
  · exact w_c5
  · exact w_c6
set_option maxRecDepth 65536 in
theorem w_t1 : (words1.take 24).all (fun c => isCode c || c.before args0 about1) = true := by decide +kernel
set_option maxRecDepth 65536 in
theorem w_t2 : (words1.drop 24).all (fun c => isCode c || c.before args0 about1) = true := by decide +kernel
theorem w_tables : (allAtoms (Jvm.Cond.code x code maxLocals ret :: tables_1)).before args0 about1 = true := by
  rw [allAtoms_all]
  show words1.all (fun c => c.before args0 about1) = true
  refine all_split ?_ w_codes
  rw [← List.take_append_drop 24 words1, List.all_append, w_t1, w_t2]
  rfl
set_option maxRecDepth 65536 in
theorem w_rest : rest_1_c.before args0 about1 = true := by decide +kernel
set_option maxRecDepth 65536 in
theorem w_case : (Jvm.Cond.and given_1 narrow_1).before args0 about1 = true := by decide +kernel
theorem w_applies : (headSpec (Jvm.Cond.code x code maxLocals ret :: tables_1) room_1).applies x e0.platform about1 = true :=
  (Spec.applies_iff w_frames).mpr ⟨w_running, w_runnable, w_alone, w_named, w_hears, w_ripe, w_room, w_tables⟩
theorem atStart : AtStart classFile x code maxLocals ret World_1 tables_1 room_1 Calls_1 rest_1 Pre_1 launch0 p0 e0 about1 theMethod args0 below0 :=
  ⟨lists_1, trivial, launch0.admits_env _ _ _, launch0.least_env, fairChoices_fair.cas, fairChoices_fair.clock, w_frames, w_args, w_heap, w_applies, trivial, w_rest, w_case⟩
end start1
theorem witness_1 : WitnessClaimed_1 := ⟨start1.p0, start1.e0, start1.about1, start1.theMethod, start1.args0, start1.below0, start1.atStart⟩
end Jvm.Pilot.@@N@@
