import JvmDerived
import JvmDerived.Pilot.@@N@@Statement
import JvmDerived.Pilot.@@N@@Code
set_option linter.unusedVariables false
set_option linter.unusedSimpArgs false
namespace Jvm.RoadKit
open Sem ClassFile Op Lib Jvm.Stand Jvm.Free Jvm.LawKit
section New
variable {p : Program} {l : Launch} {e : Env} {R : Room} {s : State} {m : MethodId} {args : Array Value} {below : List Frame} {meth : Method} {c : Code} {T : State} {locs : List Loc} {cells slots : Nat}
theorem retI (X : Stand p l e R s m args below meth c T locs cells slots) (hx : p.tables.exec = Jvm.exec) {pc : Nat} {Ls : Array Slot} {z : Int32} {rest : List Value} (hret : meth.sig.returnType = some .int) (hd : decode c.code pc = .ok (.ireturn, 1)) {fs : List Frame}
    (hl : ∀ (f : JFrame) (acts : List Action), f.method = m → f.locked = none → f.entered = [] → (doReturn e (T.setTop f) acts (some (.int z))).1 = T.setFrames fs) : Steps p.tables e below (T.setTop (mkF m pc Ls (.int z :: rest))) (T.setFrames fs) := by
  have hm' : T.vm.method? m = some meth := X.method'
  have hn : narrow .int (.int z) = .int z := rfl
  show Steps p.tables e below (T.setTop { method := m, pc := pc, locals := Ls, stack := _ :: rest, locked := none }) _
  jvm_step X.here [X.here.top, hx, hd, hm', hret, hn]
  first | (intro acts; rw [hl _ acts rfl rfl rfl]) | rw [hl _ _ rfl rfl rfl]
  exact Steps.refl _
end New
end Jvm.RoadKit
namespace Jvm.Pilot.@@N@@
open Jvm Jvm.ClassFile Sem Op Lib Jvm.Free Jvm.Stand Jvm.LawKit Jvm.RoadKit Bundle Jvm.Pilot.@@N@@.Jvm.D
theorem own_bd {p : Program} {l : Launch} {x : MethodName} {cd : List Jvm.Cond} {R : Room} {code : ByteArray} {maxL : Nat} {ret : Option FieldType} {e : Env} {s : State} {m : MethodId} {args : Array Value} {below : List Frame} {meth : Method} {c : Code} {s₁ : State} {h0 : Heap} (Bd : BodyLoose p l x (head1 cd R) code maxL ret e s m args below meth c s₁) (hh : s.heap = h0) (n0 : Nat) :
    p.tables.exec = Jvm.exec ∧ c.code = code ∧ s.vm.findClass x.cls = some m.cls ∧ meth.sig.returnType = ret ∧ meth.locks = false ∧ Stand p l e R s m args below meth c s₁ [] 0 0 ∧ s₁.heap = h0 ∧ Fr n0 [] :=
  ⟨Bd.exec, Bd.bytes, findClass_of_methodNamed Bd.named, Bd.returns, BodyLoose.notSynchronized Bd, Stand.of_body Bd, by rw [← hh, Bd.state]; rfl, Fr.nil n0⟩
theorem own_ct (s₁ : State) {p : Program} {e : Env} {below : List Frame} {f g : JFrame} (h : f = g) : ∀ t, Steps p.tables e below (s₁.setTop g) t → Steps p.tables e below (s₁.setTop f) t := fun t k => castTop h k
theorem own_w {a0 : Array Value} {Z : State} (hw : ∀ d ∈ tables_1, d.before a0 Z = true) {d : Jvm.Cond} (i : Nat) (h : tables_1[i]? = some d) : d.before a0 Z = true := hw d (List.mem_of_getElem? h)
section Calls
variable {p : Program} {l : Launch} {e : Env} {R : Room} {s : State} {m : MethodId} {args : Array Value} {below : List Frame} {meth : Method} {c : Code} {T : State} {locs : List Loc} {cells slots : Nat} {Z : State} {a0 : Array Value} {h : Heap}
variable {own C : String} {index : Nat} {y z : MethodName} {bytes : ByteArray} {maxL : Nat} {ret : Option FieldType} {rm : Room} {a : Addr} {Q : Option Value → Heap → List Loc → Prop} {argsL rest : List Value} {g : JFrame}
theorem own_vb (X : Stand p l e R s m args below meth c T locs cells slots) (hx : p.tables.exec = Jvm.exec) (hZ : Z.Warmed39 s.vm) (hown : s.vm.findClass own = some m.cls)
    (w1 : (Cond.methodLink own index y).before a0 Z = true) (w2 : (Cond.declares y).before a0 Z = true) (w3 : (Cond.selects C y y).before a0 Z = true) (w4 : (Cond.instanceMethod y).before a0 Z = true) (wc : (Cond.code y bytes maxL ret).before a0 Z = true) (wz : (Cond.initialized y.cls).before a0 Z = true)
    (eT : T.heap = h) (E : Exa Z h a C)
    (hM : MetFree l y (head1 [Cond.code y bytes maxL ret] rm) (fun a' U => a' = (Value.ref a :: argsL).toArray ∧ Z.Warmed39 U.vm ∧ U.heap = h) (fun _ _ _ _ _ => True) (fun _ U o U' => ∃ v L, o = .returned v ∧ Q v U'.heap L ∧ FrameEnd U o U' L rm.cells rm.slots))
    (hg : g.method = m) (hml : g.locals.size = c.maxLocals) (hs : g.stack = argsL.reverse ++ .ref a :: rest) (hd : decode c.code g.pc = .ok (.invokevirtual index, 3)) (hlen : ∀ sig, parseMethodDescriptor y.desc = some sig → argsL.length = sig.parameters.length)
    {W : Nat} {c1 s1 : Nat} (h1 : cells + rm.cells = c1 := by rfl) (h2 : slots + rm.slots = s1 := by rfl) (hW : 2 * g.monitorRoom + (rest.map fun v => v.category).sum ≤ W := by show 2 * 0 + _ ≤ _; exact Nat.le_of_eq rfl) (hf : rm.frames + 1 ≤ R.frames := by decide) (hl : W + (maxL + 11) + rm.locals ≤ R.locals := by decide) (hc : c1 ≤ R.cells := by decide) (hsl : s1 ≤ R.slots := by decide) (hy : y.cls ≠ "java/lang/invoke/MethodHandle" ∧ y.cls ≠ "java/lang/invoke/VarHandle" := by decide) :
    ∃ v T' L, Stand p l e R s m args below meth c T' (locs ++ L) c1 s1 ∧ Q v T'.heap L ∧ ∀ target, Steps p.tables e below (T'.setTop { g with pc := g.pc + 3, stack := v.toList ++ rest }) target → Steps p.tables e below (T.setTop g) target := by
  subst h1 h2
  obtain ⟨cB, kB, q1, q2, q3⟩ := isOf hZ eT E
  obtain ⟨v, _, ⟨T', L', k', n'⟩, -, X', ⟨L, hQ, l1, y1, z1⟩, st⟩ := X.virtualBack hx (y := y) (z := y) hown (mvT hZ w1) (mvT hZ w2) (notFace_of_selects (args := #[]) (mvT hZ w3)) (mvT hZ w3) (mvT hZ w4) hy (backOf (W := W) hM hZ wc wz hf hl) q1 q3 hg hml (Steps.refl _) hlen hs hW hd (fun _ _ => ⟨rfl, eT, hc, hsl⟩)
  dsimp only [Pt.U, Pt.locs, Pt.cells, Pt.slots] at X' l1 y1 z1 st hQ
  subst l1 y1 z1
  exact ⟨v, T', L, X', hQ, fun t k => st.trans k⟩
theorem own_vu {owner : String} (X : Stand p l e R s m args below meth c T locs cells slots) (hx : p.tables.exec = Jvm.exec) (hZ : Z.Warmed39 s.vm) (hown : s.vm.findClass own = some m.cls)
    (w1 : (Cond.methodLink own index z).before a0 Z = true) (w2 : (Cond.sameMethod z.cls owner z.name z.desc).before a0 Z = true) (w2' : (Cond.declares ⟨owner, z.name, z.desc⟩).before a0 Z = true) (w3 : (Cond.selects C z y).before a0 Z = true) (w4 : (Cond.instanceMethod y).before a0 Z = true) (wc : (Cond.code y bytes maxL ret).before a0 Z = true) (wz : (Cond.initialized y.cls).before a0 Z = true)
    (eT : T.heap = h) (E : Exa Z h a C)
    (hM : MetFree l y (head1 [Cond.code y bytes maxL ret] rm) (fun a' U => a' = (Value.ref a :: argsL).toArray ∧ Z.Warmed39 U.vm ∧ U.heap = h) (fun _ _ _ _ _ => True) (fun _ U o U' => ∃ v L, o = .returned v ∧ Q v U'.heap L ∧ FrameEnd U o U' L rm.cells rm.slots))
    (hg : g.method = m) (hml : g.locals.size = c.maxLocals) (hs : g.stack = argsL.reverse ++ .ref a :: rest) (hd : decode c.code g.pc = .ok (.invokevirtual index, 3)) (hlen : ∀ sig, parseMethodDescriptor z.desc = some sig → argsL.length = sig.parameters.length)
    {W : Nat} {c1 s1 : Nat} (h1 : cells + rm.cells = c1 := by rfl) (h2 : slots + rm.slots = s1 := by rfl) (hW : 2 * g.monitorRoom + (rest.map fun v => v.category).sum ≤ W := by show 2 * 0 + _ ≤ _; exact Nat.le_of_eq rfl) (hf : rm.frames + 1 ≤ R.frames := by decide) (hl : W + (maxL + 11) + rm.locals ≤ R.locals := by decide) (hc : c1 ≤ R.cells := by decide) (hsl : s1 ≤ R.slots := by decide) (hy : owner ≠ "java/lang/invoke/MethodHandle" ∧ owner ≠ "java/lang/invoke/VarHandle" := by decide) :
    ∃ v T' L, Stand p l e R s m args below meth c T' (locs ++ L) c1 s1 ∧ Q v T'.heap L ∧ ∀ target, Steps p.tables e below (T'.setTop { g with pc := g.pc + 3, stack := v.toList ++ rest }) target → Steps p.tables e below (T.setTop g) target := by
  subst h1 h2
  obtain ⟨cB, kB, q1, q2, q3⟩ := isOf hZ eT E
  obtain ⟨v, _, ⟨T', L', k', n'⟩, -, X', ⟨L, hQ, l1, y1, z1⟩, st⟩ := X.virtualBackUp hx (x := z) (y := y) (owner := owner) hown (mvT hZ w1) (mvT hZ w2) (mvT hZ w2') hy (mvT hZ w3) (mvT hZ w4) (backOf (W := W) hM hZ wc wz hf hl) q1 q3 hg hml (Steps.refl _) hlen hs hW hd (fun _ _ => ⟨rfl, eT, hc, hsl⟩)
  dsimp only [Pt.U, Pt.locs, Pt.cells, Pt.slots] at X' l1 y1 z1 st hQ
  subst l1 y1 z1
  exact ⟨v, T', L, X', hQ, fun t k => st.trans k⟩
theorem own_sb (X : Stand p l e R s m args below meth c T locs cells slots) (hx : p.tables.exec = Jvm.exec) (hZ : Z.Warmed39 s.vm) (hown : s.vm.findClass own = some m.cls)
    (w1 : (Cond.methodLink own index y).before a0 Z = true) (w4 : (Cond.instanceMethod y).before a0 Z = true) (wc : (Cond.code y bytes maxL none).before a0 Z = true) (wz : (Cond.initialized y.cls).before a0 Z = true)
    (eT : T.heap = h)
    (hM : MetFree l y (head1 [Cond.code y bytes maxL none] rm) (fun a' U => a' = (Value.ref a :: argsL).toArray ∧ Z.Warmed39 U.vm ∧ U.heap = h) (fun _ _ _ _ _ => True) (fun _ U o U' => ∃ v L, o = .returned v ∧ Q v U'.heap L ∧ FrameEnd U o U' L rm.cells rm.slots))
    (hg : g.method = m) (hml : g.locals.size = c.maxLocals) (hs : g.stack = argsL.reverse ++ .ref a :: rest) (hd : decode c.code g.pc = .ok (.invokespecial index, 3)) (hlen : ∀ sig, parseMethodDescriptor y.desc = some sig → argsL.length = sig.parameters.length)
    {W : Nat} {c1 s1 : Nat} (hn : y.name = "<init>" := by rfl) (h1 : cells + rm.cells = c1 := by rfl) (h2 : slots + rm.slots = s1 := by rfl) (hW : 2 * g.monitorRoom + (rest.map fun v => v.category).sum ≤ W := by show 2 * 0 + _ ≤ _; exact Nat.le_of_eq rfl) (hf : rm.frames + 1 ≤ R.frames := by decide) (hl : W + (maxL + 11) + rm.locals ≤ R.locals := by decide) (hc : c1 ≤ R.cells := by decide) (hsl : s1 ≤ R.slots := by decide) (hy : y.cls ≠ "java/lang/invoke/MethodHandle" ∧ y.cls ≠ "java/lang/invoke/VarHandle" := by decide) :
    ∃ v T' L, Stand p l e R s m args below meth c T' (locs ++ L) c1 s1 ∧ Q v T'.heap L ∧ ∀ target, Steps p.tables e below (T'.setTop { g with pc := g.pc + 3, stack := v.toList ++ rest }) target → Steps p.tables e below (T.setTop g) target := by
  subst h1 h2
  obtain ⟨v, _, ⟨T', L', k', n'⟩, -, X', ⟨L, hQ, l1, y1, z1⟩, st⟩ := X.specialBack hx (y := y) hn hown (mvT hZ w1) (mvT hZ w4) (mvT hZ wc) hy (backOf (W := W) hM hZ wc wz hf hl) hg hml (Steps.refl _) hlen hs hW hd (fun _ _ => ⟨rfl, eT, hc, hsl⟩)
  dsimp only [Pt.U, Pt.locs, Pt.cells, Pt.slots] at X' l1 y1 z1 st hQ
  subst l1 y1 z1
  exact ⟨v, T', L, X', hQ, fun t k => st.trans k⟩
theorem own_cs (X : Stand p l e R s m args below meth c T locs cells slots) (hx : p.tables.exec = Jvm.exec) (hZ : Z.Warmed39 s.vm) (hown : s.vm.findClass own = some m.cls)
    (w1 : (Cond.methodLink own index y).before a0 Z = true) (w4 : (Cond.static y).before a0 Z = true) (wc : (Cond.code y bytes maxL ret).before a0 Z = true) (wz : (Cond.initialized y.cls).before a0 Z = true)
    (eT : T.heap = h)
    (hM : MetFree l y (head1 [Cond.code y bytes maxL ret] rm) (fun a' U => a' = argsL.toArray ∧ Z.Warmed39 U.vm ∧ U.heap = h) (fun _ _ _ _ _ => True) (fun _ U o U' => ∃ v L, o = .returned v ∧ Q v U'.heap L ∧ FrameEnd U o U' L rm.cells rm.slots))
    (hg : g.method = m) (hml : g.locals.size = c.maxLocals) (hs : g.stack = argsL.reverse ++ rest) (hd : decode c.code g.pc = .ok (.invokestatic index, 3)) (hlen : ∀ sig, parseMethodDescriptor y.desc = some sig → argsL.length = sig.parameters.length)
    {W : Nat} {c1 s1 : Nat} (h1 : cells + rm.cells = c1 := by rfl) (h2 : slots + rm.slots = s1 := by rfl) (hW : 2 * g.monitorRoom + (rest.map fun v => v.category).sum ≤ W := by show 2 * 0 + _ ≤ _; exact Nat.le_of_eq rfl) (hf : rm.frames + 1 ≤ R.frames := by decide) (hl : W + (maxL + 11) + rm.locals ≤ R.locals := by decide) (hc : c1 ≤ R.cells := by decide) (hsl : s1 ≤ R.slots := by decide) (hy : y.cls ≠ "java/lang/invoke/MethodHandle" ∧ y.cls ≠ "java/lang/invoke/VarHandle" := by decide) :
    ∃ v T' L, Stand p l e R s m args below meth c T' (locs ++ L) c1 s1 ∧ Q v T'.heap L ∧ ∀ target, Steps p.tables e below (T'.setTop { g with pc := g.pc + 3, stack := v.toList ++ rest }) target → Steps p.tables e below (T.setTop g) target := by
  subst h1 h2
  obtain ⟨v, _, ⟨T', L', k', n'⟩, -, X', ⟨L, hQ, l1, y1, z1⟩, st⟩ := Jvm.LawKit.callS X hx (y := y) hown (mvT hZ w1) (mvT hZ w4) (mvT hZ wz) (mvT hZ wc) hy (backOf (W := W) hM hZ wc wz hf hl) hg hml hlen hs hW hd (fun _ _ => ⟨rfl, eT, hc, hsl⟩)
  dsimp only [Pt.U, Pt.locs, Pt.cells, Pt.slots] at X' l1 y1 z1 st hQ
  subst l1 y1 z1
  exact ⟨v, T', L, X', hQ, st⟩
theorem own_pb (X : Stand p l e R s m args below meth c T locs cells slots) (hx : p.tables.exec = Jvm.exec) (hZ : Z.Warmed39 s.vm) (hown : s.vm.findClass own = some m.cls)
    (w1 : (Cond.methodLink own index y).before a0 Z = true) (w4 : (Cond.instanceMethod y).before a0 Z = true) (w3 : (Cond.selects y.cls y y).before args s = true) (wp : (Cond.privateMethod y).before a0 Z = true) (wc : (Cond.code y bytes maxL ret).before a0 Z = true) (wz : (Cond.initialized y.cls).before a0 Z = true)
    (eT : T.heap = h) (E : Exa Z h a C)
    (hM : MetFree l y (head1 [Cond.code y bytes maxL ret] rm) (fun a' U => a' = (Value.ref a :: argsL).toArray ∧ Z.Warmed39 U.vm ∧ U.heap = h) (fun _ _ _ _ _ => True) (fun _ U o U' => ∃ v L, o = .returned v ∧ Q v U'.heap L ∧ FrameEnd U o U' L rm.cells rm.slots))
    (hg : g.method = m) (hml : g.locals.size = c.maxLocals) (hs : g.stack = argsL.reverse ++ .ref a :: rest) (hd : decode c.code g.pc = .ok (.invokevirtual index, 3)) (hlen : ∀ sig, parseMethodDescriptor y.desc = some sig → argsL.length = sig.parameters.length)
    {W : Nat} {c1 s1 : Nat} (h1 : cells + rm.cells = c1 := by rfl) (h2 : slots + rm.slots = s1 := by rfl) (hW : 2 * g.monitorRoom + (rest.map fun v => v.category).sum ≤ W := by show 2 * 0 + _ ≤ _; exact Nat.le_of_eq rfl) (hf : rm.frames + 1 ≤ R.frames := by decide) (hl : W + (maxL + 11) + rm.locals ≤ R.locals := by decide) (hc : c1 ≤ R.cells := by decide) (hsl : s1 ≤ R.slots := by decide) (hy : y.cls ≠ "java/lang/invoke/MethodHandle" ∧ y.cls ≠ "java/lang/invoke/VarHandle" := by decide) :
    ∃ v T' L, Stand p l e R s m args below meth c T' (locs ++ L) c1 s1 ∧ Q v T'.heap L ∧ ∀ target, Steps p.tables e below (T'.setTop { g with pc := g.pc + 3, stack := v.toList ++ rest }) target → Steps p.tables e below (T.setTop g) target := by
  subst h1 h2
  obtain ⟨cq, q1, q2⟩ := E.cell
  obtain ⟨v, _, ⟨T', L', k', n'⟩, -, X', ⟨L, hQ, l1, y1, z1⟩, st⟩ := X.privateBack hx (y := y) hown (mvT hZ w1) (mvT hZ w4) w3 (Cond.privateMethod_at (mvP hZ wp (args := #[]))) (mvT hZ wc) hy (backOf (W := W) hM hZ wc wz hf hl) hg hml (Steps.refl _) (a := a) (by rw [eT]; exact q1) q2 hlen hs hW hd (fun _ _ => ⟨rfl, eT, hc, hsl⟩)
  dsimp only [Pt.U, Pt.locs, Pt.cells, Pt.slots] at X' l1 y1 z1 st hQ
  subst l1 y1 z1
  exact ⟨v, T', L, X', hQ, fun t k => st.trans k⟩
theorem own_sr (X : Stand p l e R s m args below meth c T locs cells slots) (hx : p.tables.exec = Jvm.exec) (hZ : Z.Warmed39 s.vm) (hown : s.vm.findClass own = some m.cls)
    (w1 : (Cond.methodRef own index y).before a0 Z = true) (w4 : (Cond.instanceMethod y).before a0 Z = true) (wc : (Cond.code y bytes maxL none).before a0 Z = true) (wz : (Cond.initialized y.cls).before a0 Z = true)
    (eT : T.heap = h)
    (hM : MetFree l y (head1 [Cond.code y bytes maxL none] rm) (fun a' U => a' = (Value.ref a :: argsL).toArray ∧ Z.Warmed39 U.vm ∧ U.heap = h) (fun _ _ _ _ _ => True) (fun _ U o U' => ∃ v L, o = .returned v ∧ Q v U'.heap L ∧ FrameEnd U o U' L rm.cells rm.slots))
    (hg : g.method = m) (hml : g.locals.size = c.maxLocals) (hs : g.stack = argsL.reverse ++ .ref a :: rest) (hd : decode c.code g.pc = .ok (.invokespecial index, 3)) (hlen : ∀ sig, parseMethodDescriptor y.desc = some sig → argsL.length = sig.parameters.length)
    {W : Nat} {c1 s1 : Nat} (hn : y.name = "<init>" := by rfl) (h1 : cells + rm.cells = c1 := by rfl) (h2 : slots + rm.slots = s1 := by rfl) (hW : 2 * g.monitorRoom + (rest.map fun v => v.category).sum ≤ W := by show 2 * 0 + _ ≤ _; exact Nat.le_of_eq rfl) (hf : rm.frames + 1 ≤ R.frames := by decide) (hl : W + (maxL + 11) + rm.locals ≤ R.locals := by decide) (hc : c1 ≤ R.cells := by decide) (hsl : s1 ≤ R.slots := by decide) (hy : y.cls ≠ "java/lang/invoke/MethodHandle" ∧ y.cls ≠ "java/lang/invoke/VarHandle" := by decide) :
    ∃ v T' L, Stand p l e R s m args below meth c T' (locs ++ L) c1 s1 ∧ Q v T'.heap L ∧ ∀ target, Steps p.tables e below (T'.setTop { g with pc := g.pc + 3, stack := v.toList ++ rest }) target → Steps p.tables e below (T.setTop g) target := by
  subst h1 h2
  have hZT : Z.Warmed39 T.vm := wtrans hZ X.warmed
  obtain ⟨oz, mz, nz, -⟩ := Cond.instanceMethod_spec w4
  have r1 : (Cond.methodRef own index y).before a0 (Z.setVm T.vm) = true := Cond.methodRef_warmed39 hZT nz hy w1
  have fT : (Z.setVm T.vm).vm.findClass own = some m.cls := by show T.vm.findClass own = _; rw [X.warmed.alike.findClass]; exact hown
  obtain ⟨m1, c', hm1, hready, hfind, hnames⟩ := Cond.methodRef_named e fT r1
  obtain ⟨obj, methO, hnO, hmO, hstO, habO⟩ := Cond.instanceMethod_spec (mvT (args := args) hZ w4)
  obtain ⟨methO', cO, hmO', hcO, hbO, hlO, -, hlockO, -, hsigO⟩ := Cond.code_spec hnO (mvT (args := args) hZ wc)
  cases hmO.symm.trans hmO'
  have nT : (Z.setVm T.vm).methodNamed? y = some obj := X.named hnO
  obtain rfl : m1 = obj := (Option.some.inj ((State.methodFound?_of_named nT hy).symm.trans hm1)).symm
  have cT : (Z.setVm T.vm).vm.findClass y.cls = some m1.cls := findClass_of_methodNamed nT
  obtain rfl : c' = m1.cls := (Option.some.inj (cT.symm.trans hfind)).symm
  obtain ⟨kO, hkO, hnameO⟩ := className_of_methodNamed nT
  obtain ⟨hnameMO, hdescO⟩ := name_of_methodNamed hnO hmO
  have hmT : T.vm.method? m1 = some methO := by rw [X.warmed.alike.method?]; exact hmO
  have hfound : lookupSpecial T.vm m1.cls "<init>" methO.desc = .method m1 := by
    rw [X.warmed.alike.lookupSpecial, hdescO, ← hn]; exact lookupSpecial_of_named hnO hmO hstO
  have hstep : ∀ target, (∀ acts, Steps p.tables e below (doInvoke e (T.setTop { g with stack := rest }) acts m1 (.ref a :: argsL).toArray).1 target) → Steps p.tables e below (T.setTop g) target := by
    intro target hrest
    subst hg
    jvm_step X.here [hx, hd, invokespecial.wp_init (e := e) (s := T) (k := kO) (meth := methO) (m := m1) (a := a) (args := argsL) (rest := rest) (f := g) X.here.top hnames hready hkO hmT (by rw [hnameMO]; exact hn) hstO habO hfound (hlen _ hsigO) hs]
    exact hrest
  obtain ⟨v, ⟨T', L', k', n'⟩, X', ⟨L, hQ, l1, y1, z1⟩, st⟩ := backOf (len := 3) (W := W) (p := p) (e := e) (below := below) (args := args) (R := R) hM hZ wc wz hf hl m meth c ⟨T, locs, cells, slots⟩ { g with stack := rest } (.invokespecial index) m1 (.ref a :: argsL).toArray X hg hml hd hW (X.named hnO) ⟨rfl, eT, hc, hsl⟩
  dsimp only [Pt.U, Pt.locs, Pt.cells, Pt.slots] at X' l1 y1 z1 st hQ
  subst l1 y1 z1
  exact ⟨v, T', L, X', hQ, fun t k => (hstep _ fun acts => by rw [doInvoke_state]; exact Steps.refl _).trans (st.trans k)⟩
theorem own_ib {count : Nat} (X : Stand p l e R s m args below meth c T locs cells slots) (hx : p.tables.exec = Jvm.exec) (hZ : Z.Warmed39 s.vm) (hown : s.vm.findClass own = some m.cls)
    (w1 : (Cond.methodLink own index z).before a0 Z = true) (w2 : (Cond.declares z).before a0 Z = true) (w5 : (Cond.interfaceMethod z.cls z.cls z.name z.desc).before args s = true) (w3 : (Cond.selects C z y).before a0 Z = true) (w4 : (Cond.instanceMethod y).before a0 Z = true) (w6 : (Cond.publicMethod y).before a0 Z = true) (w7 : (Cond.unhidden C z.name z.desc).before args s = true) (w8 : (Cond.castable C z.cls).before a0 Z = true) (wc : (Cond.code y bytes maxL ret).before a0 Z = true) (wz : (Cond.initialized y.cls).before a0 Z = true)
    (eT : T.heap = h) (E : Exa Z h a C)
    (hM : MetFree l y (head1 [Cond.code y bytes maxL ret] rm) (fun a' U => a' = (Value.ref a :: argsL).toArray ∧ Z.Warmed39 U.vm ∧ U.heap = h) (fun _ _ _ _ _ => True) (fun _ U o U' => ∃ v L, o = .returned v ∧ Q v U'.heap L ∧ FrameEnd U o U' L rm.cells rm.slots))
    (hg : g.method = m) (hml : g.locals.size = c.maxLocals) (hs : g.stack = argsL.reverse ++ .ref a :: rest) (hd : decode c.code g.pc = .ok (.invokeinterface index count, 5)) (hlen : ∀ sig, parseMethodDescriptor z.desc = some sig → argsL.length = sig.parameters.length)
    {W : Nat} {c1 s1 : Nat} (h1 : cells + rm.cells = c1 := by rfl) (h2 : slots + rm.slots = s1 := by rfl) (hW : 2 * g.monitorRoom + (rest.map fun v => v.category).sum ≤ W := by show 2 * 0 + _ ≤ _; exact Nat.le_of_eq rfl) (hf : rm.frames + 1 ≤ R.frames := by decide) (hl : W + (maxL + 11) + rm.locals ≤ R.locals := by decide) (hc : c1 ≤ R.cells := by decide) (hsl : s1 ≤ R.slots := by decide) (hy : z.cls ≠ "java/lang/invoke/MethodHandle" ∧ z.cls ≠ "java/lang/invoke/VarHandle" := by decide) :
    ∃ v T' L, Stand p l e R s m args below meth c T' (locs ++ L) c1 s1 ∧ Q v T'.heap L ∧ ∀ target, Steps p.tables e below (T'.setTop { g with pc := g.pc + 5, stack := v.toList ++ rest }) target → Steps p.tables e below (T.setTop g) target := by
  subst h1 h2
  obtain ⟨cB, kB, q1, q2, q3⟩ := isOf hZ eT E
  obtain ⟨v, _, ⟨T', L', k', n'⟩, -, X', ⟨L, hQ, l1, y1, z1⟩, st⟩ := X.interfaceBack hx (xi := z) (y := y) hown (mvT hZ w1) (mvT hZ w2) w5 (mvT hZ w3) (mvT hZ w4) (mvT hZ w6) w7 (mvT hZ w8) hy (backOf (W := W) hM hZ wc wz hf hl) q1 q2 q3 hg hml (Steps.refl _) hlen hs hW hd (fun _ _ => ⟨rfl, eT, hc, hsl⟩)
  dsimp only [Pt.U, Pt.locs, Pt.cells, Pt.slots] at X' l1 y1 z1 st hQ
  subst l1 y1 z1
  exact ⟨v, T', L, X', hQ, fun t k => st.trans k⟩
end Calls
theorem own_oz {Z : State} {n0 : Nat} {h : Heap} (O : Old Z n0 h) : n0 ≤ h.size := by
  rw [← O.1]; exact O.2.1
theorem own_lsw {tb : Tables} [Ours tb] {e : Env} {below : List Frame} {T target : State} {m : MethodId} {c : Code} {g : JFrame} (h : At T m c below) (hx : tb.exec = Jvm.exec) (hg : g.method = m) {dflt : Int} {prs : Array (Int × Int)} {len : Nat} {o : Int} {pc0 pc' : Nat} (hpc : g.pc = pc0) (hd : decode c.code g.pc = .ok (.lookupswitch dflt prs, len)) {i : Int32} {rest : List Value} (hs : g.stack = .int i :: rest)
    (hsort : (prs.toList.zip (prs.toList.drop 1)).all (fun (a, next) => a.1 < next.1) = true) (hoff : lookupswitch.offset prs.toList dflt i.toInt = o) (ho : 0 ≤ (pc0 : Int) + o) (hp : ((pc0 : Int) + o).toNat = pc')
    (hr : Steps tb e below (T.setTop { g with pc := pc', stack := rest }) target) : Steps tb e below (T.setTop g) target := by
  subst hg hpc hp
  jvm_step h [h.top, hx, hd, hs, hoff, ho, lookupswitch.wp_chain]
  exact ⟨by simpa using hsort, hr⟩
section Nums
variable {x k : Int32} {n : Int}
theorem own_lt1 (hk : k.toInt = n) (h : x < k) : x.toInt < n := by rw [← hk]; exact Int32.lt_iff_toInt_lt.mp h
theorem own_lt2 (hk : k.toInt = n) (h : k < x) : n < x.toInt := by rw [← hk]; exact Int32.lt_iff_toInt_lt.mp h
theorem own_nlt1 (hk : k.toInt = n) (h : ¬ x < k) : n ≤ x.toInt := by rw [Int32.lt_iff_toInt_lt, hk] at h; omega
theorem own_nlt2 (hk : k.toInt = n) (h : ¬ k < x) : x.toInt ≤ n := by rw [Int32.lt_iff_toInt_lt, hk] at h; omega
theorem own_eq (hk : k.toInt = n) (h : x = k) : x.toInt = n := by rw [← hk, h]
theorem own_neq (hk : k.toInt = n) (h : ¬ x = k) : x.toInt ≠ n := fun q => h (Int32.toInt_inj.mp (by rw [hk, q]))
theorem own_glt1 (hk : k.toInt = n) (h : x.toInt < n) : x < k := Int32.lt_iff_toInt_lt.mpr (by rw [hk]; exact h)
theorem own_glt2 (hk : k.toInt = n) (h : n < x.toInt) : k < x := Int32.lt_iff_toInt_lt.mpr (by rw [hk]; exact h)
theorem own_gnlt1 (hk : k.toInt = n) (h : n ≤ x.toInt) : ¬ x < k := fun q => by have := own_lt1 hk q; omega
theorem own_gnlt2 (hk : k.toInt = n) (h : x.toInt ≤ n) : ¬ k < x := fun q => by have := own_lt2 hk q; omega
theorem own_geq (hk : k.toInt = n) (h : x.toInt = n) : x = k := Int32.toInt_inj.mp (by rw [hk, h])
theorem own_gneq (hk : k.toInt = n) (h : x.toInt ≠ n) : ¬ x = k := fun q => h (own_eq hk q)
theorem own_and (hk : k.toInt = n) (h0 : 0 ≤ n) : 0 ≤ (x &&& k).toInt ∧ (x &&& k).toInt ≤ n := by have := c_and x k (by rw [hk]; exact h0); rw [hk] at this; exact this
theorem own_and2 (hk : k.toInt = n) (h0 : 0 ≤ n) : 0 ≤ (k &&& x).toInt ∧ (k &&& x).toInt ≤ n := by have := c_and' k x (by rw [hk]; exact h0); rw [hk] at this; exact this
theorem own_rem (hk : k.toInt = n) (h0 : 0 < n) (hx : 0 ≤ x.toInt) : 0 ≤ (x % k).toInt ∧ (x % k).toInt < n ∧ (x % k).toInt ≤ x.toInt := by
  have := (c_iremV x k).1 hx (by rw [hk]; exact h0); rw [hk] at this; exact ⟨this.1, this.2.1, this.2.2.1⟩
theorem own_add {lo hi : Int} (hk : k.toInt = n) (hx : lo ≤ x.toInt ∧ x.toInt ≤ hi) (h1 : -2147483648 ≤ lo + n) (h2 : hi + n < 2147483648) : lo + n ≤ (x + k).toInt ∧ (x + k).toInt ≤ hi + n := by
  have := c_iadd x k; have := rng32 (x + k); rw [hk] at *; omega
theorem own_add2 {lo hi : Int} (hk : k.toInt = n) (hx : lo ≤ x.toInt ∧ x.toInt ≤ hi) (h1 : -2147483648 ≤ lo + n) (h2 : hi + n < 2147483648) : lo + n ≤ (k + x).toInt ∧ (k + x).toInt ≤ hi + n := by
  have := c_iadd k x; have := rng32 (k + x); rw [hk] at *; omega
end Nums
theorem own_len {Z : State} {args : Array Value} {t : Term} {a : Addr} {c : Cell} {ty : FieldType} {n : Int32} (A : Arr Z Z.heap a c ty) (ev : t.eval args Z none [] Z = some (.ref a)) (h : (Term.length t).eval args Z none [] Z = some (.int n)) : c.slots.size < 2 ^ 31 ∧ c.slots.size.toInt32 = n := by
  have q := A.fin (Vm.Alike.refl _)
  by_cases z : c.slots.size < 2 ^ 31
  · rw [len_f ev q z] at h; exact ⟨z, Value.int.inj (Option.some.inj h)⟩
  · simp [Term.eval, ev, q, z] at h
theorem own_selp {s : State} {args : Array Value} {y z : MethodName} {C : String} (w : (Cond.selects C z z).before args s = true) (hc : z.cls = y.cls) (hp : s.PrivateAt y) (hi : (Cond.instanceMethod y).before args s = true) (hy : y.cls ≠ "java/lang/invoke/MethodHandle" ∧ y.cls ≠ "java/lang/invoke/VarHandle") : (Cond.selects y.cls y y).before args s = true := by
  obtain ⟨c2, r2, m2, -, -, q3, -, kP, hkP, hkPi⟩ := Cond.selects_spec w
  exact selects_self_of_private (by rw [← hc]; exact findClass_of_methodNamed q3) hkP hkPi hp hi hy
theorem own_max64 (x : Int64) : ¬ (9223372036854775807 : Int64) < x := fun h => by have := rng64 x; rw [Int64.lt_iff_toInt_lt, show (9223372036854775807 : Int64).toInt = 9223372036854775807 by decide] at h; omega
theorem own_min64 (x : Int64) : ¬ x < (-9223372036854775808 : Int64) := fun h => by have := rng64 x; rw [Int64.lt_iff_toInt_lt, show (-9223372036854775808 : Int64).toInt = -9223372036854775808 by decide] at h; omega
theorem own_root {Z : State} {a0 : Array Value} {O K : String} {n : Nat} (w : (Cond.noSuperclass O).before a0 Z = true) (wk : (Cond.instantiable K n).before a0 Z = true) (hn : O ≠ K) : NS Z O K := by
  obtain ⟨c, k, h1, h2, h3, -, -⟩ := Cond.noSuperclass_spec w
  obtain ⟨t, kt, g1, -⟩ := Cond.instantiable_spec wk
  have ne := ids_ne h1 g1 hn
  refine ⟨c, t, h1, g1, fun fuel => ?_⟩
  cases fuel with
  | zero => rfl
  | succ f => simp [Vm.isSubclassAux, ne, h2, h3]
theorem own_no {Z : State} {a0 : Array Value} {C S K : String} {n : Nat} (w : (Cond.superclass C S).before a0 Z = true) (wk : (Cond.instantiable K n).before a0 Z = true) (q : NS Z C K) (hn : C ≠ K) : ∃ c t, Z.vm.findClass C = some c ∧ Z.vm.findClass K = some t ∧ Z.vm.assignable c t = false := by
  obtain ⟨c, t, h0, g0, n3⟩ := q
  obtain ⟨p, k, kp, h1, h2, h3, h4, h5, -, h7⟩ := Cond.superclass_spec h0 w
  obtain ⟨t', k', g1, g2, g3, g4, -⟩ := Cond.instantiable_spec wk
  cases g0.symm.trans g1
  have ne := ids_ne h0 g0 hn
  have g5 : k'.isInterface = false := by simp only [Bool.or_eq_false_iff] at g4; exact g4.1
  refine ⟨c, t, h0, g0, ?_⟩
  show Z.vm.assignableAux (255 + 1) c t = false
  simp [Vm.assignableAux, ne, h2, g2, h5, g3, g5, Vm.isSubclass, n3]
theorem own_sub {x k : Int32} {n lo hi : Int} (hk : k.toInt = n) (hx : lo ≤ x.toInt ∧ x.toInt ≤ hi) (h1 : -2147483648 ≤ lo - n) (h2 : hi - n < 2147483648) : lo - n ≤ (x - k).toInt ∧ (x - k).toInt ≤ hi - n := by
  have := c_isub x k; have := rng32 (x - k); rw [hk] at *; omega
theorem own_dbl {x : Int32} {lo hi : Int} (hx : lo ≤ x.toInt ∧ x.toInt ≤ hi) (h1 : -1073741824 ≤ lo) (h2 : hi < 1073741824) : 2 * lo ≤ ((2 : Int32) * x).toInt ∧ ((2 : Int32) * x).toInt ≤ 2 * hi := by
  have := c_imul 2 x; have := rng32 (2 * x); rw [show (2 : Int32).toInt = 2 by decide] at *; omega
theorem own_nz {x : Int32} (h : 0 ≤ x.toInt ∧ x.toInt ≤ 1) : nar .boolean x = x := by
  have q : x = 0 ∨ x = 1 := by
    rcases (by omega : x.toInt = 0 ∨ x.toInt = 1) with q | q
    · exact Or.inl (own_geq (by decide) q)
    · exact Or.inr (own_geq (by decide) q)
  rcases q with rfl | rfl <;> decide
theorem own_fz {x : Int32} (h : 0 ≤ x.toInt ∧ x.toInt ≤ 1) : fits .boolean (.int x) = true := by
  have q : x = 0 ∨ x = 1 := by
    rcases (by omega : x.toInt = 0 ∨ x.toInt = 1) with q | q
    · exact Or.inl (own_geq (by decide) q)
    · exact Or.inr (own_geq (by decide) q)
  rcases q with rfl | rfl <;> decide
theorem own_nb8 (x : Int32) : nar .byte (x.toInt8.toInt32) = x.toInt8.toInt32 := by
  show (x.toInt8.toInt32).toInt8.toInt32 = x.toInt8.toInt32
  simp
theorem own_ldcF {p : Program} {l : Launch} {e : Env} {R : Room} {s : State} {m : MethodId} {args : Array Value} {below : List Frame} {meth : Method} {c : Code} {T : State} {locs : List Loc} {cells slots : Nat} {Z : State} {a0 : Array Value} {own : String} {index : Nat} {b : UInt32} {g : JFrame}
    (X : Stand p l e R s m args below meth c T locs cells slots) (hx : p.tables.exec = Jvm.exec) (hZ : Z.Warmed39 s.vm) (hown : s.vm.findClass own = some m.cls) (w : (Cond.constantFloat own index b).before a0 Z = true) (hg : g.method = m) (hd : decode c.code g.pc = .ok (.ldc index, 2)) :
    ∀ target, Steps p.tables e below (T.setTop { g with pc := g.pc + 2, stack := .float b :: g.stack }) target → Steps p.tables e below (T.setTop g) target := by
  obtain ⟨k, cf, h1, h2, h3⟩ := Cond.constantFloat_spec hown (mvT (args := args) hZ w)
  exact X.ldcFloat hx h1 h2 h3 hg hd
theorem own_eqR {Z : State} {args : Array Value} {a b : Term} {idx : List Nat} {w : Addr} (hb : b.eval args Z none idx Z = some (.ref w)) (h : (Cond.eq a b).value args Z none Z idx = some true) : a.eval args Z none idx Z = some (.ref w) := by
  simp only [Cond.value, hb] at h
  cases ht : a.eval args Z none idx Z with
  | none => simp [ht] at h
  | some x => cases x <;> simp [ht] at h ⊢; exact h
set_option maxRecDepth 65536 in
set_option maxHeartbeats 4000000 in
theorem own_idb {l : Launch} {R : Room} {p : Program} {e : Env} {below : List Frame} {s : State} {sargs : Array Value} {y : MethodName} {bytes : ByteArray} {ty : String} {len W : Nat}
    (hexec : p.tables.exec = Jvm.exec) (hpl : plainFor y = true) (d0 : decode bytes 0 = .ok (.aload_n 0, 1)) (d1 : decode bytes 1 = .ok (.areturn, 1)) (hframes : 1 ≤ R.frames) (hlocals : W + 12 ≤ R.locals) :
    Back l R p e below s sargs y len W (fun A a => A.cells ≤ R.cells ∧ A.slots ≤ R.slots ∧ (∃ b, a = #[.ref b]) ∧ (Cond.code y bytes 1 (some (.object ty))).before a A.U = true) (fun A a v B => B = A ∧ ∃ b, a = #[.ref b] ∧ v = some (.ref b)) := by
  intro m meth c A g ig mk a X hg hsize hdg hW hn hp
  obtain ⟨U, Ls, c0, s0⟩ := A
  dsimp only [Pt.U, Pt.locs, Pt.cells, Pt.slots] at hp X hn ⊢
  obtain ⟨hce, hsl, ⟨b, rfl⟩, hc⟩ := hp
  obtain ⟨methY, cY, hmY, hcY, hbY, hlY, hrY, hkY, -, -⟩ := Cond.code_spec hn hc
  have h : At U g.method c below := by rw [hg]; exact X.here
  have hroom : (U.calling g mk #[.ref b]).hasRoom e.platform ({ frames := 0, cells := 0, slots := 0, locals := 0 } : Room) = true :=
    X.room_calling (g := g) hsize hmY hcY (by simpa using hframes) (by rw [hlY]; show _ + (1 + 11) + 0 ≤ _; omega) (by simpa using hce) (by simpa using hsl)
  have hf := State.frames_calling h.top g mk #[.ref b]
  generalize hfirst : U.calling g mk #[.ref b] = first at hf hroom
  have hcur := State.cur_lt_of_frames hf
  have hmF : first.vm.method? mk = some methY := by rw [← hfirst]; exact hmY
  have hnF : first.methodNamed? y = some mk := by rw [← hfirst]; exact hn
  generalize hbl : (Frame.java g :: U.frames.tail) = bl at hf
  have hf1 : (first.setFrames (.java (entryFrame mk #[.ref b] 1) :: bl)).frames = .java (entryFrame mk #[.ref b] 1) :: bl := State.frames_setFrames _ hcur
  have ht1 := State.topJava?_of_frames hf1
  have hplain : (first.setFrames (.java (entryFrame mk #[.ref b] 1) :: bl)).plainMethod mk := State.plainMethod.of_named (s := first) hpl hnF hmF
  obtain ⟨mid, hmid⟩ := h.above
  have hAt : At (first.setFrames (.java (entryFrame mk #[.ref b] 1) :: bl)) mk cY below :=
    ⟨by rw [ht1]; rfl, ⟨.java g :: mid, by rw [hf1, ← hbl, hmid]; rfl⟩, by rw [← hfirst]; exact h.running, by rw [← hfirst]; simpa [State.calling] using h.runnable, by rw [← hfirst]; simpa [State.calling] using h.alone,
      by rw [State.code?_eq]; simp [State.setFrames, hmF, hcY], hplain⟩
  have hstep : (doInvoke e (U.setTop g) [] mk #[.ref b]).1 = (first.setFrames (.java (entryFrame mk #[.ref b] 1) :: bl)).setTop (entryFrame mk #[.ref b] 1) := by
    have hfull : e.platform.stackFull (first.setFrames bl).me (first.setFrames bl).frames cY.maxLocals = false := by
      obtain ⟨-, h1, -, h2⟩ := State.hasRoom_stack hroom
      rw [hf, List.length_cons] at h1
      rw [State.localsInUse_invoking hf hmF hcY] at h2
      have hw := stackUse_le_stackWeight bl
      rw [State.frames_setFrames _ hcur]
      exact Platform.stackFull_eq_false (by rw [State.stackLimits_setFrames]; omega) (by rw [State.stackLimits_setFrames]; omega)
    have hU : U.setTop g = first.setFrames bl := by
      rw [← hfirst, State.calling_eq h.top, State.setFrames_setFrames, ← hbl]
      obtain ⟨g₀, hg0⟩ := Option.isSome_iff_exists.mp h.top
      obtain ⟨r, hr⟩ := State.topJava?_eq_some.mp hg0
      rw [State.setTop_of_frames _ hr, hr]; rfl
    rw [hU, (doInvoke_java (s := first.setFrames bl) (e := e) (meth := methY) (code := cY) hmF hcY hkY hfull).1, State.setTop_self ht1]
    simp only [State.pushFrame, State.frames_setFrames _ hcur, State.setFrames_setFrames, hlY, entryFrame]
  refine ⟨some (.ref b), ⟨U, Ls, c0, s0⟩, X, ⟨rfl, b, rfl, rfl⟩, ?_⟩
  rw [hstep]
  show Steps p.tables e below ((first.setFrames (.java (entryFrame mk #[.ref b] 1) :: bl)).setTop (mkF mk 0 #[.val (.ref b)] [])) _
  refine XS.aloadN hAt hexec rfl (hb hbY d0) rfl rfl ?_
  have hm' : (first.setFrames (.java (entryFrame mk #[.ref b] 1) :: bl)).vm.method? mk = some methY := hmF
  have hho : handOver (first.setFrames (.java (entryFrame mk #[.ref b] 1) :: bl)) (some (.ref b)) bl = some (.java { g with pc := g.pc + len, stack := .ref b :: g.stack } :: U.frames.tail) := by
    have hcode : (first.setFrames (.java (entryFrame mk #[.ref b] 1) :: bl)).code? g.method = some c := by
      have := h.code
      rw [State.code?_eq] at this ⊢
      rw [← hfirst]
      simpa [State.calling, State.pushFrame, State.setFrames] using this
    rw [← hbl] at hcode ⊢
    simp [handOver, hcode, hdg, Except.toOption]
  have hleave := fun (f : JFrame) (acts : List Action) (q1 : f.method = mk) (q2 : f.locked = none) (q3 : f.entered = []) => ret_to (e := e) hf1 (f := f) (by rw [q1]; exact hm') hkY q2 q3 hho acts
  have hend : (first.setFrames (.java (entryFrame mk #[.ref b] 1) :: bl)).setFrames (.java { g with pc := g.pc + len, stack := .ref b :: g.stack } :: U.frames.tail) = U.setTop { g with pc := g.pc + len, stack := .ref b :: g.stack } := by
    obtain ⟨g₀, hg0⟩ := Option.isSome_iff_exists.mp h.top
    obtain ⟨r, hr⟩ := State.topJava?_eq_some.mp hg0
    rw [← hfirst, State.calling_eq h.top, State.setFrames_setFrames, State.setFrames_setFrames, State.setTop_of_frames _ hr, hr]; rfl
  show Steps p.tables e below _ (U.setTop { g with pc := g.pc + len, stack := .ref b :: g.stack })
  rw [← hend]
  have hdg1 := hb hbY d1
  show Steps p.tables e below ((first.setFrames (.java (entryFrame mk #[.ref b] 1) :: bl)).setTop { method := mk, pc := 1, locals := #[.val (.ref b)], stack := [.ref b], locked := none }) _
  jvm_step hAt [hAt.top, hexec, hdg1, hm', hrY, narrow, Value.isRef, FieldType.isReference]
  refine ⟨methY, hmF, ⟨_, hrY, rfl⟩, fun acts => ?_⟩
  rw [hleave _ acts rfl rfl rfl, State.setFrames_setFrames]
  exact Steps.refl _
theorem own_id {p : Program} {l : Launch} {e : Env} {R : Room} {s : State} {m : MethodId} {args : Array Value} {below : List Frame} {meth : Method} {c : Code} {T : State} {locs : List Loc} {cells slots : Nat} {Z : State} {a0 : Array Value} {h : Heap}
    {own C ty : String} {index count : Nat} {y z : MethodName} {bytes : ByteArray} {a : Addr} {rest : List Value} {g : JFrame}
    (X : Stand p l e R s m args below meth c T locs cells slots) (hx : p.tables.exec = Jvm.exec) (hZ : Z.Warmed39 s.vm) (hown : s.vm.findClass own = some m.cls)
    (w1 : (Cond.methodLink own index z).before a0 Z = true) (w2 : (Cond.declares z).before a0 Z = true) (w5 : (Cond.interfaceMethod z.cls z.cls z.name z.desc).before args s = true) (w3 : (Cond.landsInDefault C z y).before a0 Z = true) (w4 : (Cond.instanceMethod y).before a0 Z = true) (w6 : (Cond.publicMethod y).before a0 Z = true) (w8 : (Cond.castable C z.cls).before a0 Z = true) (wc : (Cond.code y bytes 1 (some (.object ty))).before a0 Z = true)
    (eT : T.heap = h) (E : Exa Z h a C) (hpl : plainFor y = true) (d0 : decode bytes 0 = .ok (.aload_n 0, 1)) (d1 : decode bytes 1 = .ok (.areturn, 1))
    (hg : g.method = m) (hml : g.locals.size = c.maxLocals) (hs : g.stack = .ref a :: rest) (hd : decode c.code g.pc = .ok (.invokeinterface index count, 5)) (hlen : ∀ sig, parseMethodDescriptor z.desc = some sig → ([] : List Value).length = sig.parameters.length)
    {W : Nat} (hW : 2 * g.monitorRoom + (rest.map fun v => v.category).sum ≤ W := by show 2 * 0 + _ ≤ _; exact Nat.le_of_eq rfl) (hf : 1 ≤ R.frames := by decide) (hl : W + 12 ≤ R.locals := by decide) (hc : cells ≤ R.cells := by decide) (hsl : slots ≤ R.slots := by decide) (hy : z.cls ≠ "java/lang/invoke/MethodHandle" ∧ z.cls ≠ "java/lang/invoke/VarHandle" := by decide) :
    ∃ T', Stand p l e R s m args below meth c T' locs cells slots ∧ T'.heap = h ∧ ∀ target, Steps p.tables e below (T'.setTop { g with pc := g.pc + 5, stack := .ref a :: rest }) target → Steps p.tables e below (T.setTop g) target := by
  obtain ⟨cB, kB, q1, q2, q3⟩ := isOf hZ eT E
  obtain ⟨v, vm₁, B, hW1, X', ⟨rfl, b, hb, rfl⟩, st⟩ := X.interfaceBackD hx (xi := z) (y := y) hown (mvT hZ w1) (mvT hZ w2) w5 (mvD hZ w3) (mvT hZ w4) (mvT hZ w6) (mvT hZ w8) hy (own_idb (W := W) hx hpl d0 d1 hf hl) q1 q2 q3 hg hml (Steps.refl _) (argsL := []) (rest := rest) hlen hs hW hd (fun vm₁ hv => ⟨hc, hsl, ⟨a, rfl⟩, mv (wtrans hZ hv) wc⟩)
  cases hb
  exact ⟨_, X', eT, fun t k => st.trans k⟩
abbrev yn0 : MethodName := ⟨"com/example/horn1/horn1/term/Var", "<init>", "(J)V"⟩
abbrev yn1 : MethodName := ⟨"com/example/horn1/horn1/term/Int", "<init>", "(JLjava/math/BigInteger;)V"⟩
abbrev yn2 : MethodName := ⟨"com/example/horn1/horn1/term/Int", "of", "(J)Lcom/example/horn1/horn1/term/Int;"⟩
abbrev yn3 : MethodName := ⟨"com/example/horn1/horn1/term/Var", "deref", "()Lcom/example/horn1/horn1/term/Term;"⟩
abbrev yn4 : MethodName := ⟨"com/example/horn1/horn1/term/Term", "deref", "()Lcom/example/horn1/horn1/term/Term;"⟩
abbrev yn5 : MethodName := ⟨"com/example/horn1/horn1/term/Var", "bind", "(Lcom/example/horn1/horn1/term/Term;)V"⟩
abbrev yn6 : MethodName := ⟨"com/example/horn1/horn1/term/Var", "unbind", "()V"⟩
def Q0 (n0 : Nat) (v : Option Value) (h : Heap) (L : List Loc) : Prop := v = some (.int (1 : Int32)) ∧ Fr n0 L
theorem d0_0 : decode prog_93_method_2_code 0 = .ok (.aload_n 0, 1) := by decide +kernel
theorem d0_1 : decode prog_93_method_2_code 1 = .ok (.invokespecial 17, 3) := by decide +kernel
theorem d0_4 : decode prog_93_method_2_code 4 = .ok (.aload_n 0, 1) := by decide +kernel
theorem d0_5 : decode prog_93_method_2_code 5 = .ok (.lload_n 1, 1) := by decide +kernel
theorem d0_6 : decode prog_93_method_2_code 6 = .ok (.putfield 22, 3) := by decide +kernel
theorem d0_9 : decode prog_93_method_2_code 9 = .ok (.return_, 1) := by decide +kernel
theorem pn0 : plainName "com/example/horn1/horn1/term/Var" = true := by first | (simp [plainName, overriddenIn]; done) | decide +kernel
theorem ef1 (m : MethodId) (x0 : Addr) (x1 : Int64) : entryFrame m #[(.ref x0), (.long x1)] 3 = mkF m 0 #[.val (.ref x0), .val (.long x1), .second] [] := by first | (simp [entryFrame, mkF, argsToLocals, Value.category]; done) | rfl
def Q1 (Z : State) (o1 : Addr) (q2 : Int64) (h0 : Heap) (n0 : Nat) (v : Option Value) (h : Heap) (L : List Loc) : Prop :=
  (v = none ∧ Fr n0 L ∧ Keep h0 h [o1] ∧ (Exa Z h o1 "com/example/horn1/horn1/term/Var") ∧ (Fld Z h o1 "com/example/horn1/horn1/term/Var" "binding" "Lcom/example/horn1/horn1/term/Term;" .null) ∧ (Fld Z h o1 "com/example/horn1/horn1/term/Var" "serial" "J" (.long q2)))
set_option maxRecDepth 65536 in
set_option maxHeartbeats 40000000 in
theorem rm1 (l : Launch) (Z : State) (a0 : Array Value) (hw : ∀ d ∈ tables_1, d.before a0 Z = true) (ws : List Jvm.Cond) (o1 : Addr) (q2 : Int64) (h0 : Heap) (n0 : Nat) (O0 : Old Z n0 h0) (g_o1 : n0 ≤ o1) (P0 : Exa Z h0 o1 "com/example/horn1/horn1/term/Var") (P1 : Fld Z h0 o1 "com/example/horn1/horn1/term/Var" "binding" "Lcom/example/horn1/horn1/term/Term;" .null) (P2 : Fld Z h0 o1 "com/example/horn1/horn1/term/Var" "serial" "J" (.long 0)) :
    MetFree l yn0 (head1 (Jvm.Cond.code yn0 prog_93_method_2_code 3 none :: ws) ({ frames := 1, cells := 0, slots := 0, locals := 12 } : Room)) (fun a U => a = #[(.ref o1), (.long q2)] ∧ Z.Warmed39 U.vm ∧ U.heap = h0) (fun _ _ _ _ _ => True) (fun _ U o U' => ∃ v L, o = .returned v ∧ Q1 Z o1 q2 h0 n0 v U'.heap L ∧ FrameEnd U o U' L ({ frames := 1, cells := 0, slots := 0, locals := 12 } : Room).cells ({ frames := 1, cells := 0, slots := 0, locals := 12 } : Room).slots) := by
  refine MetFree.of_bodySF (plainFor_of_name pn0) hisR ?_
  intro p e s m args below meth c s₁ Bd hml0 hP hK
  obtain ⟨rfl, hZ, hh⟩ := hP
  have hx := Bd.exec
  have hby := Bd.bytes
  have hml : c.maxLocals = 3 := hml0
  have hown : s.vm.findClass "com/example/horn1/horn1/term/Var" = some m.cls := findClass_of_methodNamed Bd.named
  have hnm := (name_of_methodNamed Bd.named Bd.method).1
  have hret := Bd.returns
  have hlk : meth.locks = false := BodyLoose.notSynchronized Bd
  have X0 : Stand p l e ({ frames := 1, cells := 0, slots := 0, locals := 12 } : Room) s m #[(.ref o1), (.long q2)] below meth c s₁ [] 0 0 := Stand.of_body Bd
  have e0 : s₁.heap = h0 := by rw [← hh, Bd.state]; rfl
  have N0 := Fr.nil n0
  have pre0 : ∀ t, Steps p.tables e below (s₁.setTop (mkF m 0 #[.val (.ref o1), .val (.long q2), .second] [])) t → Steps p.tables e below (s₁.setTop (entryFrame m #[(.ref o1), (.long q2)] 3)) t := fun t k => castTop (ef1 m o1 q2) k
  obtain ⟨T1, X1, e1, st1⟩ := initO X0 hx hZ hown (own_w hw 6 rfl) (own_w hw 7 rfl) (own_w hw 8 rfl) e0 (g := (mkF m 1 #[.val (.ref o1), .val (.long q2), .second] [(.ref o1)])) rfl (by rw [hml]; rfl) rfl (hb hby d0_1) (by decide) (W := 0) (by show 2 * 0 + _ ≤ _; exact Nat.le_of_eq rfl) (by decide)
  obtain ⟨T2, h2, X2, e2, W2, st2⟩ := putF X1 hx hZ hown (host := "") (Or.inl (own_w hw 9 rfl)) Via.refl e1 P2 P0 (Or.inr ⟨(own_w hw 10 rfl), rfl, hnm⟩) (own_w hw 1 rfl) (ty := .long) (by decide) rfl rfl (g := (mkF m 6 #[.val (.ref o1), .val (.long q2), .second] [(.long q2), (.ref o1)])) rfl rfl (hb hby d0_6)
  have N2 := Fr.snoc X2 N0 g_o1
  have Fw2 := P2.same W2
  have M2 : h0.size ≤ h2.size := Nat.le_trans (Nat.le_refl _) (Nat.le_of_eq W2.size.symm)
  have O2 := Old.wr O0 W2 g_o1
  obtain ⟨fs, hr, hrun, hended, hW, hsame⟩ := X2.leave (v := none) (fun _ => rfl)
  have KL : Keep h0 h2 [o1] := ((Keep.refl h0 [o1]).wr W2 (Or.inl (List.mem_of_getElem? (i := 0) rfl)))
  have f3 := (P0.wr W2)
  have f4 := (P1.other W2 (Or.inr (slot_ne (Or.inl (own_w hw 31 rfl)) (Or.inr (own_w hw 10 rfl)) (by decide) (t := (.object "com/example/horn1/horn1/term/Term")) (t' := .long) (by decide) (by decide))))
  refine ⟨_, _, pre0 _ ?_, hrun, hended, _, _, rfl, ?_, ⟨_, rfl⟩, hW, hsame.mono (by decide) (by decide)⟩
  ·
    show Steps p.tables e below (s₁.setTop (mkF m 0 #[.val (.ref o1), .val (.long q2), .second] [])) _
    refine XS.aloadN X0.here hx rfl (hb hby d0_0) rfl rfl ?_
    refine st1 _ ?_
    refine XS.aloadN X1.here hx rfl (hb hby d0_4) rfl rfl ?_
    refine XS.lloadN X1.here hx rfl (hb hby d0_5) rfl ?_
    refine st2 _ ?_
    show Steps p.tables e below (T2.setTop (mkF m 9 #[.val (.ref o1), .val (.long q2), .second] [])) _
    exact X2.returnOut hx hret (hb hby d0_9) hr
  ·
    show Q1 Z o1 q2 h0 n0 _ T2.heap _
    rw [e2]
    exact ⟨rfl, N2, KL, f3, f4, Fw2⟩
theorem pd0 : parseMethodDescriptor "(J)V" = some ⟨[.long], none⟩ := by decide +kernel
theorem d1_0 : decode prog_89_method_2_code 0 = .ok (.new 8, 3) := by decide +kernel
theorem d1_3 : decode prog_89_method_2_code 3 = .ok (.dup, 1) := by decide +kernel
theorem d1_4 : decode prog_89_method_2_code 4 = .ok (.lload_n 0, 1) := by decide +kernel
theorem d1_5 : decode prog_89_method_2_code 5 = .ok (.aconst_null, 1) := by decide +kernel
theorem d1_6 : decode prog_89_method_2_code 6 = .ok (.invokespecial 17, 3) := by decide +kernel
theorem d2_0 : decode prog_89_method_1_code 0 = .ok (.aload_n 0, 1) := by decide +kernel
theorem d2_1 : decode prog_89_method_1_code 1 = .ok (.invokespecial 1, 3) := by decide +kernel
theorem d2_4 : decode prog_89_method_1_code 4 = .ok (.aload_n 0, 1) := by decide +kernel
theorem d2_5 : decode prog_89_method_1_code 5 = .ok (.lload_n 1, 1) := by decide +kernel
theorem d2_6 : decode prog_89_method_1_code 6 = .ok (.putfield 7, 3) := by decide +kernel
theorem d2_9 : decode prog_89_method_1_code 9 = .ok (.aload_n 0, 1) := by decide +kernel
theorem d2_10 : decode prog_89_method_1_code 10 = .ok (.aload_n 3, 1) := by decide +kernel
theorem d2_11 : decode prog_89_method_1_code 11 = .ok (.putfield 13, 3) := by decide +kernel
theorem d2_14 : decode prog_89_method_1_code 14 = .ok (.return_, 1) := by decide +kernel
theorem pn1 : plainName "com/example/horn1/horn1/term/Int" = true := by first | (simp [plainName, overriddenIn]; done) | decide +kernel
theorem ef2 (m : MethodId) (x0 : Addr) (x1 : Int64) : entryFrame m #[(.ref x0), (.long x1), .null] 4 = mkF m 0 #[.val (.ref x0), .val (.long x1), .second, .val .null] [] := by first | (simp [entryFrame, mkF, argsToLocals, Value.category]; done) | rfl
def Q2 (Z : State) (o1 : Addr) (q2 : Int64) (h0 : Heap) (n0 : Nat) (v : Option Value) (h : Heap) (L : List Loc) : Prop :=
  (v = none ∧ Fr n0 L ∧ Keep h0 h [o1] ∧ (Exa Z h o1 "com/example/horn1/horn1/term/Int") ∧ (Fld Z h o1 "com/example/horn1/horn1/term/Int" "big" "Ljava/math/BigInteger;" .null) ∧ (Fld Z h o1 "com/example/horn1/horn1/term/Int" "small" "J" (.long q2)))
set_option maxRecDepth 65536 in
set_option maxHeartbeats 40000000 in
theorem rm2 (l : Launch) (Z : State) (a0 : Array Value) (hw : ∀ d ∈ tables_1, d.before a0 Z = true) (ws : List Jvm.Cond) (o1 : Addr) (q2 : Int64) (h0 : Heap) (n0 : Nat) (O0 : Old Z n0 h0) (g_o1 : n0 ≤ o1) (P0 : Exa Z h0 o1 "com/example/horn1/horn1/term/Int") (P1 : Fld Z h0 o1 "com/example/horn1/horn1/term/Int" "big" "Ljava/math/BigInteger;" .null) (P2 : Fld Z h0 o1 "com/example/horn1/horn1/term/Int" "small" "J" (.long 0)) :
    MetFree l yn1 (head1 (Jvm.Cond.code yn1 prog_89_method_1_code 4 none :: ws) ({ frames := 1, cells := 0, slots := 0, locals := 12 } : Room)) (fun a U => a = #[(.ref o1), (.long q2), .null] ∧ Z.Warmed39 U.vm ∧ U.heap = h0) (fun _ _ _ _ _ => True) (fun _ U o U' => ∃ v L, o = .returned v ∧ Q2 Z o1 q2 h0 n0 v U'.heap L ∧ FrameEnd U o U' L ({ frames := 1, cells := 0, slots := 0, locals := 12 } : Room).cells ({ frames := 1, cells := 0, slots := 0, locals := 12 } : Room).slots) := by
  refine MetFree.of_bodySF (plainFor_of_name pn1) hisR ?_
  intro p e s m args below meth c s₁ Bd hml0 hP hK
  obtain ⟨rfl, hZ, hh⟩ := hP
  have hx := Bd.exec
  have hby := Bd.bytes
  have hml : c.maxLocals = 4 := hml0
  have hown : s.vm.findClass "com/example/horn1/horn1/term/Int" = some m.cls := findClass_of_methodNamed Bd.named
  have hnm := (name_of_methodNamed Bd.named Bd.method).1
  have hret := Bd.returns
  have hlk : meth.locks = false := BodyLoose.notSynchronized Bd
  have X0 : Stand p l e ({ frames := 1, cells := 0, slots := 0, locals := 12 } : Room) s m #[(.ref o1), (.long q2), .null] below meth c s₁ [] 0 0 := Stand.of_body Bd
  have e0 : s₁.heap = h0 := by rw [← hh, Bd.state]; rfl
  have N0 := Fr.nil n0
  have pre0 : ∀ t, Steps p.tables e below (s₁.setTop (mkF m 0 #[.val (.ref o1), .val (.long q2), .second, .val .null] [])) t → Steps p.tables e below (s₁.setTop (entryFrame m #[(.ref o1), (.long q2), .null] 4)) t := fun t k => castTop (ef2 m o1 q2) k
  obtain ⟨T1, X1, e1, st1⟩ := initO X0 hx hZ hown (own_w hw 20 rfl) (own_w hw 7 rfl) (own_w hw 8 rfl) e0 (g := (mkF m 1 #[.val (.ref o1), .val (.long q2), .second, .val .null] [(.ref o1)])) rfl (by rw [hml]; rfl) rfl (hb hby d2_1) (by decide) (W := 0) (by show 2 * 0 + _ ≤ _; exact Nat.le_of_eq rfl) (by decide)
  obtain ⟨T2, h2, X2, e2, W2, st2⟩ := putF X1 hx hZ hown (host := "") (Or.inl (own_w hw 21 rfl)) Via.refl e1 P2 P0 (Or.inr ⟨(own_w hw 22 rfl), rfl, hnm⟩) (own_w hw 16 rfl) (ty := .long) (by decide) rfl rfl (g := (mkF m 6 #[.val (.ref o1), .val (.long q2), .second, .val .null] [(.long q2), (.ref o1)])) rfl rfl (hb hby d2_6)
  have N2 := Fr.snoc X2 N0 g_o1
  have Fw2 := P2.same W2
  have M2 : h0.size ≤ h2.size := Nat.le_trans (Nat.le_refl _) (Nat.le_of_eq W2.size.symm)
  have O2 := Old.wr O0 W2 g_o1
  have f3 := (P1.other W2 (Or.inr (slot_ne (Or.inr (own_w hw 24 rfl)) (Or.inr (own_w hw 22 rfl)) (by decide) (t := (.object "java/math/BigInteger")) (t' := .long) (by decide) (by decide))))
  have f4 := (P0.wr W2)
  obtain ⟨T5, h5, X5, e5, W5, st5⟩ := putF X2 hx hZ hown (host := "") (Or.inl (own_w hw 23 rfl)) Via.refl e2 f3 f4 (Or.inr ⟨(own_w hw 24 rfl), rfl, hnm⟩) (own_w hw 16 rfl) (ty := (.object "java/math/BigInteger")) (by decide) rfl rfl (g := (mkF m 11 #[.val (.ref o1), .val (.long q2), .second, .val .null] [.null, (.ref o1)])) rfl rfl (hb hby d2_11)
  have N5 := Fr.snoc X5 N2 g_o1
  have Fw5 := f3.same W5
  have M5 : h0.size ≤ h5.size := Nat.le_trans M2 (Nat.le_of_eq W5.size.symm)
  have O5 := Old.wr O2 W5 g_o1
  obtain ⟨fs, hr, hrun, hended, hW, hsame⟩ := X5.leave (v := none) (fun _ => rfl)
  have KL : Keep h0 h5 [o1] := (((Keep.refl h0 [o1]).wr W2 (Or.inl (List.mem_of_getElem? (i := 0) rfl))).wr W5 (Or.inl (List.mem_of_getElem? (i := 0) rfl)))
  have f6 := (f4.wr W5)
  have f7 := (Fw2.other W5 (Or.inr (slot_ne (Or.inr (own_w hw 22 rfl)) (Or.inr (own_w hw 24 rfl)) (by decide) (t := .long) (t' := (.object "java/math/BigInteger")) (by decide) (by decide))))
  refine ⟨_, _, pre0 _ ?_, hrun, hended, _, _, rfl, ?_, ⟨_, rfl⟩, hW, hsame.mono (by decide) (by decide)⟩
  ·
    show Steps p.tables e below (s₁.setTop (mkF m 0 #[.val (.ref o1), .val (.long q2), .second, .val .null] [])) _
    refine XS.aloadN X0.here hx rfl (hb hby d2_0) rfl rfl ?_
    refine st1 _ ?_
    refine XS.aloadN X1.here hx rfl (hb hby d2_4) rfl rfl ?_
    refine XS.lloadN X1.here hx rfl (hb hby d2_5) rfl ?_
    refine st2 _ ?_
    refine XS.aloadN X2.here hx rfl (hb hby d2_9) rfl rfl ?_
    refine XS.aloadN X2.here hx rfl (hb hby d2_10) rfl rfl ?_
    refine st5 _ ?_
    show Steps p.tables e below (T5.setTop (mkF m 14 #[.val (.ref o1), .val (.long q2), .second, .val .null] [])) _
    exact X5.returnOut hx hret (hb hby d2_14) hr
  ·
    show Q2 Z o1 q2 h0 n0 _ T5.heap _
    rw [e5]
    exact ⟨rfl, N5, KL, f6, Fw5, f7⟩
theorem pd1 : parseMethodDescriptor "(JLjava/math/BigInteger;)V" = some ⟨[.long, (.object "java/math/BigInteger")], none⟩ := by decide +kernel
theorem d1_9 : decode prog_89_method_2_code 9 = .ok (.areturn, 1) := by decide +kernel
theorem ef3 (m : MethodId) (x0 : Int64) : entryFrame m #[(.long x0)] 2 = mkF m 0 #[.val (.long x0), .second] [] := by first | (simp [entryFrame, mkF, argsToLocals, Value.category]; done) | rfl
def Q3 (Z : State) (q1 : Int64) (h0 : Heap) (n0 : Nat) (v : Option Value) (h : Heap) (L : List Loc) : Prop :=
  (∃ b1 : Addr, v = some (.ref b1) ∧ Fr n0 L ∧ Keep h0 h [] ∧ h0.size ≤ b1 ∧ (Exa Z h b1 "com/example/horn1/horn1/term/Int") ∧ (Fld Z h b1 "com/example/horn1/horn1/term/Int" "big" "Ljava/math/BigInteger;" .null) ∧ (Fld Z h b1 "com/example/horn1/horn1/term/Int" "small" "J" (.long q1)))
set_option maxRecDepth 65536 in
set_option maxHeartbeats 40000000 in
theorem rm3 (l : Launch) (Z : State) (a0 : Array Value) (hw : ∀ d ∈ tables_1, d.before a0 Z = true) (ws : List Jvm.Cond) (q1 : Int64) (h0 : Heap) (n0 : Nat) (O0 : Old Z n0 h0) :
    MetFree l yn2 (head1 (Jvm.Cond.code yn2 prog_89_method_2_code 2 (some (.object "com/example/horn1/horn1/term/Int")) :: ws) ({ frames := 2, cells := 1, slots := 2, locals := 28 } : Room)) (fun a U => a = #[(.long q1)] ∧ Z.Warmed39 U.vm ∧ U.heap = h0) (fun _ _ _ _ _ => True) (fun _ U o U' => ∃ v L, o = .returned v ∧ Q3 Z q1 h0 n0 v U'.heap L ∧ FrameEnd U o U' L ({ frames := 2, cells := 1, slots := 2, locals := 28 } : Room).cells ({ frames := 2, cells := 1, slots := 2, locals := 28 } : Room).slots) := by
  refine MetFree.of_bodySF (plainFor_of_name pn1) hisR ?_
  intro p e s m args below meth c s₁ Bd hml0 hP hK
  obtain ⟨rfl, hZ, hh⟩ := hP
  have hx := Bd.exec
  have hby := Bd.bytes
  have hml : c.maxLocals = 2 := hml0
  have hown : s.vm.findClass "com/example/horn1/horn1/term/Int" = some m.cls := findClass_of_methodNamed Bd.named
  have hnm := (name_of_methodNamed Bd.named Bd.method).1
  have hret := Bd.returns
  have hlk : meth.locks = false := BodyLoose.notSynchronized Bd
  have X0 : Stand p l e ({ frames := 2, cells := 1, slots := 2, locals := 28 } : Room) s m #[(.long q1)] below meth c s₁ [] 0 0 := Stand.of_body Bd
  have e0 : s₁.heap = h0 := by rw [← hh, Bd.state]; rfl
  have N0 := Fr.nil n0
  have pre0 : ∀ t, Steps p.tables e below (s₁.setTop (mkF m 0 #[.val (.long q1), .second] [])) t → Steps p.tables e below (s₁.setTop (entryFrame m #[(.long q1)] 2)) t := fun t k => castTop (ef3 m q1) k
  obtain ⟨T1, h1, X1, e1, E1, A1, D1, -, st1⟩ := newO X0 hx hZ hown (own_w hw 15 rfl) (own_w hw 16 rfl) (own_w hw 13 rfl) e0 (g := (mkF m 0 #[.val (.long q1), .second] [])) rfl (hb hby d1_0) (by decide) (by decide)
  obtain ⟨b1, g1⟩ : ∃ z, z = h0.size := ⟨_, rfl⟩
  rw [← g1] at A1 D1 st1
  have M1 : h0.size ≤ h1.size := Nat.le_trans (Nat.le_refl _) E1.1
  have O1 := Old.ext O0 E1
  have sz_b1 : h0.size ≤ b1 := Nat.le_of_eq g1.symm
  have g_b1 : n0 ≤ b1 := Nat.le_trans (own_oz O0) (Nat.le_trans (Nat.le_refl _) sz_b1)
  have F1_22 : Fld Z h1 b1 "com/example/horn1/horn1/term/Int" "small" "J" (.long 0) := D1 (Or.inr (own_w hw 22 rfl)) (ty := .long) (by decide)
  have F1_24 : Fld Z h1 b1 "com/example/horn1/horn1/term/Int" "big" "Ljava/math/BigInteger;" .null := D1 (Or.inr (own_w hw 24 rfl)) (ty := (.object "java/math/BigInteger")) (by decide)
  obtain ⟨_, T2, L2, X2, hQ2, st2⟩ := own_sb X1 hx hZ hown (y := yn1) (own_w hw 17 rfl) (own_w hw 18 rfl) (own_w hw 19 rfl) (own_w hw 13 rfl) e1 (a := b1) (argsL := [(.long q1), .null]) (rest := [(.ref b1)]) (rm2 l Z a0 hw [] b1 q1 h1 n0 O1 g_b1 A1 F1_24 F1_22) (g := (mkF m 6 #[.val (.long q1), .second] [.null, (.long q1), (.ref b1), (.ref b1)])) rfl (by rw [hml]; rfl) rfl (hb hby d1_6) (lenOf pd1 rfl) (W := 1) (c1 := 1) (s1 := 2)
  obtain ⟨rfl, Nq3, K4, f5, f6, f7⟩ := hQ2
  have N2 := Fr.app N0 Nq3
  have M2 : h0.size ≤ T2.heap.size := Nat.le_trans M1 K4.1
  have O2 := Old.keep O1 K4 (allS g_b1 all0)
  obtain ⟨fs, hr, hrun, hended, hW, hsame⟩ := X2.leave (v := some (.ref b1)) (fun h => by rw [hret] at h; cases h)
  have KL : Keep h0 T2.heap [] := (((Keep.refl h0 []).ext E1).trans K4 (allS (Or.inr (Nat.le_trans (Nat.le_refl _) sz_b1)) all0))
  refine ⟨_, _, pre0 _ ?_, hrun, hended, _, _, rfl, ?_, ⟨_, rfl⟩, hW, hsame.mono (by decide) (by decide)⟩
  ·
    show Steps p.tables e below (s₁.setTop (mkF m 0 #[.val (.long q1), .second] [])) _
    refine st1 _ ?_
    refine XS.dup X1.here hx rfl (hb hby d1_3) rfl rfl ?_
    refine XS.lloadN X1.here hx rfl (hb hby d1_4) rfl ?_
    refine XS.aconstNull X1.here hx rfl (hb hby d1_5) ?_
    refine st2 _ ?_
    show Steps p.tables e below (T2.setTop (mkF m 9 #[.val (.long q1), .second] [(.ref b1)])) _
    exact retOut X2 hx hret rfl (Or.inr (Or.inr (Or.inr (Or.inr ⟨rfl, rfl, rfl⟩)))) (hb hby d1_9) hr
  ·
    show Q3 Z q1 h0 n0 _ T2.heap _
    exact ⟨b1, rfl, N2, KL, (Nat.le_trans (Nat.le_refl _) sz_b1), f5, f6, f7⟩
theorem pd2 : parseMethodDescriptor "(J)Lcom/example/horn1/horn1/term/Int;" = some ⟨[.long], some (.object "com/example/horn1/horn1/term/Int")⟩ := by decide +kernel
theorem d3_0 : decode prog_93_method_6_code 0 = .ok (.aload_n 0, 1) := by decide +kernel
theorem d3_1 : decode prog_93_method_6_code 1 = .ok (.astore_n 1, 1) := by decide +kernel
theorem d3_2 : decode prog_93_method_6_code 2 = .ok (.aload_n 1, 1) := by decide +kernel
theorem d3_3 : decode prog_93_method_6_code 3 = .ok (.instanceof 2, 3) := by decide +kernel
theorem d3_6 : decode prog_93_method_6_code 6 = .ok (.ifCond .eq 23, 3) := by decide +kernel
theorem d3_9 : decode prog_93_method_6_code 9 = .ok (.aload_n 1, 1) := by decide +kernel
theorem d3_10 : decode prog_93_method_6_code 10 = .ok (.checkcast 2, 3) := by decide +kernel
theorem d3_13 : decode prog_93_method_6_code 13 = .ok (.astore_n 2, 1) := by decide +kernel
theorem d3_14 : decode prog_93_method_6_code 14 = .ok (.aload_n 2, 1) := by decide +kernel
theorem d3_15 : decode prog_93_method_6_code 15 = .ok (.getfield 26, 3) := by decide +kernel
theorem d3_18 : decode prog_93_method_6_code 18 = .ok (.ifnull 11, 3) := by decide +kernel
theorem d3_29 : decode prog_93_method_6_code 29 = .ok (.aload_n 1, 1) := by decide +kernel
theorem d3_30 : decode prog_93_method_6_code 30 = .ok (.areturn, 1) := by decide +kernel
theorem ef4 (m : MethodId) (x0 : Addr) : entryFrame m #[(.ref x0)] 3 = mkF m 0 #[.val (.ref x0), .unset, .unset] [] := by first | (simp [entryFrame, mkF, argsToLocals, Value.category]; done) | rfl
def Q4 (Z : State) (o1 : Addr) (h0 : Heap) (n0 : Nat) (v : Option Value) (h : Heap) (L : List Loc) : Prop :=
  (v = some (.ref o1) ∧ Fr n0 L ∧ h = h0)
set_option maxRecDepth 65536 in
set_option maxHeartbeats 40000000 in
theorem rm4 (l : Launch) (Z : State) (a0 : Array Value) (hw : ∀ d ∈ tables_1, d.before a0 Z = true) (ws : List Jvm.Cond) (o1 : Addr) (h0 : Heap) (n0 : Nat) (O0 : Old Z n0 h0) (g_o1 : n0 ≤ o1) (P0 : Exa Z h0 o1 "com/example/horn1/horn1/term/Var") (P1 : Fld Z h0 o1 "com/example/horn1/horn1/term/Var" "binding" "Lcom/example/horn1/horn1/term/Term;" .null) :
    MetFree l yn3 (head1 (Jvm.Cond.code yn3 prog_93_method_6_code 3 (some (.object "com/example/horn1/horn1/term/Term")) :: ws) ({ frames := 0, cells := 0, slots := 0, locals := 0 } : Room)) (fun a U => a = #[(.ref o1)] ∧ Z.Warmed39 U.vm ∧ U.heap = h0) (fun _ _ _ _ _ => True) (fun _ U o U' => ∃ v L, o = .returned v ∧ Q4 Z o1 h0 n0 v U'.heap L ∧ FrameEnd U o U' L ({ frames := 0, cells := 0, slots := 0, locals := 0 } : Room).cells ({ frames := 0, cells := 0, slots := 0, locals := 0 } : Room).slots) := by
  refine MetFree.of_bodySF (plainFor_of_name pn0) hisR ?_
  intro p e s m args below meth c s₁ Bd hml0 hP hK
  obtain ⟨rfl, hZ, hh⟩ := hP
  have hx := Bd.exec
  have hby := Bd.bytes
  have hml : c.maxLocals = 3 := hml0
  have hown : s.vm.findClass "com/example/horn1/horn1/term/Var" = some m.cls := findClass_of_methodNamed Bd.named
  have hnm := (name_of_methodNamed Bd.named Bd.method).1
  have hret := Bd.returns
  have hlk : meth.locks = false := BodyLoose.notSynchronized Bd
  have X0 : Stand p l e ({ frames := 0, cells := 0, slots := 0, locals := 0 } : Room) s m #[(.ref o1)] below meth c s₁ [] 0 0 := Stand.of_body Bd
  have e0 : s₁.heap = h0 := by rw [← hh, Bd.state]; rfl
  have N0 := Fr.nil n0
  have pre0 : ∀ t, Steps p.tables e below (s₁.setTop (mkF m 0 #[.val (.ref o1), .unset, .unset] [])) t → Steps p.tables e below (s₁.setTop (entryFrame m #[(.ref o1)] 3)) t := fun t k => castTop (ef4 m o1) k
  obtain ⟨T1, X1, e1, st1⟩ := instY X0 hx hZ hown (own_w hw 41 rfl) e0 (Ins.self P0) (g := (mkF m 3 #[.val (.ref o1), .val (.ref o1), .unset] [(.ref o1)])) rfl rfl (hb hby d3_3)
  obtain ⟨T2, X2, e2, st2⟩ := castY X1 hx hZ hown (own_w hw 41 rfl) e1 (Ins.self P0) (g := (mkF m 10 #[.val (.ref o1), .val (.ref o1), .unset] [(.ref o1)])) rfl rfl (hb hby d3_10)
  obtain ⟨T3, X3, e3, st3⟩ := getF X2 hx hZ hown (host := "") (Or.inl (own_w hw 30 rfl)) Via.refl e2 P1 (g := (mkF m 15 #[.val (.ref o1), .val (.ref o1), .val (.ref o1)] [(.ref o1)])) rfl rfl (hb hby d3_15)
  obtain ⟨fs, hr, hrun, hended, hW, hsame⟩ := X3.leave (v := some (.ref o1)) (fun h => by rw [hret] at h; cases h)
  refine ⟨_, _, pre0 _ ?_, hrun, hended, _, _, rfl, ?_, ⟨_, rfl⟩, hW, hsame.mono (by decide) (by decide)⟩
  ·
    show Steps p.tables e below (s₁.setTop (mkF m 0 #[.val (.ref o1), .unset, .unset] [])) _
    refine XS.aloadN X0.here hx rfl (hb hby d3_0) rfl rfl ?_
    refine XS.astoreN X0.here hx rfl (hb hby d3_1) rfl rfl (l' := #[.val (.ref o1), .val (.ref o1), .unset]) rfl ?_
    refine XS.aloadN X0.here hx rfl (hb hby d3_2) rfl rfl ?_
    refine st1 _ ?_
    refine XS.ifNo X1.here hx rfl (hb hby d3_6) rfl ((if0 _ _).trans (feq (by decide : ¬ ((1 : Int32) = (0 : Int32)))).1) ?_
    refine XS.aloadN X1.here hx rfl (hb hby d3_9) rfl rfl ?_
    refine st2 _ ?_
    refine XS.astoreN X2.here hx rfl (hb hby d3_13) rfl rfl (l' := #[.val (.ref o1), .val (.ref o1), .val (.ref o1)]) rfl ?_
    refine XS.aloadN X2.here hx rfl (hb hby d3_14) rfl rfl ?_
    refine st3 _ ?_
    refine XS.ifnullYes X3.here hx rfl (pc0 := 18) (pc' := 29) rfl (hb hby d3_18) rfl (by decide) (by decide) ?_
    refine XS.aloadN X3.here hx rfl (hb hby d3_29) rfl rfl ?_
    show Steps p.tables e below (T3.setTop (mkF m 30 #[.val (.ref o1), .val (.ref o1), .val (.ref o1)] [(.ref o1)])) _
    exact retOut X3 hx hret rfl (Or.inr (Or.inr (Or.inr (Or.inr ⟨rfl, rfl, rfl⟩)))) (hb hby d3_30) hr
  ·
    show Q4 Z o1 h0 n0 _ T3.heap _
    rw [e3]
    exact ⟨rfl, N0, rfl⟩
theorem pd3 : parseMethodDescriptor "()Lcom/example/horn1/horn1/term/Term;" = some ⟨[], some (.object "com/example/horn1/horn1/term/Term")⟩ := by decide +kernel
theorem d4_0 : decode prog_93_method_4_code 0 = .ok (.aload_n 0, 1) := by decide +kernel
theorem d4_1 : decode prog_93_method_4_code 1 = .ok (.getfield 26, 3) := by decide +kernel
theorem d4_4 : decode prog_93_method_4_code 4 = .ok (.ifnull 13, 3) := by decide +kernel
theorem d4_17 : decode prog_93_method_4_code 17 = .ok (.aload_n 1, 1) := by decide +kernel
theorem d4_18 : decode prog_93_method_4_code 18 = .ok (.invokeinterface 37 1, 5) := by decide +kernel
theorem d4_23 : decode prog_93_method_4_code 23 = .ok (.aload_n 0, 1) := by decide +kernel
theorem d4_24 : decode prog_93_method_4_code 24 = .ok (.if_acmp .ne 13, 3) := by decide +kernel
theorem d4_37 : decode prog_93_method_4_code 37 = .ok (.aload_n 0, 1) := by decide +kernel
theorem d4_38 : decode prog_93_method_4_code 38 = .ok (.aload_n 1, 1) := by decide +kernel
theorem d4_39 : decode prog_93_method_4_code 39 = .ok (.putfield 26, 3) := by decide +kernel
theorem d4_42 : decode prog_93_method_4_code 42 = .ok (.return_, 1) := by decide +kernel
theorem ef5 (m : MethodId) (x0 : Addr) (x1 : Addr) : entryFrame m #[(.ref x0), (.ref x1)] 2 = mkF m 0 #[.val (.ref x0), .val (.ref x1)] [] := by first | (simp [entryFrame, mkF, argsToLocals, Value.category]; done) | rfl
def Q5 (Z : State) (o1 : Addr) (o2 : Addr) (q3 : Int64) (h0 : Heap) (n0 : Nat) (v : Option Value) (h : Heap) (L : List Loc) : Prop :=
  (v = none ∧ Fr n0 L ∧ Keep h0 h [o1] ∧ (Exa Z h o1 "com/example/horn1/horn1/term/Var") ∧ (Fld Z h o1 "com/example/horn1/horn1/term/Var" "binding" "Lcom/example/horn1/horn1/term/Term;" (.ref o2)) ∧ (Fld Z h o1 "com/example/horn1/horn1/term/Var" "serial" "J" (.long q3)))
set_option maxRecDepth 65536 in
set_option maxHeartbeats 40000000 in
theorem rm5 (l : Launch) (Z : State) (a0 : Array Value) (hw : ∀ d ∈ tables_1, d.before a0 Z = true) (ws : List Jvm.Cond) (o1 : Addr) (o2 : Addr) (q3 : Int64) (h0 : Heap) (n0 : Nat) (O0 : Old Z n0 h0) (g_o1 : n0 ≤ o1) (g_o2 : n0 ≤ o2) (ne_o2_o1 : o2 ≠ o1) (P0 : Exa Z h0 o1 "com/example/horn1/horn1/term/Var") (P1 : Fld Z h0 o1 "com/example/horn1/horn1/term/Var" "binding" "Lcom/example/horn1/horn1/term/Term;" .null) (P2 : Fld Z h0 o1 "com/example/horn1/horn1/term/Var" "serial" "J" (.long q3)) (P3 : Exa Z h0 o2 "com/example/horn1/horn1/term/Var") (P4 : Fld Z h0 o2 "com/example/horn1/horn1/term/Var" "binding" "Lcom/example/horn1/horn1/term/Term;" .null) :
    MetFree l yn5 (head1 (Jvm.Cond.code yn5 prog_93_method_4_code 2 none :: ws) ({ frames := 1, cells := 0, slots := 0, locals := 14 } : Room)) (fun a U => a = #[(.ref o1), (.ref o2)] ∧ Z.Warmed39 U.vm ∧ U.heap = h0) (fun _ _ _ _ _ => True) (fun _ U o U' => ∃ v L, o = .returned v ∧ Q5 Z o1 o2 q3 h0 n0 v U'.heap L ∧ FrameEnd U o U' L ({ frames := 1, cells := 0, slots := 0, locals := 14 } : Room).cells ({ frames := 1, cells := 0, slots := 0, locals := 14 } : Room).slots) := by
  refine MetFree.of_bodySF (plainFor_of_name pn0) hisR ?_
  intro p e s m args below meth c s₁ Bd hml0 hP hK
  obtain ⟨rfl, hZ, hh⟩ := hP
  have hx := Bd.exec
  have hby := Bd.bytes
  have hml : c.maxLocals = 2 := hml0
  have hown : s.vm.findClass "com/example/horn1/horn1/term/Var" = some m.cls := findClass_of_methodNamed Bd.named
  have hnm := (name_of_methodNamed Bd.named Bd.method).1
  have hret := Bd.returns
  have hlk : meth.locks = false := BodyLoose.notSynchronized Bd
  have X0 : Stand p l e ({ frames := 1, cells := 0, slots := 0, locals := 14 } : Room) s m #[(.ref o1), (.ref o2)] below meth c s₁ [] 0 0 := Stand.of_body Bd
  have e0 : s₁.heap = h0 := by rw [← hh, Bd.state]; rfl
  have N0 := Fr.nil n0
  have pre0 : ∀ t, Steps p.tables e below (s₁.setTop (mkF m 0 #[.val (.ref o1), .val (.ref o2)] [])) t → Steps p.tables e below (s₁.setTop (entryFrame m #[(.ref o1), (.ref o2)] 2)) t := fun t k => castTop (ef5 m o1 o2) k
  obtain ⟨T1, X1, e1, st1⟩ := getF X0 hx hZ hown (host := "") (Or.inl (own_w hw 30 rfl)) Via.refl e0 P1 (g := (mkF m 1 #[.val (.ref o1), .val (.ref o2)] [(.ref o1)])) rfl rfl (hb hby d4_1)
  obtain ⟨_, T2, L2, X2, hQ2, st2⟩ := own_ib X1 hx hZ hown (z := yn4) (y := yn3) (own_w hw 32 rfl) (own_w hw 33 rfl) (mvT hZ (own_w hw 34 rfl)) (own_w hw 35 rfl) (own_w hw 36 rfl) (own_w hw 37 rfl) (mvT hZ (own_w hw 38 rfl)) (own_w hw 39 rfl) (own_w hw 40 rfl) (own_w hw 2 rfl) e1 P3 (argsL := []) (rest := []) (rm4 l Z a0 hw [] o2 h0 n0 O0 g_o2 P3 P4) (g := (mkF m 18 #[.val (.ref o1), .val (.ref o2)] [(.ref o2)])) rfl (by rw [hml]; rfl) rfl (hb hby d4_18) (lenOf pd3 rfl) (W := 0) (c1 := 0) (s1 := 0)
  obtain ⟨rfl, Nq3, e4⟩ := hQ2
  have N2 := Fr.app N0 Nq3
  obtain ⟨T5, h5, X5, e5, W5, st5⟩ := putF X2 hx hZ hown (host := "") (Or.inl (own_w hw 30 rfl)) Via.refl e4 P1 P0 (Or.inl (own_w hw 31 rfl)) (own_w hw 1 rfl) (ty := (.object "com/example/horn1/horn1/term/Term")) (by decide) rfl rfl (g := (mkF m 39 #[.val (.ref o1), .val (.ref o2)] [(.ref o2), (.ref o1)])) rfl rfl (hb hby d4_39)
  have N5 := Fr.snoc X5 N2 g_o1
  have Fw5 := P1.same W5
  have M5 : h0.size ≤ h5.size := Nat.le_trans (Nat.le_refl _) (Nat.le_of_eq W5.size.symm)
  have O5 := Old.wr O0 W5 g_o1
  obtain ⟨fs, hr, hrun, hended, hW, hsame⟩ := X5.leave (v := none) (fun _ => rfl)
  have KL : Keep h0 h5 [o1] := ((Keep.refl h0 [o1]).wr W5 (Or.inl (List.mem_of_getElem? (i := 0) rfl)))
  have f6 := (P0.wr W5)
  have f7 := (P2.other W5 (Or.inr (slot_ne (Or.inr (own_w hw 10 rfl)) (Or.inl (own_w hw 31 rfl)) (by decide) (t := .long) (t' := (.object "com/example/horn1/horn1/term/Term")) (by decide) (by decide))))
  refine ⟨_, _, pre0 _ ?_, hrun, hended, _, _, rfl, ?_, ⟨_, rfl⟩, hW, hsame.mono (by decide) (by decide)⟩
  ·
    show Steps p.tables e below (s₁.setTop (mkF m 0 #[.val (.ref o1), .val (.ref o2)] [])) _
    refine XS.aloadN X0.here hx rfl (hb hby d4_0) rfl rfl ?_
    refine st1 _ ?_
    refine XS.ifnullYes X1.here hx rfl (pc0 := 4) (pc' := 17) rfl (hb hby d4_4) rfl (by decide) (by decide) ?_
    refine XS.aloadN X1.here hx rfl (hb hby d4_17) rfl rfl ?_
    refine st2 _ ?_
    refine XS.aloadN X2.here hx rfl (hb hby d4_23) rfl rfl ?_
    refine Jvm.RoadKit.acmp (g := (mkF m 24 #[.val (.ref o1), .val (.ref o2)] [(.ref o1), (.ref o2)])) X2 hx rfl rfl rfl (pc0 := 24) (pc' := 37) (same := false) rfl (hb hby d4_24) rfl (decide_eq_false fun q => ne_o2_o1 (Value.ref.inj q)) (by decide) (by decide) ?_
    refine XS.aloadN X2.here hx rfl (hb hby d4_37) rfl rfl ?_
    refine XS.aloadN X2.here hx rfl (hb hby d4_38) rfl rfl ?_
    refine st5 _ ?_
    show Steps p.tables e below (T5.setTop (mkF m 42 #[.val (.ref o1), .val (.ref o2)] [])) _
    exact X5.returnOut hx hret (hb hby d4_42) hr
  ·
    show Q5 Z o1 o2 q3 h0 n0 _ T5.heap _
    rw [e5]
    exact ⟨rfl, N5, KL, f6, Fw5, f7⟩
theorem pd4 : parseMethodDescriptor "(Lcom/example/horn1/horn1/term/Term;)V" = some ⟨[(.object "com/example/horn1/horn1/term/Term")], none⟩ := by decide +kernel
theorem d3_21 : decode prog_93_method_6_code 21 = .ok (.aload_n 2, 1) := by decide +kernel
theorem d3_22 : decode prog_93_method_6_code 22 = .ok (.getfield 26, 3) := by decide +kernel
theorem d3_25 : decode prog_93_method_6_code 25 = .ok (.astore_n 1, 1) := by decide +kernel
theorem d3_26 : decode prog_93_method_6_code 26 = .ok (.goto (-24), 3) := by decide +kernel
theorem ef6 (m : MethodId) (x0 : Addr) : entryFrame m #[(.ref x0)] 3 = mkF m 0 #[.val (.ref x0), .unset, .unset] [] := by first | (simp [entryFrame, mkF, argsToLocals, Value.category]; done) | rfl
def Q6 (Z : State) (o1 : Addr) (o2 : Addr) (h0 : Heap) (n0 : Nat) (v : Option Value) (h : Heap) (L : List Loc) : Prop :=
  (v = some (.ref o2) ∧ Fr n0 L ∧ h = h0)
set_option maxRecDepth 65536 in
set_option maxHeartbeats 40000000 in
theorem rm6 (l : Launch) (Z : State) (a0 : Array Value) (hw : ∀ d ∈ tables_1, d.before a0 Z = true) (ws : List Jvm.Cond) (o1 : Addr) (o2 : Addr) (h0 : Heap) (n0 : Nat) (O0 : Old Z n0 h0) (g_o1 : n0 ≤ o1) (g_o2 : n0 ≤ o2) (P0 : Exa Z h0 o1 "com/example/horn1/horn1/term/Var") (P1 : Fld Z h0 o1 "com/example/horn1/horn1/term/Var" "binding" "Lcom/example/horn1/horn1/term/Term;" (.ref o2)) (P3 : Exa Z h0 o2 "com/example/horn1/horn1/term/Var") (P4 : Fld Z h0 o2 "com/example/horn1/horn1/term/Var" "binding" "Lcom/example/horn1/horn1/term/Term;" .null) :
    MetFree l yn3 (head1 (Jvm.Cond.code yn3 prog_93_method_6_code 3 (some (.object "com/example/horn1/horn1/term/Term")) :: ws) ({ frames := 0, cells := 0, slots := 0, locals := 0 } : Room)) (fun a U => a = #[(.ref o1)] ∧ Z.Warmed39 U.vm ∧ U.heap = h0) (fun _ _ _ _ _ => True) (fun _ U o U' => ∃ v L, o = .returned v ∧ Q6 Z o1 o2 h0 n0 v U'.heap L ∧ FrameEnd U o U' L ({ frames := 0, cells := 0, slots := 0, locals := 0 } : Room).cells ({ frames := 0, cells := 0, slots := 0, locals := 0 } : Room).slots) := by
  refine MetFree.of_bodySF (plainFor_of_name pn0) hisR ?_
  intro p e s m args below meth c s₁ Bd hml0 hP hK
  obtain ⟨rfl, hZ, hh⟩ := hP
  have hx := Bd.exec
  have hby := Bd.bytes
  have hml : c.maxLocals = 3 := hml0
  have hown : s.vm.findClass "com/example/horn1/horn1/term/Var" = some m.cls := findClass_of_methodNamed Bd.named
  have hnm := (name_of_methodNamed Bd.named Bd.method).1
  have hret := Bd.returns
  have hlk : meth.locks = false := BodyLoose.notSynchronized Bd
  have X0 : Stand p l e ({ frames := 0, cells := 0, slots := 0, locals := 0 } : Room) s m #[(.ref o1)] below meth c s₁ [] 0 0 := Stand.of_body Bd
  have e0 : s₁.heap = h0 := by rw [← hh, Bd.state]; rfl
  have N0 := Fr.nil n0
  have pre0 : ∀ t, Steps p.tables e below (s₁.setTop (mkF m 0 #[.val (.ref o1), .unset, .unset] [])) t → Steps p.tables e below (s₁.setTop (entryFrame m #[(.ref o1)] 3)) t := fun t k => castTop (ef6 m o1) k
  obtain ⟨T1, X1, e1, st1⟩ := instY X0 hx hZ hown (own_w hw 41 rfl) e0 (Ins.self P0) (g := (mkF m 3 #[.val (.ref o1), .val (.ref o1), .unset] [(.ref o1)])) rfl rfl (hb hby d3_3)
  obtain ⟨T2, X2, e2, st2⟩ := castY X1 hx hZ hown (own_w hw 41 rfl) e1 (Ins.self P0) (g := (mkF m 10 #[.val (.ref o1), .val (.ref o1), .unset] [(.ref o1)])) rfl rfl (hb hby d3_10)
  obtain ⟨T3, X3, e3, st3⟩ := getF X2 hx hZ hown (host := "") (Or.inl (own_w hw 30 rfl)) Via.refl e2 P1 (g := (mkF m 15 #[.val (.ref o1), .val (.ref o1), .val (.ref o1)] [(.ref o1)])) rfl rfl (hb hby d3_15)
  obtain ⟨T4, X4, e4, st4⟩ := getF X3 hx hZ hown (host := "") (Or.inl (own_w hw 30 rfl)) Via.refl e3 P1 (g := (mkF m 22 #[.val (.ref o1), .val (.ref o1), .val (.ref o1)] [(.ref o1)])) rfl rfl (hb hby d3_22)
  obtain ⟨T5, X5, e5, st5⟩ := instY X4 hx hZ hown (own_w hw 41 rfl) e4 (Ins.self P3) (g := (mkF m 3 #[.val (.ref o1), .val (.ref o2), .val (.ref o1)] [(.ref o2)])) rfl rfl (hb hby d3_3)
  obtain ⟨T6, X6, e6, st6⟩ := castY X5 hx hZ hown (own_w hw 41 rfl) e5 (Ins.self P3) (g := (mkF m 10 #[.val (.ref o1), .val (.ref o2), .val (.ref o1)] [(.ref o2)])) rfl rfl (hb hby d3_10)
  obtain ⟨T7, X7, e7, st7⟩ := getF X6 hx hZ hown (host := "") (Or.inl (own_w hw 30 rfl)) Via.refl e6 P4 (g := (mkF m 15 #[.val (.ref o1), .val (.ref o2), .val (.ref o2)] [(.ref o2)])) rfl rfl (hb hby d3_15)
  obtain ⟨fs, hr, hrun, hended, hW, hsame⟩ := X7.leave (v := some (.ref o2)) (fun h => by rw [hret] at h; cases h)
  refine ⟨_, _, pre0 _ ?_, hrun, hended, _, _, rfl, ?_, ⟨_, rfl⟩, hW, hsame.mono (by decide) (by decide)⟩
  ·
    show Steps p.tables e below (s₁.setTop (mkF m 0 #[.val (.ref o1), .unset, .unset] [])) _
    refine XS.aloadN X0.here hx rfl (hb hby d3_0) rfl rfl ?_
    refine XS.astoreN X0.here hx rfl (hb hby d3_1) rfl rfl (l' := #[.val (.ref o1), .val (.ref o1), .unset]) rfl ?_
    refine XS.aloadN X0.here hx rfl (hb hby d3_2) rfl rfl ?_
    refine st1 _ ?_
    refine XS.ifNo X1.here hx rfl (hb hby d3_6) rfl ((if0 _ _).trans (feq (by decide : ¬ ((1 : Int32) = (0 : Int32)))).1) ?_
    refine XS.aloadN X1.here hx rfl (hb hby d3_9) rfl rfl ?_
    refine st2 _ ?_
    refine XS.astoreN X2.here hx rfl (hb hby d3_13) rfl rfl (l' := #[.val (.ref o1), .val (.ref o1), .val (.ref o1)]) rfl ?_
    refine XS.aloadN X2.here hx rfl (hb hby d3_14) rfl rfl ?_
    refine st3 _ ?_
    refine XS.ifnullNo X3.here hx rfl (hb hby d3_18) rfl ?_
    refine XS.aloadN X3.here hx rfl (hb hby d3_21) rfl rfl ?_
    refine st4 _ ?_
    refine XS.astoreN X4.here hx rfl (hb hby d3_25) rfl rfl (l' := #[.val (.ref o1), .val (.ref o2), .val (.ref o1)]) rfl ?_
    refine XS.goto X4.here hx rfl (pc0 := 26) (pc' := 2) rfl (hb hby d3_26) (by decide) (by decide) ?_
    refine XS.aloadN X4.here hx rfl (hb hby d3_2) rfl rfl ?_
    refine st5 _ ?_
    refine XS.ifNo X5.here hx rfl (hb hby d3_6) rfl ((if0 _ _).trans (feq (by decide : ¬ ((1 : Int32) = (0 : Int32)))).1) ?_
    refine XS.aloadN X5.here hx rfl (hb hby d3_9) rfl rfl ?_
    refine st6 _ ?_
    refine XS.astoreN X6.here hx rfl (hb hby d3_13) rfl rfl (l' := #[.val (.ref o1), .val (.ref o2), .val (.ref o2)]) rfl ?_
    refine XS.aloadN X6.here hx rfl (hb hby d3_14) rfl rfl ?_
    refine st7 _ ?_
    refine XS.ifnullYes X7.here hx rfl (pc0 := 18) (pc' := 29) rfl (hb hby d3_18) rfl (by decide) (by decide) ?_
    refine XS.aloadN X7.here hx rfl (hb hby d3_29) rfl rfl ?_
    show Steps p.tables e below (T7.setTop (mkF m 30 #[.val (.ref o1), .val (.ref o2), .val (.ref o2)] [(.ref o2)])) _
    exact retOut X7 hx hret rfl (Or.inr (Or.inr (Or.inr (Or.inr ⟨rfl, rfl, rfl⟩)))) (hb hby d3_30) hr
  ·
    show Q6 Z o1 o2 h0 n0 _ T7.heap _
    rw [e7]
    exact ⟨rfl, N0, rfl⟩
theorem ef7 (m : MethodId) (x0 : Addr) : entryFrame m #[(.ref x0)] 3 = mkF m 0 #[.val (.ref x0), .unset, .unset] [] := by first | (simp [entryFrame, mkF, argsToLocals, Value.category]; done) | rfl
def Q7 (Z : State) (o1 : Addr) (o2 : Addr) (o4 : Addr) (h0 : Heap) (n0 : Nat) (v : Option Value) (h : Heap) (L : List Loc) : Prop :=
  (v = some (.ref o4) ∧ Fr n0 L ∧ h = h0)
set_option maxRecDepth 65536 in
set_option maxHeartbeats 40000000 in
theorem rm7 (l : Launch) (Z : State) (a0 : Array Value) (hw : ∀ d ∈ tables_1, d.before a0 Z = true) (ws : List Jvm.Cond) (o1 : Addr) (o2 : Addr) (o4 : Addr) (h0 : Heap) (n0 : Nat) (O0 : Old Z n0 h0) (g_o1 : n0 ≤ o1) (g_o2 : n0 ≤ o2) (g_o4 : n0 ≤ o4) (P0 : Exa Z h0 o1 "com/example/horn1/horn1/term/Var") (P1 : Fld Z h0 o1 "com/example/horn1/horn1/term/Var" "binding" "Lcom/example/horn1/horn1/term/Term;" (.ref o2)) (P3 : Exa Z h0 o2 "com/example/horn1/horn1/term/Var") (P4 : Fld Z h0 o2 "com/example/horn1/horn1/term/Var" "binding" "Lcom/example/horn1/horn1/term/Term;" (.ref o4)) (P6 : Exa Z h0 o4 "com/example/horn1/horn1/term/Var") (P7 : Fld Z h0 o4 "com/example/horn1/horn1/term/Var" "binding" "Lcom/example/horn1/horn1/term/Term;" .null) :
    MetFree l yn3 (head1 (Jvm.Cond.code yn3 prog_93_method_6_code 3 (some (.object "com/example/horn1/horn1/term/Term")) :: ws) ({ frames := 0, cells := 0, slots := 0, locals := 0 } : Room)) (fun a U => a = #[(.ref o1)] ∧ Z.Warmed39 U.vm ∧ U.heap = h0) (fun _ _ _ _ _ => True) (fun _ U o U' => ∃ v L, o = .returned v ∧ Q7 Z o1 o2 o4 h0 n0 v U'.heap L ∧ FrameEnd U o U' L ({ frames := 0, cells := 0, slots := 0, locals := 0 } : Room).cells ({ frames := 0, cells := 0, slots := 0, locals := 0 } : Room).slots) := by
  refine MetFree.of_bodySF (plainFor_of_name pn0) hisR ?_
  intro p e s m args below meth c s₁ Bd hml0 hP hK
  obtain ⟨rfl, hZ, hh⟩ := hP
  have hx := Bd.exec
  have hby := Bd.bytes
  have hml : c.maxLocals = 3 := hml0
  have hown : s.vm.findClass "com/example/horn1/horn1/term/Var" = some m.cls := findClass_of_methodNamed Bd.named
  have hnm := (name_of_methodNamed Bd.named Bd.method).1
  have hret := Bd.returns
  have hlk : meth.locks = false := BodyLoose.notSynchronized Bd
  have X0 : Stand p l e ({ frames := 0, cells := 0, slots := 0, locals := 0 } : Room) s m #[(.ref o1)] below meth c s₁ [] 0 0 := Stand.of_body Bd
  have e0 : s₁.heap = h0 := by rw [← hh, Bd.state]; rfl
  have N0 := Fr.nil n0
  have pre0 : ∀ t, Steps p.tables e below (s₁.setTop (mkF m 0 #[.val (.ref o1), .unset, .unset] [])) t → Steps p.tables e below (s₁.setTop (entryFrame m #[(.ref o1)] 3)) t := fun t k => castTop (ef7 m o1) k
  obtain ⟨T1, X1, e1, st1⟩ := instY X0 hx hZ hown (own_w hw 41 rfl) e0 (Ins.self P0) (g := (mkF m 3 #[.val (.ref o1), .val (.ref o1), .unset] [(.ref o1)])) rfl rfl (hb hby d3_3)
  obtain ⟨T2, X2, e2, st2⟩ := castY X1 hx hZ hown (own_w hw 41 rfl) e1 (Ins.self P0) (g := (mkF m 10 #[.val (.ref o1), .val (.ref o1), .unset] [(.ref o1)])) rfl rfl (hb hby d3_10)
  obtain ⟨T3, X3, e3, st3⟩ := getF X2 hx hZ hown (host := "") (Or.inl (own_w hw 30 rfl)) Via.refl e2 P1 (g := (mkF m 15 #[.val (.ref o1), .val (.ref o1), .val (.ref o1)] [(.ref o1)])) rfl rfl (hb hby d3_15)
  obtain ⟨T4, X4, e4, st4⟩ := getF X3 hx hZ hown (host := "") (Or.inl (own_w hw 30 rfl)) Via.refl e3 P1 (g := (mkF m 22 #[.val (.ref o1), .val (.ref o1), .val (.ref o1)] [(.ref o1)])) rfl rfl (hb hby d3_22)
  obtain ⟨T5, X5, e5, st5⟩ := instY X4 hx hZ hown (own_w hw 41 rfl) e4 (Ins.self P3) (g := (mkF m 3 #[.val (.ref o1), .val (.ref o2), .val (.ref o1)] [(.ref o2)])) rfl rfl (hb hby d3_3)
  obtain ⟨T6, X6, e6, st6⟩ := castY X5 hx hZ hown (own_w hw 41 rfl) e5 (Ins.self P3) (g := (mkF m 10 #[.val (.ref o1), .val (.ref o2), .val (.ref o1)] [(.ref o2)])) rfl rfl (hb hby d3_10)
  obtain ⟨T7, X7, e7, st7⟩ := getF X6 hx hZ hown (host := "") (Or.inl (own_w hw 30 rfl)) Via.refl e6 P4 (g := (mkF m 15 #[.val (.ref o1), .val (.ref o2), .val (.ref o2)] [(.ref o2)])) rfl rfl (hb hby d3_15)
  obtain ⟨T8, X8, e8, st8⟩ := getF X7 hx hZ hown (host := "") (Or.inl (own_w hw 30 rfl)) Via.refl e7 P4 (g := (mkF m 22 #[.val (.ref o1), .val (.ref o2), .val (.ref o2)] [(.ref o2)])) rfl rfl (hb hby d3_22)
  obtain ⟨T9, X9, e9, st9⟩ := instY X8 hx hZ hown (own_w hw 41 rfl) e8 (Ins.self P6) (g := (mkF m 3 #[.val (.ref o1), .val (.ref o4), .val (.ref o2)] [(.ref o4)])) rfl rfl (hb hby d3_3)
  obtain ⟨T10, X10, e10, st10⟩ := castY X9 hx hZ hown (own_w hw 41 rfl) e9 (Ins.self P6) (g := (mkF m 10 #[.val (.ref o1), .val (.ref o4), .val (.ref o2)] [(.ref o4)])) rfl rfl (hb hby d3_10)
  obtain ⟨T11, X11, e11, st11⟩ := getF X10 hx hZ hown (host := "") (Or.inl (own_w hw 30 rfl)) Via.refl e10 P7 (g := (mkF m 15 #[.val (.ref o1), .val (.ref o4), .val (.ref o4)] [(.ref o4)])) rfl rfl (hb hby d3_15)
  obtain ⟨fs, hr, hrun, hended, hW, hsame⟩ := X11.leave (v := some (.ref o4)) (fun h => by rw [hret] at h; cases h)
  refine ⟨_, _, pre0 _ ?_, hrun, hended, _, _, rfl, ?_, ⟨_, rfl⟩, hW, hsame.mono (by decide) (by decide)⟩
  ·
    show Steps p.tables e below (s₁.setTop (mkF m 0 #[.val (.ref o1), .unset, .unset] [])) _
    refine XS.aloadN X0.here hx rfl (hb hby d3_0) rfl rfl ?_
    refine XS.astoreN X0.here hx rfl (hb hby d3_1) rfl rfl (l' := #[.val (.ref o1), .val (.ref o1), .unset]) rfl ?_
    refine XS.aloadN X0.here hx rfl (hb hby d3_2) rfl rfl ?_
    refine st1 _ ?_
    refine XS.ifNo X1.here hx rfl (hb hby d3_6) rfl ((if0 _ _).trans (feq (by decide : ¬ ((1 : Int32) = (0 : Int32)))).1) ?_
    refine XS.aloadN X1.here hx rfl (hb hby d3_9) rfl rfl ?_
    refine st2 _ ?_
    refine XS.astoreN X2.here hx rfl (hb hby d3_13) rfl rfl (l' := #[.val (.ref o1), .val (.ref o1), .val (.ref o1)]) rfl ?_
    refine XS.aloadN X2.here hx rfl (hb hby d3_14) rfl rfl ?_
    refine st3 _ ?_
    refine XS.ifnullNo X3.here hx rfl (hb hby d3_18) rfl ?_
    refine XS.aloadN X3.here hx rfl (hb hby d3_21) rfl rfl ?_
    refine st4 _ ?_
    refine XS.astoreN X4.here hx rfl (hb hby d3_25) rfl rfl (l' := #[.val (.ref o1), .val (.ref o2), .val (.ref o1)]) rfl ?_
    refine XS.goto X4.here hx rfl (pc0 := 26) (pc' := 2) rfl (hb hby d3_26) (by decide) (by decide) ?_
    refine XS.aloadN X4.here hx rfl (hb hby d3_2) rfl rfl ?_
    refine st5 _ ?_
    refine XS.ifNo X5.here hx rfl (hb hby d3_6) rfl ((if0 _ _).trans (feq (by decide : ¬ ((1 : Int32) = (0 : Int32)))).1) ?_
    refine XS.aloadN X5.here hx rfl (hb hby d3_9) rfl rfl ?_
    refine st6 _ ?_
    refine XS.astoreN X6.here hx rfl (hb hby d3_13) rfl rfl (l' := #[.val (.ref o1), .val (.ref o2), .val (.ref o2)]) rfl ?_
    refine XS.aloadN X6.here hx rfl (hb hby d3_14) rfl rfl ?_
    refine st7 _ ?_
    refine XS.ifnullNo X7.here hx rfl (hb hby d3_18) rfl ?_
    refine XS.aloadN X7.here hx rfl (hb hby d3_21) rfl rfl ?_
    refine st8 _ ?_
    refine XS.astoreN X8.here hx rfl (hb hby d3_25) rfl rfl (l' := #[.val (.ref o1), .val (.ref o4), .val (.ref o2)]) rfl ?_
    refine XS.goto X8.here hx rfl (pc0 := 26) (pc' := 2) rfl (hb hby d3_26) (by decide) (by decide) ?_
    refine XS.aloadN X8.here hx rfl (hb hby d3_2) rfl rfl ?_
    refine st9 _ ?_
    refine XS.ifNo X9.here hx rfl (hb hby d3_6) rfl ((if0 _ _).trans (feq (by decide : ¬ ((1 : Int32) = (0 : Int32)))).1) ?_
    refine XS.aloadN X9.here hx rfl (hb hby d3_9) rfl rfl ?_
    refine st10 _ ?_
    refine XS.astoreN X10.here hx rfl (hb hby d3_13) rfl rfl (l' := #[.val (.ref o1), .val (.ref o4), .val (.ref o4)]) rfl ?_
    refine XS.aloadN X10.here hx rfl (hb hby d3_14) rfl rfl ?_
    refine st11 _ ?_
    refine XS.ifnullYes X11.here hx rfl (pc0 := 18) (pc' := 29) rfl (hb hby d3_18) rfl (by decide) (by decide) ?_
    refine XS.aloadN X11.here hx rfl (hb hby d3_29) rfl rfl ?_
    show Steps p.tables e below (T11.setTop (mkF m 30 #[.val (.ref o1), .val (.ref o4), .val (.ref o4)] [(.ref o4)])) _
    exact retOut X11 hx hret rfl (Or.inr (Or.inr (Or.inr (Or.inr ⟨rfl, rfl, rfl⟩)))) (hb hby d3_30) hr
  ·
    show Q7 Z o1 o2 o4 h0 n0 _ T11.heap _
    rw [e11]
    exact ⟨rfl, N0, rfl⟩
theorem d5_0 : decode prog_92_method_1_code 0 = .ok (.aload_n 0, 1) := by decide +kernel
theorem d5_1 : decode prog_92_method_1_code 1 = .ok (.areturn, 1) := by decide +kernel
theorem pn2 : plainName "com/example/horn1/horn1/term/Term" = true := by first | (simp [plainName, overriddenIn]; done) | decide +kernel
theorem ef8 (m : MethodId) (x0 : Addr) (x1 : Addr) : entryFrame m #[(.ref x0), (.ref x1)] 2 = mkF m 0 #[.val (.ref x0), .val (.ref x1)] [] := by first | (simp [entryFrame, mkF, argsToLocals, Value.category]; done) | rfl
def Q8 (Z : State) (o1 : Addr) (o2 : Addr) (q3 : Int64) (h0 : Heap) (n0 : Nat) (v : Option Value) (h : Heap) (L : List Loc) : Prop :=
  (v = none ∧ Fr n0 L ∧ Keep h0 h [o1] ∧ (Exa Z h o1 "com/example/horn1/horn1/term/Var") ∧ (Fld Z h o1 "com/example/horn1/horn1/term/Var" "binding" "Lcom/example/horn1/horn1/term/Term;" (.ref o2)) ∧ (Fld Z h o1 "com/example/horn1/horn1/term/Var" "serial" "J" (.long q3)))
set_option maxRecDepth 65536 in
set_option maxHeartbeats 40000000 in
theorem rm8 (l : Launch) (Z : State) (a0 : Array Value) (hw : ∀ d ∈ tables_1, d.before a0 Z = true) (ws : List Jvm.Cond) (o1 : Addr) (o2 : Addr) (q3 : Int64) (h0 : Heap) (n0 : Nat) (O0 : Old Z n0 h0) (g_o1 : n0 ≤ o1) (g_o2 : n0 ≤ o2) (P0 : Exa Z h0 o1 "com/example/horn1/horn1/term/Var") (P1 : Fld Z h0 o1 "com/example/horn1/horn1/term/Var" "binding" "Lcom/example/horn1/horn1/term/Term;" .null) (P2 : Fld Z h0 o1 "com/example/horn1/horn1/term/Var" "serial" "J" (.long q3)) (P3 : Exa Z h0 o2 "com/example/horn1/horn1/term/Int") :
    MetFree l yn5 (head1 (Jvm.Cond.code yn5 prog_93_method_4_code 2 none :: ws) ({ frames := 1, cells := 0, slots := 0, locals := 12 } : Room)) (fun a U => a = #[(.ref o1), (.ref o2)] ∧ Z.Warmed39 U.vm ∧ U.heap = h0) (fun _ _ _ _ _ => True) (fun _ U o U' => ∃ v L, o = .returned v ∧ Q8 Z o1 o2 q3 h0 n0 v U'.heap L ∧ FrameEnd U o U' L ({ frames := 1, cells := 0, slots := 0, locals := 12 } : Room).cells ({ frames := 1, cells := 0, slots := 0, locals := 12 } : Room).slots) := by
  refine MetFree.of_bodySF (plainFor_of_name pn0) hisR ?_
  intro p e s m args below meth c s₁ Bd hml0 hP hK
  obtain ⟨rfl, hZ, hh⟩ := hP
  have hx := Bd.exec
  have hby := Bd.bytes
  have hml : c.maxLocals = 2 := hml0
  have hown : s.vm.findClass "com/example/horn1/horn1/term/Var" = some m.cls := findClass_of_methodNamed Bd.named
  have hnm := (name_of_methodNamed Bd.named Bd.method).1
  have hret := Bd.returns
  have hlk : meth.locks = false := BodyLoose.notSynchronized Bd
  have X0 : Stand p l e ({ frames := 1, cells := 0, slots := 0, locals := 12 } : Room) s m #[(.ref o1), (.ref o2)] below meth c s₁ [] 0 0 := Stand.of_body Bd
  have e0 : s₁.heap = h0 := by rw [← hh, Bd.state]; rfl
  have N0 := Fr.nil n0
  have pre0 : ∀ t, Steps p.tables e below (s₁.setTop (mkF m 0 #[.val (.ref o1), .val (.ref o2)] [])) t → Steps p.tables e below (s₁.setTop (entryFrame m #[(.ref o1), (.ref o2)] 2)) t := fun t k => castTop (ef8 m o1 o2) k
  obtain ⟨T1, X1, e1, st1⟩ := getF X0 hx hZ hown (host := "") (Or.inl (own_w hw 30 rfl)) Via.refl e0 P1 (g := (mkF m 1 #[.val (.ref o1), .val (.ref o2)] [(.ref o1)])) rfl rfl (hb hby d4_1)
  obtain ⟨T2, X2, e2, st2⟩ := own_id X1 hx hZ hown (z := yn4) (y := yn4) (own_w hw 32 rfl) (own_w hw 33 rfl) (mvT hZ (own_w hw 34 rfl)) (own_w hw 43 rfl) (own_w hw 44 rfl) (own_w hw 45 rfl) (own_w hw 46 rfl) (own_w hw 47 rfl) e1 P3 (plainFor_of_name pn2) d5_0 d5_1 (g := (mkF m 18 #[.val (.ref o1), .val (.ref o2)] [(.ref o2)])) rfl (by rw [hml]; rfl) rfl (hb hby d4_18) (lenOf pd3 rfl) (W := 0)
  have ne3 : o2 ≠ o1 := ne_exa P3 P0 (by decide)
  obtain ⟨T4, h4, X4, e4, W4, st4⟩ := putF X2 hx hZ hown (host := "") (Or.inl (own_w hw 30 rfl)) Via.refl e2 P1 P0 (Or.inl (own_w hw 31 rfl)) (own_w hw 1 rfl) (ty := (.object "com/example/horn1/horn1/term/Term")) (by decide) rfl rfl (g := (mkF m 39 #[.val (.ref o1), .val (.ref o2)] [(.ref o2), (.ref o1)])) rfl rfl (hb hby d4_39)
  have N4 := Fr.snoc X4 N0 g_o1
  have Fw4 := P1.same W4
  have M4 : h0.size ≤ h4.size := Nat.le_trans (Nat.le_refl _) (Nat.le_of_eq W4.size.symm)
  have O4 := Old.wr O0 W4 g_o1
  obtain ⟨fs, hr, hrun, hended, hW, hsame⟩ := X4.leave (v := none) (fun _ => rfl)
  have KL : Keep h0 h4 [o1] := ((Keep.refl h0 [o1]).wr W4 (Or.inl (List.mem_of_getElem? (i := 0) rfl)))
  have f5 := (P0.wr W4)
  have f6 := (P2.other W4 (Or.inr (slot_ne (Or.inr (own_w hw 10 rfl)) (Or.inl (own_w hw 31 rfl)) (by decide) (t := .long) (t' := (.object "com/example/horn1/horn1/term/Term")) (by decide) (by decide))))
  refine ⟨_, _, pre0 _ ?_, hrun, hended, _, _, rfl, ?_, ⟨_, rfl⟩, hW, hsame.mono (by decide) (by decide)⟩
  ·
    show Steps p.tables e below (s₁.setTop (mkF m 0 #[.val (.ref o1), .val (.ref o2)] [])) _
    refine XS.aloadN X0.here hx rfl (hb hby d4_0) rfl rfl ?_
    refine st1 _ ?_
    refine XS.ifnullYes X1.here hx rfl (pc0 := 4) (pc' := 17) rfl (hb hby d4_4) rfl (by decide) (by decide) ?_
    refine XS.aloadN X1.here hx rfl (hb hby d4_17) rfl rfl ?_
    refine st2 _ ?_
    refine XS.aloadN X2.here hx rfl (hb hby d4_23) rfl rfl ?_
    refine Jvm.RoadKit.acmp (g := (mkF m 24 #[.val (.ref o1), .val (.ref o2)] [(.ref o1), (.ref o2)])) X2 hx rfl rfl rfl (pc0 := 24) (pc' := 37) (same := false) rfl (hb hby d4_24) rfl (decide_eq_false fun q => ne3 (Value.ref.inj q)) (by decide) (by decide) ?_
    refine XS.aloadN X2.here hx rfl (hb hby d4_37) rfl rfl ?_
    refine XS.aloadN X2.here hx rfl (hb hby d4_38) rfl rfl ?_
    refine st4 _ ?_
    show Steps p.tables e below (T4.setTop (mkF m 42 #[.val (.ref o1), .val (.ref o2)] [])) _
    exact X4.returnOut hx hret (hb hby d4_42) hr
  ·
    show Q8 Z o1 o2 q3 h0 n0 _ T4.heap _
    rw [e4]
    exact ⟨rfl, N4, KL, f5, Fw4, f6⟩
theorem ef9 (m : MethodId) (x0 : Addr) : entryFrame m #[(.ref x0)] 3 = mkF m 0 #[.val (.ref x0), .unset, .unset] [] := by first | (simp [entryFrame, mkF, argsToLocals, Value.category]; done) | rfl
def Q9 (Z : State) (o1 : Addr) (o2 : Addr) (o4 : Addr) (o6 : Addr) (h0 : Heap) (n0 : Nat) (v : Option Value) (h : Heap) (L : List Loc) : Prop :=
  (v = some (.ref o6) ∧ Fr n0 L ∧ h = h0)
set_option maxRecDepth 65536 in
set_option maxHeartbeats 40000000 in
theorem rm9 (l : Launch) (Z : State) (a0 : Array Value) (hw : ∀ d ∈ tables_1, d.before a0 Z = true) (ws : List Jvm.Cond) (o1 : Addr) (o2 : Addr) (o4 : Addr) (o6 : Addr) (h0 : Heap) (n0 : Nat) (O0 : Old Z n0 h0) (g_o1 : n0 ≤ o1) (g_o2 : n0 ≤ o2) (g_o4 : n0 ≤ o4) (g_o6 : n0 ≤ o6) (P0 : Exa Z h0 o1 "com/example/horn1/horn1/term/Var") (P1 : Fld Z h0 o1 "com/example/horn1/horn1/term/Var" "binding" "Lcom/example/horn1/horn1/term/Term;" (.ref o2)) (P3 : Exa Z h0 o2 "com/example/horn1/horn1/term/Var") (P4 : Fld Z h0 o2 "com/example/horn1/horn1/term/Var" "binding" "Lcom/example/horn1/horn1/term/Term;" (.ref o4)) (P6 : Exa Z h0 o4 "com/example/horn1/horn1/term/Var") (P7 : Fld Z h0 o4 "com/example/horn1/horn1/term/Var" "binding" "Lcom/example/horn1/horn1/term/Term;" (.ref o6)) (P9 : Exa Z h0 o6 "com/example/horn1/horn1/term/Int") :
    MetFree l yn3 (head1 (Jvm.Cond.code yn3 prog_93_method_6_code 3 (some (.object "com/example/horn1/horn1/term/Term")) :: ws) ({ frames := 0, cells := 0, slots := 0, locals := 0 } : Room)) (fun a U => a = #[(.ref o1)] ∧ Z.Warmed39 U.vm ∧ U.heap = h0) (fun _ _ _ _ _ => True) (fun _ U o U' => ∃ v L, o = .returned v ∧ Q9 Z o1 o2 o4 o6 h0 n0 v U'.heap L ∧ FrameEnd U o U' L ({ frames := 0, cells := 0, slots := 0, locals := 0 } : Room).cells ({ frames := 0, cells := 0, slots := 0, locals := 0 } : Room).slots) := by
  refine MetFree.of_bodySF (plainFor_of_name pn0) hisR ?_
  intro p e s m args below meth c s₁ Bd hml0 hP hK
  obtain ⟨rfl, hZ, hh⟩ := hP
  have hx := Bd.exec
  have hby := Bd.bytes
  have hml : c.maxLocals = 3 := hml0
  have hown : s.vm.findClass "com/example/horn1/horn1/term/Var" = some m.cls := findClass_of_methodNamed Bd.named
  have hnm := (name_of_methodNamed Bd.named Bd.method).1
  have hret := Bd.returns
  have hlk : meth.locks = false := BodyLoose.notSynchronized Bd
  have X0 : Stand p l e ({ frames := 0, cells := 0, slots := 0, locals := 0 } : Room) s m #[(.ref o1)] below meth c s₁ [] 0 0 := Stand.of_body Bd
  have e0 : s₁.heap = h0 := by rw [← hh, Bd.state]; rfl
  have N0 := Fr.nil n0
  have pre0 : ∀ t, Steps p.tables e below (s₁.setTop (mkF m 0 #[.val (.ref o1), .unset, .unset] [])) t → Steps p.tables e below (s₁.setTop (entryFrame m #[(.ref o1)] 3)) t := fun t k => castTop (ef9 m o1) k
  obtain ⟨T1, X1, e1, st1⟩ := instY X0 hx hZ hown (own_w hw 41 rfl) e0 (Ins.self P0) (g := (mkF m 3 #[.val (.ref o1), .val (.ref o1), .unset] [(.ref o1)])) rfl rfl (hb hby d3_3)
  obtain ⟨T2, X2, e2, st2⟩ := castY X1 hx hZ hown (own_w hw 41 rfl) e1 (Ins.self P0) (g := (mkF m 10 #[.val (.ref o1), .val (.ref o1), .unset] [(.ref o1)])) rfl rfl (hb hby d3_10)
  obtain ⟨T3, X3, e3, st3⟩ := getF X2 hx hZ hown (host := "") (Or.inl (own_w hw 30 rfl)) Via.refl e2 P1 (g := (mkF m 15 #[.val (.ref o1), .val (.ref o1), .val (.ref o1)] [(.ref o1)])) rfl rfl (hb hby d3_15)
  obtain ⟨T4, X4, e4, st4⟩ := getF X3 hx hZ hown (host := "") (Or.inl (own_w hw 30 rfl)) Via.refl e3 P1 (g := (mkF m 22 #[.val (.ref o1), .val (.ref o1), .val (.ref o1)] [(.ref o1)])) rfl rfl (hb hby d3_22)
  obtain ⟨T5, X5, e5, st5⟩ := instY X4 hx hZ hown (own_w hw 41 rfl) e4 (Ins.self P3) (g := (mkF m 3 #[.val (.ref o1), .val (.ref o2), .val (.ref o1)] [(.ref o2)])) rfl rfl (hb hby d3_3)
  obtain ⟨T6, X6, e6, st6⟩ := castY X5 hx hZ hown (own_w hw 41 rfl) e5 (Ins.self P3) (g := (mkF m 10 #[.val (.ref o1), .val (.ref o2), .val (.ref o1)] [(.ref o2)])) rfl rfl (hb hby d3_10)
  obtain ⟨T7, X7, e7, st7⟩ := getF X6 hx hZ hown (host := "") (Or.inl (own_w hw 30 rfl)) Via.refl e6 P4 (g := (mkF m 15 #[.val (.ref o1), .val (.ref o2), .val (.ref o2)] [(.ref o2)])) rfl rfl (hb hby d3_15)
  obtain ⟨T8, X8, e8, st8⟩ := getF X7 hx hZ hown (host := "") (Or.inl (own_w hw 30 rfl)) Via.refl e7 P4 (g := (mkF m 22 #[.val (.ref o1), .val (.ref o2), .val (.ref o2)] [(.ref o2)])) rfl rfl (hb hby d3_22)
  obtain ⟨T9, X9, e9, st9⟩ := instY X8 hx hZ hown (own_w hw 41 rfl) e8 (Ins.self P6) (g := (mkF m 3 #[.val (.ref o1), .val (.ref o4), .val (.ref o2)] [(.ref o4)])) rfl rfl (hb hby d3_3)
  obtain ⟨T10, X10, e10, st10⟩ := castY X9 hx hZ hown (own_w hw 41 rfl) e9 (Ins.self P6) (g := (mkF m 10 #[.val (.ref o1), .val (.ref o4), .val (.ref o2)] [(.ref o4)])) rfl rfl (hb hby d3_10)
  obtain ⟨T11, X11, e11, st11⟩ := getF X10 hx hZ hown (host := "") (Or.inl (own_w hw 30 rfl)) Via.refl e10 P7 (g := (mkF m 15 #[.val (.ref o1), .val (.ref o4), .val (.ref o4)] [(.ref o4)])) rfl rfl (hb hby d3_15)
  obtain ⟨T12, X12, e12, st12⟩ := getF X11 hx hZ hown (host := "") (Or.inl (own_w hw 30 rfl)) Via.refl e11 P7 (g := (mkF m 22 #[.val (.ref o1), .val (.ref o4), .val (.ref o4)] [(.ref o4)])) rfl rfl (hb hby d3_22)
  obtain ⟨T13, X13, e13, st13⟩ := instNo X12 hx hZ hown (own_w hw 41 rfl) e12 P9 (own_no (own_w hw 51 rfl) (own_w hw 1 rfl) (NS.step (own_w hw 51 rfl) (own_root (own_w hw 52 rfl) (own_w hw 1 rfl) (by decide)) (by decide)) (by decide)) (g := (mkF m 3 #[.val (.ref o1), .val (.ref o6), .val (.ref o4)] [(.ref o6)])) rfl rfl (hb hby d3_3)
  obtain ⟨fs, hr, hrun, hended, hW, hsame⟩ := X13.leave (v := some (.ref o6)) (fun h => by rw [hret] at h; cases h)
  refine ⟨_, _, pre0 _ ?_, hrun, hended, _, _, rfl, ?_, ⟨_, rfl⟩, hW, hsame.mono (by decide) (by decide)⟩
  ·
    show Steps p.tables e below (s₁.setTop (mkF m 0 #[.val (.ref o1), .unset, .unset] [])) _
    refine XS.aloadN X0.here hx rfl (hb hby d3_0) rfl rfl ?_
    refine XS.astoreN X0.here hx rfl (hb hby d3_1) rfl rfl (l' := #[.val (.ref o1), .val (.ref o1), .unset]) rfl ?_
    refine XS.aloadN X0.here hx rfl (hb hby d3_2) rfl rfl ?_
    refine st1 _ ?_
    refine XS.ifNo X1.here hx rfl (hb hby d3_6) rfl ((if0 _ _).trans (feq (by decide : ¬ ((1 : Int32) = (0 : Int32)))).1) ?_
    refine XS.aloadN X1.here hx rfl (hb hby d3_9) rfl rfl ?_
    refine st2 _ ?_
    refine XS.astoreN X2.here hx rfl (hb hby d3_13) rfl rfl (l' := #[.val (.ref o1), .val (.ref o1), .val (.ref o1)]) rfl ?_
    refine XS.aloadN X2.here hx rfl (hb hby d3_14) rfl rfl ?_
    refine st3 _ ?_
    refine XS.ifnullNo X3.here hx rfl (hb hby d3_18) rfl ?_
    refine XS.aloadN X3.here hx rfl (hb hby d3_21) rfl rfl ?_
    refine st4 _ ?_
    refine XS.astoreN X4.here hx rfl (hb hby d3_25) rfl rfl (l' := #[.val (.ref o1), .val (.ref o2), .val (.ref o1)]) rfl ?_
    refine XS.goto X4.here hx rfl (pc0 := 26) (pc' := 2) rfl (hb hby d3_26) (by decide) (by decide) ?_
    refine XS.aloadN X4.here hx rfl (hb hby d3_2) rfl rfl ?_
    refine st5 _ ?_
    refine XS.ifNo X5.here hx rfl (hb hby d3_6) rfl ((if0 _ _).trans (feq (by decide : ¬ ((1 : Int32) = (0 : Int32)))).1) ?_
    refine XS.aloadN X5.here hx rfl (hb hby d3_9) rfl rfl ?_
    refine st6 _ ?_
    refine XS.astoreN X6.here hx rfl (hb hby d3_13) rfl rfl (l' := #[.val (.ref o1), .val (.ref o2), .val (.ref o2)]) rfl ?_
    refine XS.aloadN X6.here hx rfl (hb hby d3_14) rfl rfl ?_
    refine st7 _ ?_
    refine XS.ifnullNo X7.here hx rfl (hb hby d3_18) rfl ?_
    refine XS.aloadN X7.here hx rfl (hb hby d3_21) rfl rfl ?_
    refine st8 _ ?_
    refine XS.astoreN X8.here hx rfl (hb hby d3_25) rfl rfl (l' := #[.val (.ref o1), .val (.ref o4), .val (.ref o2)]) rfl ?_
    refine XS.goto X8.here hx rfl (pc0 := 26) (pc' := 2) rfl (hb hby d3_26) (by decide) (by decide) ?_
    refine XS.aloadN X8.here hx rfl (hb hby d3_2) rfl rfl ?_
    refine st9 _ ?_
    refine XS.ifNo X9.here hx rfl (hb hby d3_6) rfl ((if0 _ _).trans (feq (by decide : ¬ ((1 : Int32) = (0 : Int32)))).1) ?_
    refine XS.aloadN X9.here hx rfl (hb hby d3_9) rfl rfl ?_
    refine st10 _ ?_
    refine XS.astoreN X10.here hx rfl (hb hby d3_13) rfl rfl (l' := #[.val (.ref o1), .val (.ref o4), .val (.ref o4)]) rfl ?_
    refine XS.aloadN X10.here hx rfl (hb hby d3_14) rfl rfl ?_
    refine st11 _ ?_
    refine XS.ifnullNo X11.here hx rfl (hb hby d3_18) rfl ?_
    refine XS.aloadN X11.here hx rfl (hb hby d3_21) rfl rfl ?_
    refine st12 _ ?_
    refine XS.astoreN X12.here hx rfl (hb hby d3_25) rfl rfl (l' := #[.val (.ref o1), .val (.ref o6), .val (.ref o4)]) rfl ?_
    show Steps p.tables e below (T12.setTop (mkF m 26 #[.val (.ref o1), .val (.ref o6), .val (.ref o4)] [])) _
    refine XS.goto X12.here hx rfl (pc0 := 26) (pc' := 2) rfl (hb hby d3_26) (by decide) (by decide) ?_
    refine XS.aloadN X12.here hx rfl (hb hby d3_2) rfl rfl ?_
    refine st13 _ ?_
    refine XS.ifYes X13.here hx rfl (pc0 := 6) (pc' := 29) rfl (hb hby d3_6) rfl ((if0 _ _).trans (teq (by decide : (0 : Int32) = (0 : Int32))).1) (by decide) (by decide) ?_
    refine XS.aloadN X13.here hx rfl (hb hby d3_29) rfl rfl ?_
    show Steps p.tables e below (T13.setTop (mkF m 30 #[.val (.ref o1), .val (.ref o6), .val (.ref o4)] [(.ref o6)])) _
    exact retOut X13 hx hret rfl (Or.inr (Or.inr (Or.inr (Or.inr ⟨rfl, rfl, rfl⟩)))) (hb hby d3_30) hr
  ·
    show Q9 Z o1 o2 o4 o6 h0 n0 _ T13.heap _
    rw [e13]
    exact ⟨rfl, N0, rfl⟩
theorem d6_0 : decode prog_93_method_5_code 0 = .ok (.aload_n 0, 1) := by decide +kernel
theorem d6_1 : decode prog_93_method_5_code 1 = .ok (.aconst_null, 1) := by decide +kernel
theorem d6_2 : decode prog_93_method_5_code 2 = .ok (.putfield 26, 3) := by decide +kernel
theorem d6_5 : decode prog_93_method_5_code 5 = .ok (.return_, 1) := by decide +kernel
theorem ef10 (m : MethodId) (x0 : Addr) : entryFrame m #[(.ref x0)] 1 = mkF m 0 #[.val (.ref x0)] [] := by first | (simp [entryFrame, mkF, argsToLocals, Value.category]; done) | rfl
def Q10 (Z : State) (o1 : Addr) (o2 : Addr) (q3 : Int64) (h0 : Heap) (n0 : Nat) (v : Option Value) (h : Heap) (L : List Loc) : Prop :=
  (v = none ∧ Fr n0 L ∧ Keep h0 h [o1] ∧ (Exa Z h o1 "com/example/horn1/horn1/term/Var") ∧ (Fld Z h o1 "com/example/horn1/horn1/term/Var" "binding" "Lcom/example/horn1/horn1/term/Term;" .null) ∧ (Fld Z h o1 "com/example/horn1/horn1/term/Var" "serial" "J" (.long q3)))
set_option maxRecDepth 65536 in
set_option maxHeartbeats 40000000 in
theorem rm10 (l : Launch) (Z : State) (a0 : Array Value) (hw : ∀ d ∈ tables_1, d.before a0 Z = true) (ws : List Jvm.Cond) (o1 : Addr) (o2 : Addr) (q3 : Int64) (h0 : Heap) (n0 : Nat) (O0 : Old Z n0 h0) (g_o1 : n0 ≤ o1) (g_o2 : n0 ≤ o2) (P0 : Exa Z h0 o1 "com/example/horn1/horn1/term/Var") (P1 : Fld Z h0 o1 "com/example/horn1/horn1/term/Var" "binding" "Lcom/example/horn1/horn1/term/Term;" (.ref o2)) (P2 : Fld Z h0 o1 "com/example/horn1/horn1/term/Var" "serial" "J" (.long q3)) :
    MetFree l yn6 (head1 (Jvm.Cond.code yn6 prog_93_method_5_code 1 none :: ws) ({ frames := 0, cells := 0, slots := 0, locals := 0 } : Room)) (fun a U => a = #[(.ref o1)] ∧ Z.Warmed39 U.vm ∧ U.heap = h0) (fun _ _ _ _ _ => True) (fun _ U o U' => ∃ v L, o = .returned v ∧ Q10 Z o1 o2 q3 h0 n0 v U'.heap L ∧ FrameEnd U o U' L ({ frames := 0, cells := 0, slots := 0, locals := 0 } : Room).cells ({ frames := 0, cells := 0, slots := 0, locals := 0 } : Room).slots) := by
  refine MetFree.of_bodySF (plainFor_of_name pn0) hisR ?_
  intro p e s m args below meth c s₁ Bd hml0 hP hK
  obtain ⟨rfl, hZ, hh⟩ := hP
  have hx := Bd.exec
  have hby := Bd.bytes
  have hml : c.maxLocals = 1 := hml0
  have hown : s.vm.findClass "com/example/horn1/horn1/term/Var" = some m.cls := findClass_of_methodNamed Bd.named
  have hnm := (name_of_methodNamed Bd.named Bd.method).1
  have hret := Bd.returns
  have hlk : meth.locks = false := BodyLoose.notSynchronized Bd
  have X0 : Stand p l e ({ frames := 0, cells := 0, slots := 0, locals := 0 } : Room) s m #[(.ref o1)] below meth c s₁ [] 0 0 := Stand.of_body Bd
  have e0 : s₁.heap = h0 := by rw [← hh, Bd.state]; rfl
  have N0 := Fr.nil n0
  have pre0 : ∀ t, Steps p.tables e below (s₁.setTop (mkF m 0 #[.val (.ref o1)] [])) t → Steps p.tables e below (s₁.setTop (entryFrame m #[(.ref o1)] 1)) t := fun t k => castTop (ef10 m o1) k
  obtain ⟨T1, h1, X1, e1, W1, st1⟩ := putF X0 hx hZ hown (host := "") (Or.inl (own_w hw 30 rfl)) Via.refl e0 P1 P0 (Or.inl (own_w hw 31 rfl)) (own_w hw 1 rfl) (ty := (.object "com/example/horn1/horn1/term/Term")) (by decide) rfl rfl (g := (mkF m 2 #[.val (.ref o1)] [.null, (.ref o1)])) rfl rfl (hb hby d6_2)
  have N1 := Fr.snoc X1 N0 g_o1
  have Fw1 := P1.same W1
  have M1 : h0.size ≤ h1.size := Nat.le_trans (Nat.le_refl _) (Nat.le_of_eq W1.size.symm)
  have O1 := Old.wr O0 W1 g_o1
  obtain ⟨fs, hr, hrun, hended, hW, hsame⟩ := X1.leave (v := none) (fun _ => rfl)
  have KL : Keep h0 h1 [o1] := ((Keep.refl h0 [o1]).wr W1 (Or.inl (List.mem_of_getElem? (i := 0) rfl)))
  have f2 := (P0.wr W1)
  have f3 := (P2.other W1 (Or.inr (slot_ne (Or.inr (own_w hw 10 rfl)) (Or.inl (own_w hw 31 rfl)) (by decide) (t := .long) (t' := (.object "com/example/horn1/horn1/term/Term")) (by decide) (by decide))))
  refine ⟨_, _, pre0 _ ?_, hrun, hended, _, _, rfl, ?_, ⟨_, rfl⟩, hW, hsame.mono (by decide) (by decide)⟩
  ·
    show Steps p.tables e below (s₁.setTop (mkF m 0 #[.val (.ref o1)] [])) _
    refine XS.aloadN X0.here hx rfl (hb hby d6_0) rfl rfl ?_
    refine XS.aconstNull X0.here hx rfl (hb hby d6_1) ?_
    refine st1 _ ?_
    show Steps p.tables e below (T1.setTop (mkF m 5 #[.val (.ref o1)] [])) _
    exact X1.returnOut hx hret (hb hby d6_5) hr
  ·
    show Q10 Z o1 o2 q3 h0 n0 _ T1.heap _
    rw [e1]
    exact ⟨rfl, N1, KL, f2, Fw1, f3⟩
theorem pd5 : parseMethodDescriptor "()V" = some ⟨[], none⟩ := by decide +kernel
theorem ef11 (m : MethodId) (x0 : Addr) : entryFrame m #[(.ref x0)] 1 = mkF m 0 #[.val (.ref x0)] [] := by first | (simp [entryFrame, mkF, argsToLocals, Value.category]; done) | rfl
def Q11 (Z : State) (o1 : Addr) (o2 : Addr) (o4 : Addr) (q3 : Int64) (h0 : Heap) (n0 : Nat) (v : Option Value) (h : Heap) (L : List Loc) : Prop :=
  (v = none ∧ Fr n0 L ∧ Keep h0 h [o1] ∧ (Exa Z h o1 "com/example/horn1/horn1/term/Var") ∧ (Fld Z h o1 "com/example/horn1/horn1/term/Var" "binding" "Lcom/example/horn1/horn1/term/Term;" .null) ∧ (Fld Z h o1 "com/example/horn1/horn1/term/Var" "serial" "J" (.long q3)))
set_option maxRecDepth 65536 in
set_option maxHeartbeats 40000000 in
theorem rm11 (l : Launch) (Z : State) (a0 : Array Value) (hw : ∀ d ∈ tables_1, d.before a0 Z = true) (ws : List Jvm.Cond) (o1 : Addr) (o2 : Addr) (o4 : Addr) (q3 : Int64) (h0 : Heap) (n0 : Nat) (O0 : Old Z n0 h0) (g_o1 : n0 ≤ o1) (g_o2 : n0 ≤ o2) (g_o4 : n0 ≤ o4) (P0 : Exa Z h0 o1 "com/example/horn1/horn1/term/Var") (P1 : Fld Z h0 o1 "com/example/horn1/horn1/term/Var" "binding" "Lcom/example/horn1/horn1/term/Term;" (.ref o2)) (P2 : Fld Z h0 o1 "com/example/horn1/horn1/term/Var" "serial" "J" (.long q3)) :
    MetFree l yn6 (head1 (Jvm.Cond.code yn6 prog_93_method_5_code 1 none :: ws) ({ frames := 0, cells := 0, slots := 0, locals := 0 } : Room)) (fun a U => a = #[(.ref o1)] ∧ Z.Warmed39 U.vm ∧ U.heap = h0) (fun _ _ _ _ _ => True) (fun _ U o U' => ∃ v L, o = .returned v ∧ Q11 Z o1 o2 o4 q3 h0 n0 v U'.heap L ∧ FrameEnd U o U' L ({ frames := 0, cells := 0, slots := 0, locals := 0 } : Room).cells ({ frames := 0, cells := 0, slots := 0, locals := 0 } : Room).slots) := by
  refine MetFree.of_bodySF (plainFor_of_name pn0) hisR ?_
  intro p e s m args below meth c s₁ Bd hml0 hP hK
  obtain ⟨rfl, hZ, hh⟩ := hP
  have hx := Bd.exec
  have hby := Bd.bytes
  have hml : c.maxLocals = 1 := hml0
  have hown : s.vm.findClass "com/example/horn1/horn1/term/Var" = some m.cls := findClass_of_methodNamed Bd.named
  have hnm := (name_of_methodNamed Bd.named Bd.method).1
  have hret := Bd.returns
  have hlk : meth.locks = false := BodyLoose.notSynchronized Bd
  have X0 : Stand p l e ({ frames := 0, cells := 0, slots := 0, locals := 0 } : Room) s m #[(.ref o1)] below meth c s₁ [] 0 0 := Stand.of_body Bd
  have e0 : s₁.heap = h0 := by rw [← hh, Bd.state]; rfl
  have N0 := Fr.nil n0
  have pre0 : ∀ t, Steps p.tables e below (s₁.setTop (mkF m 0 #[.val (.ref o1)] [])) t → Steps p.tables e below (s₁.setTop (entryFrame m #[(.ref o1)] 1)) t := fun t k => castTop (ef11 m o1) k
  obtain ⟨T1, h1, X1, e1, W1, st1⟩ := putF X0 hx hZ hown (host := "") (Or.inl (own_w hw 30 rfl)) Via.refl e0 P1 P0 (Or.inl (own_w hw 31 rfl)) (own_w hw 1 rfl) (ty := (.object "com/example/horn1/horn1/term/Term")) (by decide) rfl rfl (g := (mkF m 2 #[.val (.ref o1)] [.null, (.ref o1)])) rfl rfl (hb hby d6_2)
  have N1 := Fr.snoc X1 N0 g_o1
  have Fw1 := P1.same W1
  have M1 : h0.size ≤ h1.size := Nat.le_trans (Nat.le_refl _) (Nat.le_of_eq W1.size.symm)
  have O1 := Old.wr O0 W1 g_o1
  obtain ⟨fs, hr, hrun, hended, hW, hsame⟩ := X1.leave (v := none) (fun _ => rfl)
  have KL : Keep h0 h1 [o1] := ((Keep.refl h0 [o1]).wr W1 (Or.inl (List.mem_of_getElem? (i := 0) rfl)))
  have f2 := (P0.wr W1)
  have f3 := (P2.other W1 (Or.inr (slot_ne (Or.inr (own_w hw 10 rfl)) (Or.inl (own_w hw 31 rfl)) (by decide) (t := .long) (t' := (.object "com/example/horn1/horn1/term/Term")) (by decide) (by decide))))
  refine ⟨_, _, pre0 _ ?_, hrun, hended, _, _, rfl, ?_, ⟨_, rfl⟩, hW, hsame.mono (by decide) (by decide)⟩
  ·
    show Steps p.tables e below (s₁.setTop (mkF m 0 #[.val (.ref o1)] [])) _
    refine XS.aloadN X0.here hx rfl (hb hby d6_0) rfl rfl ?_
    refine XS.aconstNull X0.here hx rfl (hb hby d6_1) ?_
    refine st1 _ ?_
    show Steps p.tables e below (T1.setTop (mkF m 5 #[.val (.ref o1)] [])) _
    exact X1.returnOut hx hret (hb hby d6_5) hr
  ·
    show Q11 Z o1 o2 o4 q3 h0 n0 _ T1.heap _
    rw [e1]
    exact ⟨rfl, N1, KL, f2, Fw1, f3⟩
theorem ef12 (m : MethodId) (x0 : Addr) : entryFrame m #[(.ref x0)] 3 = mkF m 0 #[.val (.ref x0), .unset, .unset] [] := by first | (simp [entryFrame, mkF, argsToLocals, Value.category]; done) | rfl
def Q12 (Z : State) (o1 : Addr) (o2 : Addr) (h0 : Heap) (n0 : Nat) (v : Option Value) (h : Heap) (L : List Loc) : Prop :=
  (v = some (.ref o2) ∧ Fr n0 L ∧ h = h0)
set_option maxRecDepth 65536 in
set_option maxHeartbeats 40000000 in
theorem rm12 (l : Launch) (Z : State) (a0 : Array Value) (hw : ∀ d ∈ tables_1, d.before a0 Z = true) (ws : List Jvm.Cond) (o1 : Addr) (o2 : Addr) (h0 : Heap) (n0 : Nat) (O0 : Old Z n0 h0) (g_o1 : n0 ≤ o1) (g_o2 : n0 ≤ o2) (P0 : Exa Z h0 o1 "com/example/horn1/horn1/term/Var") (P1 : Fld Z h0 o1 "com/example/horn1/horn1/term/Var" "binding" "Lcom/example/horn1/horn1/term/Term;" (.ref o2)) (P3 : Exa Z h0 o2 "com/example/horn1/horn1/term/Int") :
    MetFree l yn3 (head1 (Jvm.Cond.code yn3 prog_93_method_6_code 3 (some (.object "com/example/horn1/horn1/term/Term")) :: ws) ({ frames := 0, cells := 0, slots := 0, locals := 0 } : Room)) (fun a U => a = #[(.ref o1)] ∧ Z.Warmed39 U.vm ∧ U.heap = h0) (fun _ _ _ _ _ => True) (fun _ U o U' => ∃ v L, o = .returned v ∧ Q12 Z o1 o2 h0 n0 v U'.heap L ∧ FrameEnd U o U' L ({ frames := 0, cells := 0, slots := 0, locals := 0 } : Room).cells ({ frames := 0, cells := 0, slots := 0, locals := 0 } : Room).slots) := by
  refine MetFree.of_bodySF (plainFor_of_name pn0) hisR ?_
  intro p e s m args below meth c s₁ Bd hml0 hP hK
  obtain ⟨rfl, hZ, hh⟩ := hP
  have hx := Bd.exec
  have hby := Bd.bytes
  have hml : c.maxLocals = 3 := hml0
  have hown : s.vm.findClass "com/example/horn1/horn1/term/Var" = some m.cls := findClass_of_methodNamed Bd.named
  have hnm := (name_of_methodNamed Bd.named Bd.method).1
  have hret := Bd.returns
  have hlk : meth.locks = false := BodyLoose.notSynchronized Bd
  have X0 : Stand p l e ({ frames := 0, cells := 0, slots := 0, locals := 0 } : Room) s m #[(.ref o1)] below meth c s₁ [] 0 0 := Stand.of_body Bd
  have e0 : s₁.heap = h0 := by rw [← hh, Bd.state]; rfl
  have N0 := Fr.nil n0
  have pre0 : ∀ t, Steps p.tables e below (s₁.setTop (mkF m 0 #[.val (.ref o1), .unset, .unset] [])) t → Steps p.tables e below (s₁.setTop (entryFrame m #[(.ref o1)] 3)) t := fun t k => castTop (ef12 m o1) k
  obtain ⟨T1, X1, e1, st1⟩ := instY X0 hx hZ hown (own_w hw 41 rfl) e0 (Ins.self P0) (g := (mkF m 3 #[.val (.ref o1), .val (.ref o1), .unset] [(.ref o1)])) rfl rfl (hb hby d3_3)
  obtain ⟨T2, X2, e2, st2⟩ := castY X1 hx hZ hown (own_w hw 41 rfl) e1 (Ins.self P0) (g := (mkF m 10 #[.val (.ref o1), .val (.ref o1), .unset] [(.ref o1)])) rfl rfl (hb hby d3_10)
  obtain ⟨T3, X3, e3, st3⟩ := getF X2 hx hZ hown (host := "") (Or.inl (own_w hw 30 rfl)) Via.refl e2 P1 (g := (mkF m 15 #[.val (.ref o1), .val (.ref o1), .val (.ref o1)] [(.ref o1)])) rfl rfl (hb hby d3_15)
  obtain ⟨T4, X4, e4, st4⟩ := getF X3 hx hZ hown (host := "") (Or.inl (own_w hw 30 rfl)) Via.refl e3 P1 (g := (mkF m 22 #[.val (.ref o1), .val (.ref o1), .val (.ref o1)] [(.ref o1)])) rfl rfl (hb hby d3_22)
  obtain ⟨T5, X5, e5, st5⟩ := instNo X4 hx hZ hown (own_w hw 41 rfl) e4 P3 (own_no (own_w hw 51 rfl) (own_w hw 1 rfl) (NS.step (own_w hw 51 rfl) (own_root (own_w hw 52 rfl) (own_w hw 1 rfl) (by decide)) (by decide)) (by decide)) (g := (mkF m 3 #[.val (.ref o1), .val (.ref o2), .val (.ref o1)] [(.ref o2)])) rfl rfl (hb hby d3_3)
  obtain ⟨fs, hr, hrun, hended, hW, hsame⟩ := X5.leave (v := some (.ref o2)) (fun h => by rw [hret] at h; cases h)
  refine ⟨_, _, pre0 _ ?_, hrun, hended, _, _, rfl, ?_, ⟨_, rfl⟩, hW, hsame.mono (by decide) (by decide)⟩
  ·
    show Steps p.tables e below (s₁.setTop (mkF m 0 #[.val (.ref o1), .unset, .unset] [])) _
    refine XS.aloadN X0.here hx rfl (hb hby d3_0) rfl rfl ?_
    refine XS.astoreN X0.here hx rfl (hb hby d3_1) rfl rfl (l' := #[.val (.ref o1), .val (.ref o1), .unset]) rfl ?_
    refine XS.aloadN X0.here hx rfl (hb hby d3_2) rfl rfl ?_
    refine st1 _ ?_
    refine XS.ifNo X1.here hx rfl (hb hby d3_6) rfl ((if0 _ _).trans (feq (by decide : ¬ ((1 : Int32) = (0 : Int32)))).1) ?_
    refine XS.aloadN X1.here hx rfl (hb hby d3_9) rfl rfl ?_
    refine st2 _ ?_
    refine XS.astoreN X2.here hx rfl (hb hby d3_13) rfl rfl (l' := #[.val (.ref o1), .val (.ref o1), .val (.ref o1)]) rfl ?_
    refine XS.aloadN X2.here hx rfl (hb hby d3_14) rfl rfl ?_
    refine st3 _ ?_
    refine XS.ifnullNo X3.here hx rfl (hb hby d3_18) rfl ?_
    refine XS.aloadN X3.here hx rfl (hb hby d3_21) rfl rfl ?_
    refine st4 _ ?_
    refine XS.astoreN X4.here hx rfl (hb hby d3_25) rfl rfl (l' := #[.val (.ref o1), .val (.ref o2), .val (.ref o1)]) rfl ?_
    refine XS.goto X4.here hx rfl (pc0 := 26) (pc' := 2) rfl (hb hby d3_26) (by decide) (by decide) ?_
    refine XS.aloadN X4.here hx rfl (hb hby d3_2) rfl rfl ?_
    refine st5 _ ?_
    refine XS.ifYes X5.here hx rfl (pc0 := 6) (pc' := 29) rfl (hb hby d3_6) rfl ((if0 _ _).trans (teq (by decide : (0 : Int32) = (0 : Int32))).1) (by decide) (by decide) ?_
    refine XS.aloadN X5.here hx rfl (hb hby d3_29) rfl rfl ?_
    show Steps p.tables e below (T5.setTop (mkF m 30 #[.val (.ref o1), .val (.ref o2), .val (.ref o1)] [(.ref o2)])) _
    exact retOut X5 hx hret rfl (Or.inr (Or.inr (Or.inr (Or.inr ⟨rfl, rfl, rfl⟩)))) (hb hby d3_30) hr
  ·
    show Q12 Z o1 o2 h0 n0 _ T5.heap _
    rw [e5]
    exact ⟨rfl, N0, rfl⟩
theorem ef13 (m : MethodId) (x0 : Addr) : entryFrame m #[(.ref x0)] 3 = mkF m 0 #[.val (.ref x0), .unset, .unset] [] := by first | (simp [entryFrame, mkF, argsToLocals, Value.category]; done) | rfl
def Q13 (Z : State) (o1 : Addr) (o2 : Addr) (o4 : Addr) (h0 : Heap) (n0 : Nat) (v : Option Value) (h : Heap) (L : List Loc) : Prop :=
  (v = some (.ref o4) ∧ Fr n0 L ∧ h = h0)
set_option maxRecDepth 65536 in
set_option maxHeartbeats 40000000 in
theorem rm13 (l : Launch) (Z : State) (a0 : Array Value) (hw : ∀ d ∈ tables_1, d.before a0 Z = true) (ws : List Jvm.Cond) (o1 : Addr) (o2 : Addr) (o4 : Addr) (h0 : Heap) (n0 : Nat) (O0 : Old Z n0 h0) (g_o1 : n0 ≤ o1) (g_o2 : n0 ≤ o2) (g_o4 : n0 ≤ o4) (P0 : Exa Z h0 o1 "com/example/horn1/horn1/term/Var") (P1 : Fld Z h0 o1 "com/example/horn1/horn1/term/Var" "binding" "Lcom/example/horn1/horn1/term/Term;" (.ref o2)) (P3 : Exa Z h0 o2 "com/example/horn1/horn1/term/Var") (P4 : Fld Z h0 o2 "com/example/horn1/horn1/term/Var" "binding" "Lcom/example/horn1/horn1/term/Term;" (.ref o4)) (P6 : Exa Z h0 o4 "com/example/horn1/horn1/term/Int") :
    MetFree l yn3 (head1 (Jvm.Cond.code yn3 prog_93_method_6_code 3 (some (.object "com/example/horn1/horn1/term/Term")) :: ws) ({ frames := 0, cells := 0, slots := 0, locals := 0 } : Room)) (fun a U => a = #[(.ref o1)] ∧ Z.Warmed39 U.vm ∧ U.heap = h0) (fun _ _ _ _ _ => True) (fun _ U o U' => ∃ v L, o = .returned v ∧ Q13 Z o1 o2 o4 h0 n0 v U'.heap L ∧ FrameEnd U o U' L ({ frames := 0, cells := 0, slots := 0, locals := 0 } : Room).cells ({ frames := 0, cells := 0, slots := 0, locals := 0 } : Room).slots) := by
  refine MetFree.of_bodySF (plainFor_of_name pn0) hisR ?_
  intro p e s m args below meth c s₁ Bd hml0 hP hK
  obtain ⟨rfl, hZ, hh⟩ := hP
  have hx := Bd.exec
  have hby := Bd.bytes
  have hml : c.maxLocals = 3 := hml0
  have hown : s.vm.findClass "com/example/horn1/horn1/term/Var" = some m.cls := findClass_of_methodNamed Bd.named
  have hnm := (name_of_methodNamed Bd.named Bd.method).1
  have hret := Bd.returns
  have hlk : meth.locks = false := BodyLoose.notSynchronized Bd
  have X0 : Stand p l e ({ frames := 0, cells := 0, slots := 0, locals := 0 } : Room) s m #[(.ref o1)] below meth c s₁ [] 0 0 := Stand.of_body Bd
  have e0 : s₁.heap = h0 := by rw [← hh, Bd.state]; rfl
  have N0 := Fr.nil n0
  have pre0 : ∀ t, Steps p.tables e below (s₁.setTop (mkF m 0 #[.val (.ref o1), .unset, .unset] [])) t → Steps p.tables e below (s₁.setTop (entryFrame m #[(.ref o1)] 3)) t := fun t k => castTop (ef13 m o1) k
  obtain ⟨T1, X1, e1, st1⟩ := instY X0 hx hZ hown (own_w hw 41 rfl) e0 (Ins.self P0) (g := (mkF m 3 #[.val (.ref o1), .val (.ref o1), .unset] [(.ref o1)])) rfl rfl (hb hby d3_3)
  obtain ⟨T2, X2, e2, st2⟩ := castY X1 hx hZ hown (own_w hw 41 rfl) e1 (Ins.self P0) (g := (mkF m 10 #[.val (.ref o1), .val (.ref o1), .unset] [(.ref o1)])) rfl rfl (hb hby d3_10)
  obtain ⟨T3, X3, e3, st3⟩ := getF X2 hx hZ hown (host := "") (Or.inl (own_w hw 30 rfl)) Via.refl e2 P1 (g := (mkF m 15 #[.val (.ref o1), .val (.ref o1), .val (.ref o1)] [(.ref o1)])) rfl rfl (hb hby d3_15)
  obtain ⟨T4, X4, e4, st4⟩ := getF X3 hx hZ hown (host := "") (Or.inl (own_w hw 30 rfl)) Via.refl e3 P1 (g := (mkF m 22 #[.val (.ref o1), .val (.ref o1), .val (.ref o1)] [(.ref o1)])) rfl rfl (hb hby d3_22)
  obtain ⟨T5, X5, e5, st5⟩ := instY X4 hx hZ hown (own_w hw 41 rfl) e4 (Ins.self P3) (g := (mkF m 3 #[.val (.ref o1), .val (.ref o2), .val (.ref o1)] [(.ref o2)])) rfl rfl (hb hby d3_3)
  obtain ⟨T6, X6, e6, st6⟩ := castY X5 hx hZ hown (own_w hw 41 rfl) e5 (Ins.self P3) (g := (mkF m 10 #[.val (.ref o1), .val (.ref o2), .val (.ref o1)] [(.ref o2)])) rfl rfl (hb hby d3_10)
  obtain ⟨T7, X7, e7, st7⟩ := getF X6 hx hZ hown (host := "") (Or.inl (own_w hw 30 rfl)) Via.refl e6 P4 (g := (mkF m 15 #[.val (.ref o1), .val (.ref o2), .val (.ref o2)] [(.ref o2)])) rfl rfl (hb hby d3_15)
  obtain ⟨T8, X8, e8, st8⟩ := getF X7 hx hZ hown (host := "") (Or.inl (own_w hw 30 rfl)) Via.refl e7 P4 (g := (mkF m 22 #[.val (.ref o1), .val (.ref o2), .val (.ref o2)] [(.ref o2)])) rfl rfl (hb hby d3_22)
  obtain ⟨T9, X9, e9, st9⟩ := instNo X8 hx hZ hown (own_w hw 41 rfl) e8 P6 (own_no (own_w hw 51 rfl) (own_w hw 1 rfl) (NS.step (own_w hw 51 rfl) (own_root (own_w hw 52 rfl) (own_w hw 1 rfl) (by decide)) (by decide)) (by decide)) (g := (mkF m 3 #[.val (.ref o1), .val (.ref o4), .val (.ref o2)] [(.ref o4)])) rfl rfl (hb hby d3_3)
  obtain ⟨fs, hr, hrun, hended, hW, hsame⟩ := X9.leave (v := some (.ref o4)) (fun h => by rw [hret] at h; cases h)
  refine ⟨_, _, pre0 _ ?_, hrun, hended, _, _, rfl, ?_, ⟨_, rfl⟩, hW, hsame.mono (by decide) (by decide)⟩
  ·
    show Steps p.tables e below (s₁.setTop (mkF m 0 #[.val (.ref o1), .unset, .unset] [])) _
    refine XS.aloadN X0.here hx rfl (hb hby d3_0) rfl rfl ?_
    refine XS.astoreN X0.here hx rfl (hb hby d3_1) rfl rfl (l' := #[.val (.ref o1), .val (.ref o1), .unset]) rfl ?_
    refine XS.aloadN X0.here hx rfl (hb hby d3_2) rfl rfl ?_
    refine st1 _ ?_
    refine XS.ifNo X1.here hx rfl (hb hby d3_6) rfl ((if0 _ _).trans (feq (by decide : ¬ ((1 : Int32) = (0 : Int32)))).1) ?_
    refine XS.aloadN X1.here hx rfl (hb hby d3_9) rfl rfl ?_
    refine st2 _ ?_
    refine XS.astoreN X2.here hx rfl (hb hby d3_13) rfl rfl (l' := #[.val (.ref o1), .val (.ref o1), .val (.ref o1)]) rfl ?_
    refine XS.aloadN X2.here hx rfl (hb hby d3_14) rfl rfl ?_
    refine st3 _ ?_
    refine XS.ifnullNo X3.here hx rfl (hb hby d3_18) rfl ?_
    refine XS.aloadN X3.here hx rfl (hb hby d3_21) rfl rfl ?_
    refine st4 _ ?_
    refine XS.astoreN X4.here hx rfl (hb hby d3_25) rfl rfl (l' := #[.val (.ref o1), .val (.ref o2), .val (.ref o1)]) rfl ?_
    refine XS.goto X4.here hx rfl (pc0 := 26) (pc' := 2) rfl (hb hby d3_26) (by decide) (by decide) ?_
    refine XS.aloadN X4.here hx rfl (hb hby d3_2) rfl rfl ?_
    refine st5 _ ?_
    refine XS.ifNo X5.here hx rfl (hb hby d3_6) rfl ((if0 _ _).trans (feq (by decide : ¬ ((1 : Int32) = (0 : Int32)))).1) ?_
    refine XS.aloadN X5.here hx rfl (hb hby d3_9) rfl rfl ?_
    refine st6 _ ?_
    refine XS.astoreN X6.here hx rfl (hb hby d3_13) rfl rfl (l' := #[.val (.ref o1), .val (.ref o2), .val (.ref o2)]) rfl ?_
    refine XS.aloadN X6.here hx rfl (hb hby d3_14) rfl rfl ?_
    refine st7 _ ?_
    refine XS.ifnullNo X7.here hx rfl (hb hby d3_18) rfl ?_
    refine XS.aloadN X7.here hx rfl (hb hby d3_21) rfl rfl ?_
    refine st8 _ ?_
    refine XS.astoreN X8.here hx rfl (hb hby d3_25) rfl rfl (l' := #[.val (.ref o1), .val (.ref o4), .val (.ref o2)]) rfl ?_
    refine XS.goto X8.here hx rfl (pc0 := 26) (pc' := 2) rfl (hb hby d3_26) (by decide) (by decide) ?_
    refine XS.aloadN X8.here hx rfl (hb hby d3_2) rfl rfl ?_
    refine st9 _ ?_
    refine XS.ifYes X9.here hx rfl (pc0 := 6) (pc' := 29) rfl (hb hby d3_6) rfl ((if0 _ _).trans (teq (by decide : (0 : Int32) = (0 : Int32))).1) (by decide) (by decide) ?_
    refine XS.aloadN X9.here hx rfl (hb hby d3_29) rfl rfl ?_
    show Steps p.tables e below (T9.setTop (mkF m 30 #[.val (.ref o1), .val (.ref o4), .val (.ref o2)] [(.ref o4)])) _
    exact retOut X9 hx hret rfl (Or.inr (Or.inr (Or.inr (Or.inr ⟨rfl, rfl, rfl⟩)))) (hb hby d3_30) hr
  ·
    show Q13 Z o1 o2 o4 h0 n0 _ T9.heap _
    rw [e9]
    exact ⟨rfl, N0, rfl⟩
theorem ef14 (m : MethodId) (x0 : Addr) : entryFrame m #[(.ref x0)] 1 = mkF m 0 #[.val (.ref x0)] [] := by first | (simp [entryFrame, mkF, argsToLocals, Value.category]; done) | rfl
def Q14 (Z : State) (o1 : Addr) (o2 : Addr) (q3 : Int64) (h0 : Heap) (n0 : Nat) (v : Option Value) (h : Heap) (L : List Loc) : Prop :=
  (v = none ∧ Fr n0 L ∧ Keep h0 h [o1] ∧ (Exa Z h o1 "com/example/horn1/horn1/term/Var") ∧ (Fld Z h o1 "com/example/horn1/horn1/term/Var" "binding" "Lcom/example/horn1/horn1/term/Term;" .null) ∧ (Fld Z h o1 "com/example/horn1/horn1/term/Var" "serial" "J" (.long q3)))
set_option maxRecDepth 65536 in
set_option maxHeartbeats 40000000 in
theorem rm14 (l : Launch) (Z : State) (a0 : Array Value) (hw : ∀ d ∈ tables_1, d.before a0 Z = true) (ws : List Jvm.Cond) (o1 : Addr) (o2 : Addr) (q3 : Int64) (h0 : Heap) (n0 : Nat) (O0 : Old Z n0 h0) (g_o1 : n0 ≤ o1) (g_o2 : n0 ≤ o2) (P0 : Exa Z h0 o1 "com/example/horn1/horn1/term/Var") (P1 : Fld Z h0 o1 "com/example/horn1/horn1/term/Var" "binding" "Lcom/example/horn1/horn1/term/Term;" (.ref o2)) (P2 : Fld Z h0 o1 "com/example/horn1/horn1/term/Var" "serial" "J" (.long q3)) :
    MetFree l yn6 (head1 (Jvm.Cond.code yn6 prog_93_method_5_code 1 none :: ws) ({ frames := 0, cells := 0, slots := 0, locals := 0 } : Room)) (fun a U => a = #[(.ref o1)] ∧ Z.Warmed39 U.vm ∧ U.heap = h0) (fun _ _ _ _ _ => True) (fun _ U o U' => ∃ v L, o = .returned v ∧ Q14 Z o1 o2 q3 h0 n0 v U'.heap L ∧ FrameEnd U o U' L ({ frames := 0, cells := 0, slots := 0, locals := 0 } : Room).cells ({ frames := 0, cells := 0, slots := 0, locals := 0 } : Room).slots) := by
  refine MetFree.of_bodySF (plainFor_of_name pn0) hisR ?_
  intro p e s m args below meth c s₁ Bd hml0 hP hK
  obtain ⟨rfl, hZ, hh⟩ := hP
  have hx := Bd.exec
  have hby := Bd.bytes
  have hml : c.maxLocals = 1 := hml0
  have hown : s.vm.findClass "com/example/horn1/horn1/term/Var" = some m.cls := findClass_of_methodNamed Bd.named
  have hnm := (name_of_methodNamed Bd.named Bd.method).1
  have hret := Bd.returns
  have hlk : meth.locks = false := BodyLoose.notSynchronized Bd
  have X0 : Stand p l e ({ frames := 0, cells := 0, slots := 0, locals := 0 } : Room) s m #[(.ref o1)] below meth c s₁ [] 0 0 := Stand.of_body Bd
  have e0 : s₁.heap = h0 := by rw [← hh, Bd.state]; rfl
  have N0 := Fr.nil n0
  have pre0 : ∀ t, Steps p.tables e below (s₁.setTop (mkF m 0 #[.val (.ref o1)] [])) t → Steps p.tables e below (s₁.setTop (entryFrame m #[(.ref o1)] 1)) t := fun t k => castTop (ef14 m o1) k
  obtain ⟨T1, h1, X1, e1, W1, st1⟩ := putF X0 hx hZ hown (host := "") (Or.inl (own_w hw 30 rfl)) Via.refl e0 P1 P0 (Or.inl (own_w hw 31 rfl)) (own_w hw 1 rfl) (ty := (.object "com/example/horn1/horn1/term/Term")) (by decide) rfl rfl (g := (mkF m 2 #[.val (.ref o1)] [.null, (.ref o1)])) rfl rfl (hb hby d6_2)
  have N1 := Fr.snoc X1 N0 g_o1
  have Fw1 := P1.same W1
  have M1 : h0.size ≤ h1.size := Nat.le_trans (Nat.le_refl _) (Nat.le_of_eq W1.size.symm)
  have O1 := Old.wr O0 W1 g_o1
  obtain ⟨fs, hr, hrun, hended, hW, hsame⟩ := X1.leave (v := none) (fun _ => rfl)
  have KL : Keep h0 h1 [o1] := ((Keep.refl h0 [o1]).wr W1 (Or.inl (List.mem_of_getElem? (i := 0) rfl)))
  have f2 := (P0.wr W1)
  have f3 := (P2.other W1 (Or.inr (slot_ne (Or.inr (own_w hw 10 rfl)) (Or.inl (own_w hw 31 rfl)) (by decide) (t := .long) (t' := (.object "com/example/horn1/horn1/term/Term")) (by decide) (by decide))))
  refine ⟨_, _, pre0 _ ?_, hrun, hended, _, _, rfl, ?_, ⟨_, rfl⟩, hW, hsame.mono (by decide) (by decide)⟩
  ·
    show Steps p.tables e below (s₁.setTop (mkF m 0 #[.val (.ref o1)] [])) _
    refine XS.aloadN X0.here hx rfl (hb hby d6_0) rfl rfl ?_
    refine XS.aconstNull X0.here hx rfl (hb hby d6_1) ?_
    refine st1 _ ?_
    show Steps p.tables e below (T1.setTop (mkF m 5 #[.val (.ref o1)] [])) _
    exact X1.returnOut hx hret (hb hby d6_5) hr
  ·
    show Q14 Z o1 o2 q3 h0 n0 _ T1.heap _
    rw [e1]
    exact ⟨rfl, N1, KL, f2, Fw1, f3⟩
theorem pn3 : plainName "com/example/horn1/horn1/term/VarDerefPinLaw" = true := by first | (simp [plainName, overriddenIn]; done) | decide +kernel
theorem ef0 (m : MethodId) (x0 : Int64) (x1 : Int64) (x2 : Int64) (x3 : Int64) (x4 : Int32) : entryFrame m #[(.long x0), (.long x1), (.long x2), (.long x3), (.int x4)] maxLocals = mkF m 0 #[.val (.long x0), .second, .val (.long x1), .second, .val (.long x2), .second, .val (.long x3), .second, .val (.int x4), .unset, .unset, .unset, .unset, .unset, .unset, .unset, .unset, .unset, .unset, .unset] [] := by first | (simp [entryFrame, mkF, argsToLocals, Value.category, maxLocals]; done) | rfl
set_option maxRecDepth 65536 in
set_option maxHeartbeats 40000000 in
theorem rm0 (l : Launch) (Z : State) (a0 : Array Value) (hw : ∀ d ∈ tables_1, d.before a0 Z = true) (ws : List Jvm.Cond) (q1 : Int64) (q2 : Int64) (q3 : Int64) (q4 : Int64) (p5 : Int32) (h0 : Heap) (n0 : Nat) (O0 : Old Z n0 h0) :
    MetFree l x (head1 (Jvm.Cond.code x code maxLocals ret :: ws) room_1) (fun a U => a = #[(.long q1), (.long q2), (.long q3), (.long q4), (.int p5)] ∧ Z.Warmed39 U.vm ∧ U.heap = h0) (fun _ _ _ _ _ => True) (fun _ U o U' => ∃ v L, o = .returned v ∧ Q0 n0 v U'.heap L ∧ FrameEnd U o U' L 16 128) := by
  refine MetFree.of_bodySF (plainFor_of_name pn3) hisR ?_
  intro p e s m args below meth c s₁ Bd hml0 hP hK
  obtain ⟨rfl, hZ, hh⟩ := hP
  have hx := Bd.exec
  have hby := Bd.bytes
  have hml : c.maxLocals = 20 := hml0
  have hown : s.vm.findClass "com/example/horn1/horn1/term/VarDerefPinLaw" = some m.cls := findClass_of_methodNamed Bd.named
  have hnm := (name_of_methodNamed Bd.named Bd.method).1
  have hret := Bd.returns
  have hlk : meth.locks = false := BodyLoose.notSynchronized Bd
  have X0 : Stand p l e room_1 s m #[(.long q1), (.long q2), (.long q3), (.long q4), (.int p5)] below meth c s₁ [] 0 0 := Stand.of_body Bd
  have e0 : s₁.heap = h0 := by rw [← hh, Bd.state]; rfl
  have N0 := Fr.nil n0
  have pre0 : ∀ t, Steps p.tables e below (s₁.setTop (mkF m 0 #[.val (.long q1), .second, .val (.long q2), .second, .val (.long q3), .second, .val (.long q4), .second, .val (.int p5), .unset, .unset, .unset, .unset, .unset, .unset, .unset, .unset, .unset, .unset, .unset] [])) t → Steps p.tables e below (s₁.setTop (entryFrame m #[(.long q1), (.long q2), (.long q3), (.long q4), (.int p5)] maxLocals)) t := fun t k => castTop (ef0 m q1 q2 q3 q4 p5) k
  obtain ⟨T1, h1, X1, e1, E1, A1, D1, -, st1⟩ := newO X0 hx hZ hown (own_w hw 0 rfl) (own_w hw 1 rfl) (own_w hw 2 rfl) e0 (g := (mkF m 0 #[.val (.long q1), .second, .val (.long q2), .second, .val (.long q3), .second, .val (.long q4), .second, .val (.int p5), .unset, .unset, .unset, .unset, .unset, .unset, .unset, .unset, .unset, .unset, .unset] [])) rfl (hb hby at_0) (by decide) (by decide)
  obtain ⟨b1, g1⟩ : ∃ z, z = h0.size := ⟨_, rfl⟩
  rw [← g1] at A1 D1 st1
  have M1 : h0.size ≤ h1.size := Nat.le_trans (Nat.le_refl _) E1.1
  have O1 := Old.ext O0 E1
  have sz_b1 : h0.size ≤ b1 := Nat.le_of_eq g1.symm
  have g_b1 : n0 ≤ b1 := Nat.le_trans (own_oz O0) (Nat.le_trans (Nat.le_refl _) sz_b1)
  have F1_10 : Fld Z h1 b1 "com/example/horn1/horn1/term/Var" "serial" "J" (.long 0) := D1 (Or.inr (own_w hw 10 rfl)) (ty := .long) (by decide)
  have F1_31 : Fld Z h1 b1 "com/example/horn1/horn1/term/Var" "binding" "Lcom/example/horn1/horn1/term/Term;" .null := D1 (Or.inl (own_w hw 31 rfl)) (ty := (.object "com/example/horn1/horn1/term/Term")) (by decide)
  obtain ⟨_, T2, L2, X2, hQ2, st2⟩ := own_sb X1 hx hZ hown (y := yn0) (own_w hw 3 rfl) (own_w hw 4 rfl) (own_w hw 5 rfl) (own_w hw 2 rfl) e1 (a := b1) (argsL := [(.long q1)]) (rest := [(.ref b1)]) (rm1 l Z a0 hw [] b1 q1 h1 n0 O1 g_b1 A1 F1_31 F1_10) (g := (mkF m 5 #[.val (.long q1), .second, .val (.long q2), .second, .val (.long q3), .second, .val (.long q4), .second, .val (.int p5), .unset, .unset, .unset, .unset, .unset, .unset, .unset, .unset, .unset, .unset, .unset] [(.long q1), (.ref b1), (.ref b1)])) rfl (by rw [hml]; rfl) rfl (hb hby at_5) (lenOf pd0 rfl) (W := 1) (c1 := 1) (s1 := 2)
  obtain ⟨rfl, Nq3, K4, f5, f6, f7⟩ := hQ2
  have N2 := Fr.app N0 Nq3
  have M2 : h0.size ≤ T2.heap.size := Nat.le_trans M1 K4.1
  have O2 := Old.keep O1 K4 (allS g_b1 all0)
  obtain ⟨T8, h8, X8, e8, E8, A8, D8, -, st8⟩ := newO X2 hx hZ hown (own_w hw 0 rfl) (own_w hw 1 rfl) (own_w hw 2 rfl) rfl (g := (mkF m 10 #[.val (.long q1), .second, .val (.long q2), .second, .val (.long q3), .second, .val (.long q4), .second, .val (.int p5), .val (.ref b1), .unset, .unset, .unset, .unset, .unset, .unset, .unset, .unset, .unset, .unset] [])) rfl (hb hby at_10) (by decide) (by decide)
  obtain ⟨b8, g8⟩ : ∃ z, z = T2.heap.size := ⟨_, rfl⟩
  rw [← g8] at A8 D8 st8
  have M8 : h0.size ≤ h8.size := Nat.le_trans M2 E8.1
  have O8 := Old.ext O2 E8
  have sz_b8 : T2.heap.size ≤ b8 := Nat.le_of_eq g8.symm
  have g_b8 : n0 ≤ b8 := Nat.le_trans (own_oz O0) (Nat.le_trans M2 sz_b8)
  have F8_10 : Fld Z h8 b8 "com/example/horn1/horn1/term/Var" "serial" "J" (.long 0) := D8 (Or.inr (own_w hw 10 rfl)) (ty := .long) (by decide)
  have F8_31 : Fld Z h8 b8 "com/example/horn1/horn1/term/Var" "binding" "Lcom/example/horn1/horn1/term/Term;" .null := D8 (Or.inl (own_w hw 31 rfl)) (ty := (.object "com/example/horn1/horn1/term/Term")) (by decide)
  obtain ⟨_, T9, L9, X9, hQ9, st9⟩ := own_sb X8 hx hZ hown (y := yn0) (own_w hw 3 rfl) (own_w hw 4 rfl) (own_w hw 5 rfl) (own_w hw 2 rfl) e8 (a := b8) (argsL := [(.long q2)]) (rest := [(.ref b8)]) (rm1 l Z a0 hw [] b8 q2 h8 n0 O8 g_b8 A8 F8_31 F8_10) (g := (mkF m 15 #[.val (.long q1), .second, .val (.long q2), .second, .val (.long q3), .second, .val (.long q4), .second, .val (.int p5), .val (.ref b1), .unset, .unset, .unset, .unset, .unset, .unset, .unset, .unset, .unset, .unset] [(.long q2), (.ref b8), (.ref b8)])) rfl (by rw [hml]; rfl) rfl (hb hby at_15) (lenOf pd0 rfl) (W := 1) (c1 := 2) (s1 := 4)
  obtain ⟨rfl, Nq10, K11, f12, f13, f14⟩ := hQ9
  have N9 := Fr.app N2 Nq10
  have M9 : h0.size ≤ T9.heap.size := Nat.le_trans M8 K11.1
  have O9 := Old.keep O8 K11 (allS g_b8 all0)
  obtain ⟨T15, h15, X15, e15, E15, A15, D15, -, st15⟩ := newO X9 hx hZ hown (own_w hw 0 rfl) (own_w hw 1 rfl) (own_w hw 2 rfl) rfl (g := (mkF m 20 #[.val (.long q1), .second, .val (.long q2), .second, .val (.long q3), .second, .val (.long q4), .second, .val (.int p5), .val (.ref b1), .val (.ref b8), .unset, .unset, .unset, .unset, .unset, .unset, .unset, .unset, .unset] [])) rfl (hb hby at_20) (by decide) (by decide)
  obtain ⟨b15, g15⟩ : ∃ z, z = T9.heap.size := ⟨_, rfl⟩
  rw [← g15] at A15 D15 st15
  have M15 : h0.size ≤ h15.size := Nat.le_trans M9 E15.1
  have O15 := Old.ext O9 E15
  have sz_b15 : T9.heap.size ≤ b15 := Nat.le_of_eq g15.symm
  have g_b15 : n0 ≤ b15 := Nat.le_trans (own_oz O0) (Nat.le_trans M9 sz_b15)
  have F15_10 : Fld Z h15 b15 "com/example/horn1/horn1/term/Var" "serial" "J" (.long 0) := D15 (Or.inr (own_w hw 10 rfl)) (ty := .long) (by decide)
  have F15_31 : Fld Z h15 b15 "com/example/horn1/horn1/term/Var" "binding" "Lcom/example/horn1/horn1/term/Term;" .null := D15 (Or.inl (own_w hw 31 rfl)) (ty := (.object "com/example/horn1/horn1/term/Term")) (by decide)
  obtain ⟨_, T16, L16, X16, hQ16, st16⟩ := own_sb X15 hx hZ hown (y := yn0) (own_w hw 3 rfl) (own_w hw 4 rfl) (own_w hw 5 rfl) (own_w hw 2 rfl) e15 (a := b15) (argsL := [(.long q3)]) (rest := [(.ref b15)]) (rm1 l Z a0 hw [] b15 q3 h15 n0 O15 g_b15 A15 F15_31 F15_10) (g := (mkF m 26 #[.val (.long q1), .second, .val (.long q2), .second, .val (.long q3), .second, .val (.long q4), .second, .val (.int p5), .val (.ref b1), .val (.ref b8), .unset, .unset, .unset, .unset, .unset, .unset, .unset, .unset, .unset] [(.long q3), (.ref b15), (.ref b15)])) rfl (by rw [hml]; rfl) rfl (hb hby at_26) (lenOf pd0 rfl) (W := 1) (c1 := 3) (s1 := 6)
  obtain ⟨rfl, Nq17, K18, f19, f20, f21⟩ := hQ16
  have N16 := Fr.app N9 Nq17
  have M16 : h0.size ≤ T16.heap.size := Nat.le_trans M15 K18.1
  have O16 := Old.keep O15 K18 (allS g_b15 all0)
  obtain ⟨_, T22, L22, X22, hQ22, st22⟩ := own_cs X16 hx hZ hown (y := yn2) (own_w hw 11 rfl) (own_w hw 12 rfl) (own_w hw 14 rfl) (own_w hw 13 rfl) rfl (argsL := [(.long q4)]) (rest := []) (rm3 l Z a0 hw [] q4 T16.heap n0 O16 ) (g := (mkF m 33 #[.val (.long q1), .second, .val (.long q2), .second, .val (.long q3), .second, .val (.long q4), .second, .val (.int p5), .val (.ref b1), .val (.ref b8), .val (.ref b15), .unset, .unset, .unset, .unset, .unset, .unset, .unset, .unset] [(.long q4)])) rfl (by rw [hml]; rfl) rfl (hb hby at_33) (lenOf pd2 rfl) (W := 0) (c1 := 4) (s1 := 8)
  obtain ⟨b23, rfl, Nq24, K25, sz_b23, f26, f27, f28⟩ := hQ22
  have N22 := Fr.app N16 Nq24
  have g_b23 : n0 ≤ b23 := Nat.le_trans (own_oz O16) sz_b23
  have M22 : h0.size ≤ T22.heap.size := Nat.le_trans M16 K25.1
  have O22 := Old.keep O16 K25 all0
  have pre29 : ∀ t, Steps p.tables e below (T22.setTop (mkF m 50 #[.val (.long q1), .second, .val (.long q2), .second, .val (.long q3), .second, .val (.long q4), .second, .val (.int p5), .val (.ref b1), .val (.ref b8), .val (.ref b15), .val (.ref b23), .val (.int (p5 &&& (3 : Int32))), .unset, .unset, .unset, .unset, .unset, .unset] [(.int ((p5 >>> ((2 : Int32) &&& 31)) &&& (1 : Int32)))])) t → Steps p.tables e below (s₁.setTop (entryFrame m #[(.long q1), (.long q2), (.long q3), (.long q4), (.int p5)] maxLocals)) t := fun t k => by
    refine pre0 _ ?_
    show Steps p.tables e below (s₁.setTop (mkF m 0 #[.val (.long q1), .second, .val (.long q2), .second, .val (.long q3), .second, .val (.long q4), .second, .val (.int p5), .unset, .unset, .unset, .unset, .unset, .unset, .unset, .unset, .unset, .unset, .unset] [])) _
    refine st1 _ ?_
    refine XS.dup X1.here hx rfl (hb hby at_3) rfl rfl ?_
    refine XS.lloadN X1.here hx rfl (hb hby at_4) rfl ?_
    refine st2 _ ?_
    refine XS.astore X2.here hx rfl (hb hby at_8) rfl rfl (l' := #[.val (.long q1), .second, .val (.long q2), .second, .val (.long q3), .second, .val (.long q4), .second, .val (.int p5), .val (.ref b1), .unset, .unset, .unset, .unset, .unset, .unset, .unset, .unset, .unset, .unset]) rfl ?_
    refine st8 _ ?_
    refine XS.dup X8.here hx rfl (hb hby at_13) rfl rfl ?_
    refine XS.lloadN X8.here hx rfl (hb hby at_14) rfl ?_
    refine st9 _ ?_
    refine XS.astore X9.here hx rfl (hb hby at_18) rfl rfl (l' := #[.val (.long q1), .second, .val (.long q2), .second, .val (.long q3), .second, .val (.long q4), .second, .val (.int p5), .val (.ref b1), .val (.ref b8), .unset, .unset, .unset, .unset, .unset, .unset, .unset, .unset, .unset]) rfl ?_
    refine st15 _ ?_
    refine XS.dup X15.here hx rfl (hb hby at_23) rfl rfl ?_
    refine XS.lload X15.here hx rfl (hb hby at_24) rfl ?_
    refine st16 _ ?_
    refine XS.astore X16.here hx rfl (hb hby at_29) rfl rfl (l' := #[.val (.long q1), .second, .val (.long q2), .second, .val (.long q3), .second, .val (.long q4), .second, .val (.int p5), .val (.ref b1), .val (.ref b8), .val (.ref b15), .unset, .unset, .unset, .unset, .unset, .unset, .unset, .unset]) rfl ?_
    refine XS.lload X16.here hx rfl (hb hby at_31) rfl ?_
    refine st22 _ ?_
    refine XS.astore X22.here hx rfl (hb hby at_36) rfl rfl (l' := #[.val (.long q1), .second, .val (.long q2), .second, .val (.long q3), .second, .val (.long q4), .second, .val (.int p5), .val (.ref b1), .val (.ref b8), .val (.ref b15), .val (.ref b23), .unset, .unset, .unset, .unset, .unset, .unset, .unset]) rfl ?_
    refine XS.iload X22.here hx rfl (hb hby at_38) rfl ?_
    refine XS.iconst X22.here hx rfl (hb hby at_40) ?_
    refine XS.iand X22.here hx rfl (hb hby at_41) rfl ?_
    refine XS.istore X22.here hx rfl (hb hby at_42) rfl (l' := #[.val (.long q1), .second, .val (.long q2), .second, .val (.long q3), .second, .val (.long q4), .second, .val (.int p5), .val (.ref b1), .val (.ref b8), .val (.ref b15), .val (.ref b23), .val (.int (p5 &&& (3 : Int32))), .unset, .unset, .unset, .unset, .unset, .unset]) rfl ?_
    refine XS.iload X22.here hx rfl (hb hby at_44) rfl ?_
    refine XS.iconst X22.here hx rfl (hb hby at_46) ?_
    refine XS.ishr X22.here hx rfl (hb hby at_47) rfl ?_
    refine XS.iconst X22.here hx rfl (hb hby at_48) ?_
    refine XS.iand X22.here hx rfl (hb hby at_49) rfl ?_
    exact k
  by_cases hc30 : ((p5 >>> ((2 : Int32) &&& 31)) &&& (1 : Int32)) = (0 : Int32)
  ·
    have pre31 : ∀ t, Steps p.tables e below (T22.setTop (mkF m 50 #[.val (.long q1), .second, .val (.long q2), .second, .val (.long q3), .second, .val (.long q4), .second, .val (.int p5), .val (.ref b1), .val (.ref b8), .val (.ref b15), .val (.ref b23), .val (.int (p5 &&& (3 : Int32))), .unset, .unset, .unset, .unset, .unset, .unset] [(.int 0)])) t → Steps p.tables e below (s₁.setTop (entryFrame m #[(.long q1), (.long q2), (.long q3), (.long q4), (.int p5)] maxLocals)) t := fun t k => pre29 t (by rw [hc30]; exact k)
    have pre32 : ∀ t, Steps p.tables e below (T22.setTop (mkF m 66 #[.val (.long q1), .second, .val (.long q2), .second, .val (.long q3), .second, .val (.long q4), .second, .val (.int p5), .val (.ref b1), .val (.ref b8), .val (.ref b15), .val (.ref b23), .val (.int (p5 &&& (3 : Int32))), .val (.int 0), .unset, .unset, .unset, .unset, .unset] [(.int ((p5 >>> ((3 : Int32) &&& 31)) &&& (1 : Int32)))])) t → Steps p.tables e below (s₁.setTop (entryFrame m #[(.long q1), (.long q2), (.long q3), (.long q4), (.int p5)] maxLocals)) t := fun t k => by
      refine pre31 _ ?_
      show Steps p.tables e below (T22.setTop (mkF m 50 #[.val (.long q1), .second, .val (.long q2), .second, .val (.long q3), .second, .val (.long q4), .second, .val (.int p5), .val (.ref b1), .val (.ref b8), .val (.ref b15), .val (.ref b23), .val (.int (p5 &&& (3 : Int32))), .unset, .unset, .unset, .unset, .unset, .unset] [(.int 0)])) _
      refine XS.ifYes X22.here hx rfl (pc0 := 50) (pc' := 57) rfl (hb hby at_50) rfl ((if0 _ _).trans (teq (by decide : (0 : Int32) = (0 : Int32))).1) (by decide) (by decide) ?_
      refine XS.iconst X22.here hx rfl (hb hby at_57) ?_
      refine XS.istore X22.here hx rfl (hb hby at_58) rfl (l' := #[.val (.long q1), .second, .val (.long q2), .second, .val (.long q3), .second, .val (.long q4), .second, .val (.int p5), .val (.ref b1), .val (.ref b8), .val (.ref b15), .val (.ref b23), .val (.int (p5 &&& (3 : Int32))), .val (.int 0), .unset, .unset, .unset, .unset, .unset]) rfl ?_
      refine XS.iload X22.here hx rfl (hb hby at_60) rfl ?_
      refine XS.iconst X22.here hx rfl (hb hby at_62) ?_
      refine XS.ishr X22.here hx rfl (hb hby at_63) rfl ?_
      refine XS.iconst X22.here hx rfl (hb hby at_64) ?_
      refine XS.iand X22.here hx rfl (hb hby at_65) rfl ?_
      exact k
    by_cases hc33 : ((p5 >>> ((3 : Int32) &&& 31)) &&& (1 : Int32)) = (0 : Int32)
    ·
      have pre34 : ∀ t, Steps p.tables e below (T22.setTop (mkF m 66 #[.val (.long q1), .second, .val (.long q2), .second, .val (.long q3), .second, .val (.long q4), .second, .val (.int p5), .val (.ref b1), .val (.ref b8), .val (.ref b15), .val (.ref b23), .val (.int (p5 &&& (3 : Int32))), .val (.int 0), .unset, .unset, .unset, .unset, .unset] [(.int 0)])) t → Steps p.tables e below (s₁.setTop (entryFrame m #[(.long q1), (.long q2), (.long q3), (.long q4), (.int p5)] maxLocals)) t := fun t k => pre32 t (by rw [hc33]; exact k)
      have pre35 : ∀ t, Steps p.tables e below (T22.setTop (mkF m 79 #[.val (.long q1), .second, .val (.long q2), .second, .val (.long q3), .second, .val (.long q4), .second, .val (.int p5), .val (.ref b1), .val (.ref b8), .val (.ref b15), .val (.ref b23), .val (.int (p5 &&& (3 : Int32))), .val (.int 0), .val (.int 0), .unset, .unset, .unset, .unset] [(.int 1), (.int (p5 &&& (3 : Int32)))])) t → Steps p.tables e below (s₁.setTop (entryFrame m #[(.long q1), (.long q2), (.long q3), (.long q4), (.int p5)] maxLocals)) t := fun t k => by
        refine pre34 _ ?_
        show Steps p.tables e below (T22.setTop (mkF m 66 #[.val (.long q1), .second, .val (.long q2), .second, .val (.long q3), .second, .val (.long q4), .second, .val (.int p5), .val (.ref b1), .val (.ref b8), .val (.ref b15), .val (.ref b23), .val (.int (p5 &&& (3 : Int32))), .val (.int 0), .unset, .unset, .unset, .unset, .unset] [(.int 0)])) _
        refine XS.ifYes X22.here hx rfl (pc0 := 66) (pc' := 73) rfl (hb hby at_66) rfl ((if0 _ _).trans (teq (by decide : (0 : Int32) = (0 : Int32))).1) (by decide) (by decide) ?_
        refine XS.iconst X22.here hx rfl (hb hby at_73) ?_
        refine XS.istore X22.here hx rfl (hb hby at_74) rfl (l' := #[.val (.long q1), .second, .val (.long q2), .second, .val (.long q3), .second, .val (.long q4), .second, .val (.int p5), .val (.ref b1), .val (.ref b8), .val (.ref b15), .val (.ref b23), .val (.int (p5 &&& (3 : Int32))), .val (.int 0), .val (.int 0), .unset, .unset, .unset, .unset]) rfl ?_
        refine XS.iload X22.here hx rfl (hb hby at_76) rfl ?_
        refine XS.iconst X22.here hx rfl (hb hby at_78) ?_
        exact k
      by_cases hc36 : (p5 &&& (3 : Int32)) < (1 : Int32)
      ·
        have hq37 : (p5 &&& (3 : Int32)) = (0 : Int32) := (own_geq (n := 0) (k := (0 : Int32)) (by decide) (by have q0 := own_and (x := p5) (k := (3 : Int32)) (n := 3) (by decide) (by decide); have q1 := own_lt1 (n := 1) (k := (1 : Int32)) (by decide) hc36; omega))
        have pre38 : ∀ t, Steps p.tables e below (T22.setTop (mkF m 79 #[.val (.long q1), .second, .val (.long q2), .second, .val (.long q3), .second, .val (.long q4), .second, .val (.int p5), .val (.ref b1), .val (.ref b8), .val (.ref b15), .val (.ref b23), .val (.int 0), .val (.int 0), .val (.int 0), .unset, .unset, .unset, .unset] [(.int 1), (.int 0)])) t → Steps p.tables e below (s₁.setTop (entryFrame m #[(.long q1), (.long q2), (.long q3), (.long q4), (.int p5)] maxLocals)) t := fun t k => pre35 t (by rw [hq37]; exact k)
        have f39 := (((((f5.ext E8).keep K11).ext E15).keep K18).keep K25)
        have lt40 : b1 < T2.heap.size := (Nat.lt_of_lt_of_le A1.lt K4.1)
        have ne41 : b1 ≠ b8 := Nat.ne_of_lt (Nat.lt_of_lt_of_le lt40 sz_b8)
        have lt42 : b1 < T9.heap.size := (Nat.lt_of_lt_of_le (Nat.lt_of_lt_of_le (Nat.lt_of_lt_of_le A1.lt K4.1) E8.1) K11.1)
        have ne43 : b1 ≠ b15 := Nat.ne_of_lt (Nat.lt_of_lt_of_le lt42 sz_b15)
        have f44 := (((((f6.ext E8).keep K11 (ninS ne41 nin0)).ext E15).keep K18 (ninS ne43 nin0)).keep K25 nin0)
        obtain ⟨_, T45, L45, X45, hQ45, st45⟩ := own_vb X22 hx hZ hown (y := yn3) (own_w hw 48 rfl) (own_w hw 49 rfl) (own_w hw 50 rfl) (own_w hw 36 rfl) (own_w hw 40 rfl) (own_w hw 2 rfl) rfl f39 (argsL := []) (rest := []) (rm4 l Z a0 hw [] b1 T22.heap n0 O22 g_b1 f39 f44) (g := (mkF m 268 #[.val (.long q1), .second, .val (.long q2), .second, .val (.long q3), .second, .val (.long q4), .second, .val (.int p5), .val (.ref b1), .val (.ref b8), .val (.ref b15), .val (.ref b23), .val (.int 0), .val (.int 0), .val (.int 0), .val (.ref b1), .unset, .unset, .unset] [(.ref b1)])) rfl (by rw [hml]; rfl) rfl (hb hby at_268) (lenOf pd3 rfl) (W := 0) (c1 := 4) (s1 := 8)
        obtain ⟨rfl, Nq46, e47⟩ := hQ45
        have N45 := Fr.app N22 Nq46
        obtain ⟨_, T48, L48, X48, hQ48, st48⟩ := own_vb X45 hx hZ hown (y := yn3) (own_w hw 48 rfl) (own_w hw 49 rfl) (own_w hw 50 rfl) (own_w hw 36 rfl) (own_w hw 40 rfl) (own_w hw 2 rfl) e47 f39 (argsL := []) (rest := []) (rm4 l Z a0 hw [] b1 T22.heap n0 O22 g_b1 f39 f44) (g := (mkF m 275 #[.val (.long q1), .second, .val (.long q2), .second, .val (.long q3), .second, .val (.long q4), .second, .val (.int p5), .val (.ref b1), .val (.ref b8), .val (.ref b15), .val (.ref b23), .val (.int 0), .val (.int 0), .val (.int 0), .val (.ref b1), .val (.ref b1), .unset, .unset] [(.ref b1)])) rfl (by rw [hml]; rfl) rfl (hb hby at_275) (lenOf pd3 rfl) (W := 0) (c1 := 4) (s1 := 8)
        obtain ⟨rfl, Nq49, e50⟩ := hQ48
        have N48 := Fr.app N45 Nq49
        obtain ⟨_, T51, L51, X51, hQ51, st51⟩ := own_ib X48 hx hZ hown (z := yn4) (y := yn3) (own_w hw 53 rfl) (own_w hw 33 rfl) (mvT hZ (own_w hw 34 rfl)) (own_w hw 35 rfl) (own_w hw 36 rfl) (own_w hw 37 rfl) (mvT hZ (own_w hw 38 rfl)) (own_w hw 39 rfl) (own_w hw 40 rfl) (own_w hw 2 rfl) e50 f39 (argsL := []) (rest := []) (rm4 l Z a0 hw [] b1 T22.heap n0 O22 g_b1 f39 f44) (g := (mkF m 282 #[.val (.long q1), .second, .val (.long q2), .second, .val (.long q3), .second, .val (.long q4), .second, .val (.int p5), .val (.ref b1), .val (.ref b8), .val (.ref b15), .val (.ref b23), .val (.int 0), .val (.int 0), .val (.int 0), .val (.ref b1), .val (.ref b1), .val (.ref b1), .unset] [(.ref b1)])) rfl (by rw [hml]; rfl) rfl (hb hby at_282) (lenOf pd3 rfl) (W := 0) (c1 := 4) (s1 := 8)
        obtain ⟨rfl, Nq52, e53⟩ := hQ51
        have N51 := Fr.app N48 Nq52
        obtain ⟨fs, hr, hrun, hended, hW, hsame⟩ := X51.leave (v := some (.int 1)) (fun h => by rw [hret] at h; cases h)
        refine ⟨_, _, pre38 _ ?_, hrun, hended, _, _, rfl, ?_, ⟨_, rfl⟩, hW, hsame.mono (by decide) (by decide)⟩
        ·
          show Steps p.tables e below (T22.setTop (mkF m 79 #[.val (.long q1), .second, .val (.long q2), .second, .val (.long q3), .second, .val (.long q4), .second, .val (.int p5), .val (.ref b1), .val (.ref b8), .val (.ref b15), .val (.ref b23), .val (.int 0), .val (.int 0), .val (.int 0), .unset, .unset, .unset, .unset] [(.int 1), (.int 0)])) _
          refine XS.icmpYes X22.here hx rfl (pc0 := 79) (pc' := 110) rfl (hb hby at_79) rfl (tlt (by decide : (0 : Int32) < (1 : Int32))).1 (by decide) (by decide) ?_
          refine XS.iload X22.here hx rfl (hb hby at_110) rfl ?_
          refine XS.iconst X22.here hx rfl (hb hby at_112) ?_
          refine XS.icmpYes X22.here hx rfl (pc0 := 113) (pc' := 144) rfl (hb hby at_113) rfl (tlt (by decide : (0 : Int32) < (2 : Int32))).1 (by decide) (by decide) ?_
          refine XS.iload X22.here hx rfl (hb hby at_144) rfl ?_
          refine XS.iconst X22.here hx rfl (hb hby at_146) ?_
          refine XS.icmpYes X22.here hx rfl (pc0 := 147) (pc' := 157) rfl (hb hby at_147) rfl (tlt (by decide : (0 : Int32) < (3 : Int32))).1 (by decide) (by decide) ?_
          refine XS.iload X22.here hx rfl (hb hby at_157) rfl ?_
          refine XS.ifNo X22.here hx rfl (hb hby at_159) rfl ((if0 _ _).trans (teq (by decide : (0 : Int32) = (0 : Int32))).2) ?_
          refine XS.aload X22.here hx rfl (hb hby at_162) rfl rfl ?_
          refine XS.astore X22.here hx rfl (hb hby at_164) rfl rfl (l' := #[.val (.long q1), .second, .val (.long q2), .second, .val (.long q3), .second, .val (.long q4), .second, .val (.int p5), .val (.ref b1), .val (.ref b8), .val (.ref b15), .val (.ref b23), .val (.int 0), .val (.int 0), .val (.int 0), .val (.ref b1), .unset, .unset, .unset]) rfl ?_
          refine XS.goto X22.here hx rfl (pc0 := 166) (pc' := 223) rfl (hb hby at_166) (by decide) (by decide) ?_
          refine XS.iload X22.here hx rfl (hb hby at_223) rfl ?_
          refine XS.ifYes X22.here hx rfl (pc0 := 225) (pc' := 246) rfl (hb hby at_225) rfl ((if0 _ _).trans (teq (by decide : (0 : Int32) = (0 : Int32))).1) (by decide) (by decide) ?_
          refine XS.iload X22.here hx rfl (hb hby at_246) rfl ?_
          refine XS.ifYes X22.here hx rfl (pc0 := 248) (pc' := 266) rfl (hb hby at_248) rfl ((if0 _ _).trans (teq (by decide : (0 : Int32) = (0 : Int32))).1) (by decide) (by decide) ?_
          refine XS.aload X22.here hx rfl (hb hby at_266) rfl rfl ?_
          refine st45 _ ?_
          refine XS.astore X45.here hx rfl (hb hby at_271) rfl rfl (l' := #[.val (.long q1), .second, .val (.long q2), .second, .val (.long q3), .second, .val (.long q4), .second, .val (.int p5), .val (.ref b1), .val (.ref b8), .val (.ref b15), .val (.ref b23), .val (.int 0), .val (.int 0), .val (.int 0), .val (.ref b1), .val (.ref b1), .unset, .unset]) rfl ?_
          refine XS.aload X45.here hx rfl (hb hby at_273) rfl rfl ?_
          refine st48 _ ?_
          refine XS.astore X48.here hx rfl (hb hby at_278) rfl rfl (l' := #[.val (.long q1), .second, .val (.long q2), .second, .val (.long q3), .second, .val (.long q4), .second, .val (.int p5), .val (.ref b1), .val (.ref b8), .val (.ref b15), .val (.ref b23), .val (.int 0), .val (.int 0), .val (.int 0), .val (.ref b1), .val (.ref b1), .val (.ref b1), .unset]) rfl ?_
          refine XS.aload X48.here hx rfl (hb hby at_280) rfl rfl ?_
          refine st51 _ ?_
          refine XS.astore X51.here hx rfl (hb hby at_287) rfl rfl (l' := #[.val (.long q1), .second, .val (.long q2), .second, .val (.long q3), .second, .val (.long q4), .second, .val (.int p5), .val (.ref b1), .val (.ref b8), .val (.ref b15), .val (.ref b23), .val (.int 0), .val (.int 0), .val (.int 0), .val (.ref b1), .val (.ref b1), .val (.ref b1), .val (.ref b1)]) rfl ?_
          refine XS.aload X51.here hx rfl (hb hby at_289) rfl rfl ?_
          refine XS.aload X51.here hx rfl (hb hby at_291) rfl rfl ?_
          refine Jvm.RoadKit.acmp (g := (mkF m 293 #[.val (.long q1), .second, .val (.long q2), .second, .val (.long q3), .second, .val (.long q4), .second, .val (.int p5), .val (.ref b1), .val (.ref b8), .val (.ref b15), .val (.ref b23), .val (.int 0), .val (.int 0), .val (.int 0), .val (.ref b1), .val (.ref b1), .val (.ref b1), .val (.ref b1)] [(.ref b1), (.ref b1)])) X51 hx rfl rfl rfl (pc0 := 293) (pc' := 296) (same := true) rfl (hb hby at_293) rfl (decide_eq_true rfl) (by decide) (by decide) ?_
          refine XS.aload X51.here hx rfl (hb hby at_296) rfl rfl ?_
          refine XS.aload X51.here hx rfl (hb hby at_298) rfl rfl ?_
          refine Jvm.RoadKit.acmp (g := (mkF m 300 #[.val (.long q1), .second, .val (.long q2), .second, .val (.long q3), .second, .val (.long q4), .second, .val (.int p5), .val (.ref b1), .val (.ref b8), .val (.ref b15), .val (.ref b23), .val (.int 0), .val (.int 0), .val (.int 0), .val (.ref b1), .val (.ref b1), .val (.ref b1), .val (.ref b1)] [(.ref b1), (.ref b1)])) X51 hx rfl rfl rfl (pc0 := 300) (pc' := 303) (same := true) rfl (hb hby at_300) rfl (decide_eq_true rfl) (by decide) (by decide) ?_
          refine XS.aload X51.here hx rfl (hb hby at_303) rfl rfl ?_
          refine XS.aload X51.here hx rfl (hb hby at_305) rfl rfl ?_
          refine Jvm.RoadKit.acmp (g := (mkF m 307 #[.val (.long q1), .second, .val (.long q2), .second, .val (.long q3), .second, .val (.long q4), .second, .val (.int p5), .val (.ref b1), .val (.ref b8), .val (.ref b15), .val (.ref b23), .val (.int 0), .val (.int 0), .val (.int 0), .val (.ref b1), .val (.ref b1), .val (.ref b1), .val (.ref b1)] [(.ref b1), (.ref b1)])) X51 hx rfl rfl rfl (pc0 := 307) (pc' := 310) (same := true) rfl (hb hby at_307) rfl (decide_eq_true rfl) (by decide) (by decide) ?_
          refine XS.iconst X51.here hx rfl (hb hby at_310) ?_
          refine XS.goto X51.here hx rfl (pc0 := 311) (pc' := 315) rfl (hb hby at_311) (by decide) (by decide) ?_
          show Steps p.tables e below (T51.setTop (mkF m 315 #[.val (.long q1), .second, .val (.long q2), .second, .val (.long q3), .second, .val (.long q4), .second, .val (.int p5), .val (.ref b1), .val (.ref b8), .val (.ref b15), .val (.ref b23), .val (.int 0), .val (.int 0), .val (.int 0), .val (.ref b1), .val (.ref b1), .val (.ref b1), .val (.ref b1)] [(.int 1)])) _
          exact retN X51 hx (t := .boolean) hret (by simp) (hb hby at_315) hr
        ·
          show Q0 n0 _ T51.heap _
          rw [e53]
          exact ⟨rfl, N51⟩
      ·
        have pre54 : ∀ t, Steps p.tables e below (T22.setTop (mkF m 85 #[.val (.long q1), .second, .val (.long q2), .second, .val (.long q3), .second, .val (.long q4), .second, .val (.int p5), .val (.ref b1), .val (.ref b8), .val (.ref b15), .val (.ref b23), .val (.int (p5 &&& (3 : Int32))), .val (.int 0), .val (.int 0), .unset, .unset, .unset, .unset] [(.int 1), (.int (p5 &&& (3 : Int32)))])) t → Steps p.tables e below (s₁.setTop (entryFrame m #[(.long q1), (.long q2), (.long q3), (.long q4), (.int p5)] maxLocals)) t := fun t k => by
          refine pre35 _ ?_
          show Steps p.tables e below (T22.setTop (mkF m 79 #[.val (.long q1), .second, .val (.long q2), .second, .val (.long q3), .second, .val (.long q4), .second, .val (.int p5), .val (.ref b1), .val (.ref b8), .val (.ref b15), .val (.ref b23), .val (.int (p5 &&& (3 : Int32))), .val (.int 0), .val (.int 0), .unset, .unset, .unset, .unset] [(.int 1), (.int (p5 &&& (3 : Int32)))])) _
          refine XS.icmpNo X22.here hx rfl (hb hby at_79) rfl (flt hc36).1 ?_
          refine XS.iload X22.here hx rfl (hb hby at_82) rfl ?_
          refine XS.iconst X22.here hx rfl (hb hby at_84) ?_
          exact k
        by_cases hc55 : (p5 &&& (3 : Int32)) = (1 : Int32)
        ·
          have pre56 : ∀ t, Steps p.tables e below (T22.setTop (mkF m 85 #[.val (.long q1), .second, .val (.long q2), .second, .val (.long q3), .second, .val (.long q4), .second, .val (.int p5), .val (.ref b1), .val (.ref b8), .val (.ref b15), .val (.ref b23), .val (.int 1), .val (.int 0), .val (.int 0), .unset, .unset, .unset, .unset] [(.int 1), (.int 1)])) t → Steps p.tables e below (s₁.setTop (entryFrame m #[(.long q1), (.long q2), (.long q3), (.long q4), (.int p5)] maxLocals)) t := fun t k => pre54 t (by rw [hc55]; exact k)
          have lt57 : b1 < T2.heap.size := (Nat.lt_of_lt_of_le A1.lt K4.1)
          have ne58 : b1 ≠ b8 := Nat.ne_of_lt (Nat.lt_of_lt_of_le lt57 sz_b8)
          have f59 := (((((f5.ext E8).keep K11).ext E15).keep K18).keep K25)
          have lt60 : b1 < T9.heap.size := (Nat.lt_of_lt_of_le (Nat.lt_of_lt_of_le (Nat.lt_of_lt_of_le A1.lt K4.1) E8.1) K11.1)
          have ne61 : b1 ≠ b15 := Nat.ne_of_lt (Nat.lt_of_lt_of_le lt60 sz_b15)
          have f62 := (((((f6.ext E8).keep K11 (ninS ne58 nin0)).ext E15).keep K18 (ninS ne61 nin0)).keep K25 nin0)
          have f63 := (((((f7.ext E8).keep K11 (ninS ne58 nin0)).ext E15).keep K18 (ninS ne61 nin0)).keep K25 nin0)
          have f64 := (((f12.ext E15).keep K18).keep K25)
          have lt65 : b8 < T9.heap.size := (Nat.lt_of_lt_of_le A8.lt K11.1)
          have ne66 : b8 ≠ b15 := Nat.ne_of_lt (Nat.lt_of_lt_of_le lt65 sz_b15)
          have f67 := (((f13.ext E15).keep K18 (ninS ne66 nin0)).keep K25 nin0)
          obtain ⟨_, T68, L68, X68, hQ68, st68⟩ := own_vb X22 hx hZ hown (y := yn5) (own_w hw 25 rfl) (own_w hw 26 rfl) (own_w hw 28 rfl) (own_w hw 27 rfl) (own_w hw 29 rfl) (own_w hw 2 rfl) rfl f59 (argsL := [(.ref b8)]) (rest := []) (rm5 l Z a0 hw [] b1 b8 q1 T22.heap n0 O22 g_b1 g_b8 (Ne.symm ne58) f59 f62 f63 f64 f67) (g := (mkF m 107 #[.val (.long q1), .second, .val (.long q2), .second, .val (.long q3), .second, .val (.long q4), .second, .val (.int p5), .val (.ref b1), .val (.ref b8), .val (.ref b15), .val (.ref b23), .val (.int 1), .val (.int 0), .val (.int 0), .unset, .unset, .unset, .unset] [(.ref b8), (.ref b1)])) rfl (by rw [hml]; rfl) rfl (hb hby at_107) (lenOf pd4 rfl) (W := 0) (c1 := 4) (s1 := 8)
          obtain ⟨rfl, Nq69, K70, f71, f72, f73⟩ := hQ68
          have N68 := Fr.app N22 Nq69
          have M68 : h0.size ≤ T68.heap.size := Nat.le_trans M22 K70.1
          have O68 := Old.keep O22 K70 (allS g_b1 all0)
          have f74 := (f64.keep K70)
          have f75 := (f67.keep K70 (ninS (Ne.symm ne58) nin0))
          obtain ⟨_, T76, L76, X76, hQ76, st76⟩ := own_vb X68 hx hZ hown (y := yn3) (own_w hw 48 rfl) (own_w hw 49 rfl) (own_w hw 50 rfl) (own_w hw 36 rfl) (own_w hw 40 rfl) (own_w hw 2 rfl) rfl f71 (argsL := []) (rest := []) (rm6 l Z a0 hw [] b1 b8 T68.heap n0 O68 g_b1 g_b8 f71 f72 f74 f75) (g := (mkF m 268 #[.val (.long q1), .second, .val (.long q2), .second, .val (.long q3), .second, .val (.long q4), .second, .val (.int p5), .val (.ref b1), .val (.ref b8), .val (.ref b15), .val (.ref b23), .val (.int 1), .val (.int 0), .val (.int 0), .val (.ref b8), .unset, .unset, .unset] [(.ref b1)])) rfl (by rw [hml]; rfl) rfl (hb hby at_268) (lenOf pd3 rfl) (W := 0) (c1 := 4) (s1 := 8)
          obtain ⟨rfl, Nq77, e78⟩ := hQ76
          have N76 := Fr.app N68 Nq77
          obtain ⟨_, T79, L79, X79, hQ79, st79⟩ := own_vb X76 hx hZ hown (y := yn3) (own_w hw 48 rfl) (own_w hw 49 rfl) (own_w hw 50 rfl) (own_w hw 36 rfl) (own_w hw 40 rfl) (own_w hw 2 rfl) e78 f71 (argsL := []) (rest := []) (rm6 l Z a0 hw [] b1 b8 T68.heap n0 O68 g_b1 g_b8 f71 f72 f74 f75) (g := (mkF m 275 #[.val (.long q1), .second, .val (.long q2), .second, .val (.long q3), .second, .val (.long q4), .second, .val (.int p5), .val (.ref b1), .val (.ref b8), .val (.ref b15), .val (.ref b23), .val (.int 1), .val (.int 0), .val (.int 0), .val (.ref b8), .val (.ref b8), .unset, .unset] [(.ref b1)])) rfl (by rw [hml]; rfl) rfl (hb hby at_275) (lenOf pd3 rfl) (W := 0) (c1 := 4) (s1 := 8)
          obtain ⟨rfl, Nq80, e81⟩ := hQ79
          have N79 := Fr.app N76 Nq80
          obtain ⟨_, T82, L82, X82, hQ82, st82⟩ := own_ib X79 hx hZ hown (z := yn4) (y := yn3) (own_w hw 53 rfl) (own_w hw 33 rfl) (mvT hZ (own_w hw 34 rfl)) (own_w hw 35 rfl) (own_w hw 36 rfl) (own_w hw 37 rfl) (mvT hZ (own_w hw 38 rfl)) (own_w hw 39 rfl) (own_w hw 40 rfl) (own_w hw 2 rfl) e81 f74 (argsL := []) (rest := []) (rm4 l Z a0 hw [] b8 T68.heap n0 O68 g_b8 f74 f75) (g := (mkF m 282 #[.val (.long q1), .second, .val (.long q2), .second, .val (.long q3), .second, .val (.long q4), .second, .val (.int p5), .val (.ref b1), .val (.ref b8), .val (.ref b15), .val (.ref b23), .val (.int 1), .val (.int 0), .val (.int 0), .val (.ref b8), .val (.ref b8), .val (.ref b8), .unset] [(.ref b8)])) rfl (by rw [hml]; rfl) rfl (hb hby at_282) (lenOf pd3 rfl) (W := 0) (c1 := 4) (s1 := 8)
          obtain ⟨rfl, Nq83, e84⟩ := hQ82
          have N82 := Fr.app N79 Nq83
          obtain ⟨fs, hr, hrun, hended, hW, hsame⟩ := X82.leave (v := some (.int 1)) (fun h => by rw [hret] at h; cases h)
          refine ⟨_, _, pre56 _ ?_, hrun, hended, _, _, rfl, ?_, ⟨_, rfl⟩, hW, hsame.mono (by decide) (by decide)⟩
          ·
            show Steps p.tables e below (T22.setTop (mkF m 85 #[.val (.long q1), .second, .val (.long q2), .second, .val (.long q3), .second, .val (.long q4), .second, .val (.int p5), .val (.ref b1), .val (.ref b8), .val (.ref b15), .val (.ref b23), .val (.int 1), .val (.int 0), .val (.int 0), .unset, .unset, .unset, .unset] [(.int 1), (.int 1)])) _
            refine XS.icmpNo X22.here hx rfl (hb hby at_85) rfl (teq (by decide : (1 : Int32) = (1 : Int32))).2 ?_
            refine XS.iload X22.here hx rfl (hb hby at_88) rfl ?_
            refine XS.ifYes X22.here hx rfl (pc0 := 90) (pc' := 103) rfl (hb hby at_90) rfl ((if0 _ _).trans (teq (by decide : (0 : Int32) = (0 : Int32))).1) (by decide) (by decide) ?_
            refine XS.aload X22.here hx rfl (hb hby at_103) rfl rfl ?_
            refine XS.aload X22.here hx rfl (hb hby at_105) rfl rfl ?_
            refine st68 _ ?_
            refine XS.iload X68.here hx rfl (hb hby at_110) rfl ?_
            refine XS.iconst X68.here hx rfl (hb hby at_112) ?_
            refine XS.icmpYes X68.here hx rfl (pc0 := 113) (pc' := 144) rfl (hb hby at_113) rfl (tlt (by decide : (1 : Int32) < (2 : Int32))).1 (by decide) (by decide) ?_
            refine XS.iload X68.here hx rfl (hb hby at_144) rfl ?_
            refine XS.iconst X68.here hx rfl (hb hby at_146) ?_
            refine XS.icmpYes X68.here hx rfl (pc0 := 147) (pc' := 157) rfl (hb hby at_147) rfl (tlt (by decide : (1 : Int32) < (3 : Int32))).1 (by decide) (by decide) ?_
            refine XS.iload X68.here hx rfl (hb hby at_157) rfl ?_
            refine XS.ifYes X68.here hx rfl (pc0 := 159) (pc' := 169) rfl (hb hby at_159) rfl ((if0 _ _).trans (feq (by decide : ¬ ((1 : Int32) = (0 : Int32)))).2) (by decide) (by decide) ?_
            refine XS.iload X68.here hx rfl (hb hby at_169) rfl ?_
            refine XS.iconst X68.here hx rfl (hb hby at_171) ?_
            refine XS.icmpNo X68.here hx rfl (hb hby at_172) rfl (teq (by decide : (1 : Int32) = (1 : Int32))).2 ?_
            refine XS.iload X68.here hx rfl (hb hby at_175) rfl ?_
            refine XS.ifYes X68.here hx rfl (pc0 := 177) (pc' := 187) rfl (hb hby at_177) rfl ((if0 _ _).trans (teq (by decide : (0 : Int32) = (0 : Int32))).1) (by decide) (by decide) ?_
            refine XS.aload X68.here hx rfl (hb hby at_187) rfl rfl ?_
            refine XS.astore X68.here hx rfl (hb hby at_189) rfl rfl (l' := #[.val (.long q1), .second, .val (.long q2), .second, .val (.long q3), .second, .val (.long q4), .second, .val (.int p5), .val (.ref b1), .val (.ref b8), .val (.ref b15), .val (.ref b23), .val (.int 1), .val (.int 0), .val (.int 0), .val (.ref b8), .unset, .unset, .unset]) rfl ?_
            refine XS.goto X68.here hx rfl (pc0 := 191) (pc' := 223) rfl (hb hby at_191) (by decide) (by decide) ?_
            refine XS.iload X68.here hx rfl (hb hby at_223) rfl ?_
            refine XS.ifYes X68.here hx rfl (pc0 := 225) (pc' := 246) rfl (hb hby at_225) rfl ((if0 _ _).trans (teq (by decide : (0 : Int32) = (0 : Int32))).1) (by decide) (by decide) ?_
            refine XS.iload X68.here hx rfl (hb hby at_246) rfl ?_
            refine XS.ifYes X68.here hx rfl (pc0 := 248) (pc' := 266) rfl (hb hby at_248) rfl ((if0 _ _).trans (teq (by decide : (0 : Int32) = (0 : Int32))).1) (by decide) (by decide) ?_
            refine XS.aload X68.here hx rfl (hb hby at_266) rfl rfl ?_
            refine st76 _ ?_
            refine XS.astore X76.here hx rfl (hb hby at_271) rfl rfl (l' := #[.val (.long q1), .second, .val (.long q2), .second, .val (.long q3), .second, .val (.long q4), .second, .val (.int p5), .val (.ref b1), .val (.ref b8), .val (.ref b15), .val (.ref b23), .val (.int 1), .val (.int 0), .val (.int 0), .val (.ref b8), .val (.ref b8), .unset, .unset]) rfl ?_
            refine XS.aload X76.here hx rfl (hb hby at_273) rfl rfl ?_
            refine st79 _ ?_
            refine XS.astore X79.here hx rfl (hb hby at_278) rfl rfl (l' := #[.val (.long q1), .second, .val (.long q2), .second, .val (.long q3), .second, .val (.long q4), .second, .val (.int p5), .val (.ref b1), .val (.ref b8), .val (.ref b15), .val (.ref b23), .val (.int 1), .val (.int 0), .val (.int 0), .val (.ref b8), .val (.ref b8), .val (.ref b8), .unset]) rfl ?_
            refine XS.aload X79.here hx rfl (hb hby at_280) rfl rfl ?_
            refine st82 _ ?_
            refine XS.astore X82.here hx rfl (hb hby at_287) rfl rfl (l' := #[.val (.long q1), .second, .val (.long q2), .second, .val (.long q3), .second, .val (.long q4), .second, .val (.int p5), .val (.ref b1), .val (.ref b8), .val (.ref b15), .val (.ref b23), .val (.int 1), .val (.int 0), .val (.int 0), .val (.ref b8), .val (.ref b8), .val (.ref b8), .val (.ref b8)]) rfl ?_
            refine XS.aload X82.here hx rfl (hb hby at_289) rfl rfl ?_
            refine XS.aload X82.here hx rfl (hb hby at_291) rfl rfl ?_
            show Steps p.tables e below (T82.setTop (mkF m 293 #[.val (.long q1), .second, .val (.long q2), .second, .val (.long q3), .second, .val (.long q4), .second, .val (.int p5), .val (.ref b1), .val (.ref b8), .val (.ref b15), .val (.ref b23), .val (.int 1), .val (.int 0), .val (.int 0), .val (.ref b8), .val (.ref b8), .val (.ref b8), .val (.ref b8)] [(.ref b8), (.ref b8)])) _
            refine Jvm.RoadKit.acmp (g := (mkF m 293 #[.val (.long q1), .second, .val (.long q2), .second, .val (.long q3), .second, .val (.long q4), .second, .val (.int p5), .val (.ref b1), .val (.ref b8), .val (.ref b15), .val (.ref b23), .val (.int 1), .val (.int 0), .val (.int 0), .val (.ref b8), .val (.ref b8), .val (.ref b8), .val (.ref b8)] [(.ref b8), (.ref b8)])) X82 hx rfl rfl rfl (pc0 := 293) (pc' := 296) (same := true) rfl (hb hby at_293) rfl (decide_eq_true rfl) (by decide) (by decide) ?_
            refine XS.aload X82.here hx rfl (hb hby at_296) rfl rfl ?_
            refine XS.aload X82.here hx rfl (hb hby at_298) rfl rfl ?_
            refine Jvm.RoadKit.acmp (g := (mkF m 300 #[.val (.long q1), .second, .val (.long q2), .second, .val (.long q3), .second, .val (.long q4), .second, .val (.int p5), .val (.ref b1), .val (.ref b8), .val (.ref b15), .val (.ref b23), .val (.int 1), .val (.int 0), .val (.int 0), .val (.ref b8), .val (.ref b8), .val (.ref b8), .val (.ref b8)] [(.ref b8), (.ref b8)])) X82 hx rfl rfl rfl (pc0 := 300) (pc' := 303) (same := true) rfl (hb hby at_300) rfl (decide_eq_true rfl) (by decide) (by decide) ?_
            refine XS.aload X82.here hx rfl (hb hby at_303) rfl rfl ?_
            refine XS.aload X82.here hx rfl (hb hby at_305) rfl rfl ?_
            refine Jvm.RoadKit.acmp (g := (mkF m 307 #[.val (.long q1), .second, .val (.long q2), .second, .val (.long q3), .second, .val (.long q4), .second, .val (.int p5), .val (.ref b1), .val (.ref b8), .val (.ref b15), .val (.ref b23), .val (.int 1), .val (.int 0), .val (.int 0), .val (.ref b8), .val (.ref b8), .val (.ref b8), .val (.ref b8)] [(.ref b8), (.ref b8)])) X82 hx rfl rfl rfl (pc0 := 307) (pc' := 310) (same := true) rfl (hb hby at_307) rfl (decide_eq_true rfl) (by decide) (by decide) ?_
            refine XS.iconst X82.here hx rfl (hb hby at_310) ?_
            refine XS.goto X82.here hx rfl (pc0 := 311) (pc' := 315) rfl (hb hby at_311) (by decide) (by decide) ?_
            show Steps p.tables e below (T82.setTop (mkF m 315 #[.val (.long q1), .second, .val (.long q2), .second, .val (.long q3), .second, .val (.long q4), .second, .val (.int p5), .val (.ref b1), .val (.ref b8), .val (.ref b15), .val (.ref b23), .val (.int 1), .val (.int 0), .val (.int 0), .val (.ref b8), .val (.ref b8), .val (.ref b8), .val (.ref b8)] [(.int 1)])) _
            exact retN X82 hx (t := .boolean) hret (by simp) (hb hby at_315) hr
          ·
            show Q0 n0 _ T82.heap _
            rw [e84]
            exact ⟨rfl, N82⟩
        ·
          have lt85 : b1 < T2.heap.size := (Nat.lt_of_lt_of_le A1.lt K4.1)
          have ne86 : b1 ≠ b8 := Nat.ne_of_lt (Nat.lt_of_lt_of_le lt85 sz_b8)
          have f87 := (((((f5.ext E8).keep K11).ext E15).keep K18).keep K25)
          have lt88 : b1 < T9.heap.size := (Nat.lt_of_lt_of_le (Nat.lt_of_lt_of_le (Nat.lt_of_lt_of_le A1.lt K4.1) E8.1) K11.1)
          have ne89 : b1 ≠ b15 := Nat.ne_of_lt (Nat.lt_of_lt_of_le lt88 sz_b15)
          have f90 := (((((f6.ext E8).keep K11 (ninS ne86 nin0)).ext E15).keep K18 (ninS ne89 nin0)).keep K25 nin0)
          have f91 := (((((f7.ext E8).keep K11 (ninS ne86 nin0)).ext E15).keep K18 (ninS ne89 nin0)).keep K25 nin0)
          have f92 := (((f12.ext E15).keep K18).keep K25)
          have lt93 : b8 < T9.heap.size := (Nat.lt_of_lt_of_le A8.lt K11.1)
          have ne94 : b8 ≠ b15 := Nat.ne_of_lt (Nat.lt_of_lt_of_le lt93 sz_b15)
          have f95 := (((f13.ext E15).keep K18 (ninS ne94 nin0)).keep K25 nin0)
          obtain ⟨_, T96, L96, X96, hQ96, st96⟩ := own_vb X22 hx hZ hown (y := yn5) (own_w hw 25 rfl) (own_w hw 26 rfl) (own_w hw 28 rfl) (own_w hw 27 rfl) (own_w hw 29 rfl) (own_w hw 2 rfl) rfl f87 (argsL := [(.ref b8)]) (rest := []) (rm5 l Z a0 hw [] b1 b8 q1 T22.heap n0 O22 g_b1 g_b8 (Ne.symm ne86) f87 f90 f91 f92 f95) (g := (mkF m 107 #[.val (.long q1), .second, .val (.long q2), .second, .val (.long q3), .second, .val (.long q4), .second, .val (.int p5), .val (.ref b1), .val (.ref b8), .val (.ref b15), .val (.ref b23), .val (.int (p5 &&& (3 : Int32))), .val (.int 0), .val (.int 0), .unset, .unset, .unset, .unset] [(.ref b8), (.ref b1)])) rfl (by rw [hml]; rfl) rfl (hb hby at_107) (lenOf pd4 rfl) (W := 0) (c1 := 4) (s1 := 8)
          obtain ⟨rfl, Nq97, K98, f99, f100, f101⟩ := hQ96
          have N96 := Fr.app N22 Nq97
          have M96 : h0.size ≤ T96.heap.size := Nat.le_trans M22 K98.1
          have O96 := Old.keep O22 K98 (allS g_b1 all0)
          have pre102 : ∀ t, Steps p.tables e below (T96.setTop (mkF m 119 #[.val (.long q1), .second, .val (.long q2), .second, .val (.long q3), .second, .val (.long q4), .second, .val (.int p5), .val (.ref b1), .val (.ref b8), .val (.ref b15), .val (.ref b23), .val (.int (p5 &&& (3 : Int32))), .val (.int 0), .val (.int 0), .unset, .unset, .unset, .unset] [(.int 2), (.int (p5 &&& (3 : Int32)))])) t → Steps p.tables e below (s₁.setTop (entryFrame m #[(.long q1), (.long q2), (.long q3), (.long q4), (.int p5)] maxLocals)) t := fun t k => by
            refine pre54 _ ?_
            show Steps p.tables e below (T22.setTop (mkF m 85 #[.val (.long q1), .second, .val (.long q2), .second, .val (.long q3), .second, .val (.long q4), .second, .val (.int p5), .val (.ref b1), .val (.ref b8), .val (.ref b15), .val (.ref b23), .val (.int (p5 &&& (3 : Int32))), .val (.int 0), .val (.int 0), .unset, .unset, .unset, .unset] [(.int 1), (.int (p5 &&& (3 : Int32)))])) _
            refine XS.icmpYes X22.here hx rfl (pc0 := 85) (pc' := 103) rfl (hb hby at_85) rfl (feq hc55).2 (by decide) (by decide) ?_
            refine XS.aload X22.here hx rfl (hb hby at_103) rfl rfl ?_
            refine XS.aload X22.here hx rfl (hb hby at_105) rfl rfl ?_
            refine st96 _ ?_
            refine XS.iload X96.here hx rfl (hb hby at_110) rfl ?_
            refine XS.iconst X96.here hx rfl (hb hby at_112) ?_
            refine XS.icmpNo X96.here hx rfl (hb hby at_113) rfl (flt (own_gnlt1 (n := 2) (k := (2 : Int32)) (by decide) (by have q0 := own_and (x := p5) (k := (3 : Int32)) (n := 3) (by decide) (by decide); have q1 := own_nlt1 (n := 1) (k := (1 : Int32)) (by decide) hc36; have q2 := own_neq (n := 1) (k := (1 : Int32)) (by decide) hc55; omega))).1 ?_
            refine XS.iload X96.here hx rfl (hb hby at_116) rfl ?_
            refine XS.iconst X96.here hx rfl (hb hby at_118) ?_
            exact k
          by_cases hc103 : (p5 &&& (3 : Int32)) = (2 : Int32)
          ·
            have pre104 : ∀ t, Steps p.tables e below (T96.setTop (mkF m 119 #[.val (.long q1), .second, .val (.long q2), .second, .val (.long q3), .second, .val (.long q4), .second, .val (.int p5), .val (.ref b1), .val (.ref b8), .val (.ref b15), .val (.ref b23), .val (.int 2), .val (.int 0), .val (.int 0), .unset, .unset, .unset, .unset] [(.int 2), (.int 2)])) t → Steps p.tables e below (s₁.setTop (entryFrame m #[(.long q1), (.long q2), (.long q3), (.long q4), (.int p5)] maxLocals)) t := fun t k => pre102 t (by rw [hc103]; exact k)
            have f105 := (f92.keep K98)
            have f106 := (f95.keep K98 (ninS (Ne.symm ne86) nin0))
            have f107 := ((((f14.ext E15).keep K18 (ninS ne94 nin0)).keep K25 nin0).keep K98 (ninS (Ne.symm ne86) nin0))
            have f108 := ((f19.keep K25).keep K98)
            have f109 := ((f20.keep K25 nin0).keep K98 (ninS (Ne.symm ne89) nin0))
            obtain ⟨_, T110, L110, X110, hQ110, st110⟩ := own_vb X96 hx hZ hown (y := yn5) (own_w hw 25 rfl) (own_w hw 26 rfl) (own_w hw 28 rfl) (own_w hw 27 rfl) (own_w hw 29 rfl) (own_w hw 2 rfl) rfl f105 (argsL := [(.ref b15)]) (rest := []) (rm5 l Z a0 hw [] b8 b15 q2 T96.heap n0 O96 g_b8 g_b15 (Ne.symm ne94) f105 f106 f107 f108 f109) (g := (mkF m 141 #[.val (.long q1), .second, .val (.long q2), .second, .val (.long q3), .second, .val (.long q4), .second, .val (.int p5), .val (.ref b1), .val (.ref b8), .val (.ref b15), .val (.ref b23), .val (.int 2), .val (.int 0), .val (.int 0), .unset, .unset, .unset, .unset] [(.ref b15), (.ref b8)])) rfl (by rw [hml]; rfl) rfl (hb hby at_141) (lenOf pd4 rfl) (W := 0) (c1 := 4) (s1 := 8)
            obtain ⟨rfl, Nq111, K112, f113, f114, f115⟩ := hQ110
            have N110 := Fr.app N96 Nq111
            have M110 : h0.size ≤ T110.heap.size := Nat.le_trans M96 K112.1
            have O110 := Old.keep O96 K112 (allS g_b8 all0)
            have f116 := (f99.keep K112)
            have f117 := (f100.keep K112 (ninS ne86 nin0))
            have f118 := (f108.keep K112)
            have f119 := (f109.keep K112 (ninS (Ne.symm ne94) nin0))
            obtain ⟨_, T120, L120, X120, hQ120, st120⟩ := own_vb X110 hx hZ hown (y := yn3) (own_w hw 48 rfl) (own_w hw 49 rfl) (own_w hw 50 rfl) (own_w hw 36 rfl) (own_w hw 40 rfl) (own_w hw 2 rfl) rfl f116 (argsL := []) (rest := []) (rm7 l Z a0 hw [] b1 b8 b15 T110.heap n0 O110 g_b1 g_b8 g_b15 f116 f117 f113 f114 f118 f119) (g := (mkF m 268 #[.val (.long q1), .second, .val (.long q2), .second, .val (.long q3), .second, .val (.long q4), .second, .val (.int p5), .val (.ref b1), .val (.ref b8), .val (.ref b15), .val (.ref b23), .val (.int 2), .val (.int 0), .val (.int 0), .val (.ref b15), .unset, .unset, .unset] [(.ref b1)])) rfl (by rw [hml]; rfl) rfl (hb hby at_268) (lenOf pd3 rfl) (W := 0) (c1 := 4) (s1 := 8)
            obtain ⟨rfl, Nq121, e122⟩ := hQ120
            have N120 := Fr.app N110 Nq121
            obtain ⟨_, T123, L123, X123, hQ123, st123⟩ := own_vb X120 hx hZ hown (y := yn3) (own_w hw 48 rfl) (own_w hw 49 rfl) (own_w hw 50 rfl) (own_w hw 36 rfl) (own_w hw 40 rfl) (own_w hw 2 rfl) e122 f116 (argsL := []) (rest := []) (rm7 l Z a0 hw [] b1 b8 b15 T110.heap n0 O110 g_b1 g_b8 g_b15 f116 f117 f113 f114 f118 f119) (g := (mkF m 275 #[.val (.long q1), .second, .val (.long q2), .second, .val (.long q3), .second, .val (.long q4), .second, .val (.int p5), .val (.ref b1), .val (.ref b8), .val (.ref b15), .val (.ref b23), .val (.int 2), .val (.int 0), .val (.int 0), .val (.ref b15), .val (.ref b15), .unset, .unset] [(.ref b1)])) rfl (by rw [hml]; rfl) rfl (hb hby at_275) (lenOf pd3 rfl) (W := 0) (c1 := 4) (s1 := 8)
            obtain ⟨rfl, Nq124, e125⟩ := hQ123
            have N123 := Fr.app N120 Nq124
            obtain ⟨_, T126, L126, X126, hQ126, st126⟩ := own_ib X123 hx hZ hown (z := yn4) (y := yn3) (own_w hw 53 rfl) (own_w hw 33 rfl) (mvT hZ (own_w hw 34 rfl)) (own_w hw 35 rfl) (own_w hw 36 rfl) (own_w hw 37 rfl) (mvT hZ (own_w hw 38 rfl)) (own_w hw 39 rfl) (own_w hw 40 rfl) (own_w hw 2 rfl) e125 f118 (argsL := []) (rest := []) (rm4 l Z a0 hw [] b15 T110.heap n0 O110 g_b15 f118 f119) (g := (mkF m 282 #[.val (.long q1), .second, .val (.long q2), .second, .val (.long q3), .second, .val (.long q4), .second, .val (.int p5), .val (.ref b1), .val (.ref b8), .val (.ref b15), .val (.ref b23), .val (.int 2), .val (.int 0), .val (.int 0), .val (.ref b15), .val (.ref b15), .val (.ref b15), .unset] [(.ref b15)])) rfl (by rw [hml]; rfl) rfl (hb hby at_282) (lenOf pd3 rfl) (W := 0) (c1 := 4) (s1 := 8)
            obtain ⟨rfl, Nq127, e128⟩ := hQ126
            have N126 := Fr.app N123 Nq127
            obtain ⟨fs, hr, hrun, hended, hW, hsame⟩ := X126.leave (v := some (.int 1)) (fun h => by rw [hret] at h; cases h)
            refine ⟨_, _, pre104 _ ?_, hrun, hended, _, _, rfl, ?_, ⟨_, rfl⟩, hW, hsame.mono (by decide) (by decide)⟩
            ·
              show Steps p.tables e below (T96.setTop (mkF m 119 #[.val (.long q1), .second, .val (.long q2), .second, .val (.long q3), .second, .val (.long q4), .second, .val (.int p5), .val (.ref b1), .val (.ref b8), .val (.ref b15), .val (.ref b23), .val (.int 2), .val (.int 0), .val (.int 0), .unset, .unset, .unset, .unset] [(.int 2), (.int 2)])) _
              refine XS.icmpNo X96.here hx rfl (hb hby at_119) rfl (teq (by decide : (2 : Int32) = (2 : Int32))).2 ?_
              refine XS.iload X96.here hx rfl (hb hby at_122) rfl ?_
              refine XS.ifYes X96.here hx rfl (pc0 := 124) (pc' := 137) rfl (hb hby at_124) rfl ((if0 _ _).trans (teq (by decide : (0 : Int32) = (0 : Int32))).1) (by decide) (by decide) ?_
              refine XS.aload X96.here hx rfl (hb hby at_137) rfl rfl ?_
              refine XS.aload X96.here hx rfl (hb hby at_139) rfl rfl ?_
              refine st110 _ ?_
              refine XS.iload X110.here hx rfl (hb hby at_144) rfl ?_
              refine XS.iconst X110.here hx rfl (hb hby at_146) ?_
              refine XS.icmpYes X110.here hx rfl (pc0 := 147) (pc' := 157) rfl (hb hby at_147) rfl (tlt (by decide : (2 : Int32) < (3 : Int32))).1 (by decide) (by decide) ?_
              refine XS.iload X110.here hx rfl (hb hby at_157) rfl ?_
              refine XS.ifYes X110.here hx rfl (pc0 := 159) (pc' := 169) rfl (hb hby at_159) rfl ((if0 _ _).trans (feq (by decide : ¬ ((2 : Int32) = (0 : Int32)))).2) (by decide) (by decide) ?_
              refine XS.iload X110.here hx rfl (hb hby at_169) rfl ?_
              refine XS.iconst X110.here hx rfl (hb hby at_171) ?_
              refine XS.icmpYes X110.here hx rfl (pc0 := 172) (pc' := 194) rfl (hb hby at_172) rfl (feq (by decide : ¬ ((2 : Int32) = (1 : Int32)))).2 (by decide) (by decide) ?_
              refine XS.iload X110.here hx rfl (hb hby at_194) rfl ?_
              refine XS.iconst X110.here hx rfl (hb hby at_196) ?_
              refine XS.icmpNo X110.here hx rfl (hb hby at_197) rfl (teq (by decide : (2 : Int32) = (2 : Int32))).2 ?_
              refine XS.iload X110.here hx rfl (hb hby at_200) rfl ?_
              refine XS.ifYes X110.here hx rfl (pc0 := 202) (pc' := 212) rfl (hb hby at_202) rfl ((if0 _ _).trans (teq (by decide : (0 : Int32) = (0 : Int32))).1) (by decide) (by decide) ?_
              refine XS.aload X110.here hx rfl (hb hby at_212) rfl rfl ?_
              refine XS.astore X110.here hx rfl (hb hby at_214) rfl rfl (l' := #[.val (.long q1), .second, .val (.long q2), .second, .val (.long q3), .second, .val (.long q4), .second, .val (.int p5), .val (.ref b1), .val (.ref b8), .val (.ref b15), .val (.ref b23), .val (.int 2), .val (.int 0), .val (.int 0), .val (.ref b15), .unset, .unset, .unset]) rfl ?_
              refine XS.goto X110.here hx rfl (pc0 := 216) (pc' := 223) rfl (hb hby at_216) (by decide) (by decide) ?_
              refine XS.iload X110.here hx rfl (hb hby at_223) rfl ?_
              refine XS.ifYes X110.here hx rfl (pc0 := 225) (pc' := 246) rfl (hb hby at_225) rfl ((if0 _ _).trans (teq (by decide : (0 : Int32) = (0 : Int32))).1) (by decide) (by decide) ?_
              refine XS.iload X110.here hx rfl (hb hby at_246) rfl ?_
              refine XS.ifYes X110.here hx rfl (pc0 := 248) (pc' := 266) rfl (hb hby at_248) rfl ((if0 _ _).trans (teq (by decide : (0 : Int32) = (0 : Int32))).1) (by decide) (by decide) ?_
              refine XS.aload X110.here hx rfl (hb hby at_266) rfl rfl ?_
              refine st120 _ ?_
              show Steps p.tables e below (T120.setTop (mkF m 271 #[.val (.long q1), .second, .val (.long q2), .second, .val (.long q3), .second, .val (.long q4), .second, .val (.int p5), .val (.ref b1), .val (.ref b8), .val (.ref b15), .val (.ref b23), .val (.int 2), .val (.int 0), .val (.int 0), .val (.ref b15), .unset, .unset, .unset] [(.ref b15)])) _
              refine XS.astore X120.here hx rfl (hb hby at_271) rfl rfl (l' := #[.val (.long q1), .second, .val (.long q2), .second, .val (.long q3), .second, .val (.long q4), .second, .val (.int p5), .val (.ref b1), .val (.ref b8), .val (.ref b15), .val (.ref b23), .val (.int 2), .val (.int 0), .val (.int 0), .val (.ref b15), .val (.ref b15), .unset, .unset]) rfl ?_
              refine XS.aload X120.here hx rfl (hb hby at_273) rfl rfl ?_
              refine st123 _ ?_
              refine XS.astore X123.here hx rfl (hb hby at_278) rfl rfl (l' := #[.val (.long q1), .second, .val (.long q2), .second, .val (.long q3), .second, .val (.long q4), .second, .val (.int p5), .val (.ref b1), .val (.ref b8), .val (.ref b15), .val (.ref b23), .val (.int 2), .val (.int 0), .val (.int 0), .val (.ref b15), .val (.ref b15), .val (.ref b15), .unset]) rfl ?_
              refine XS.aload X123.here hx rfl (hb hby at_280) rfl rfl ?_
              refine st126 _ ?_
              refine XS.astore X126.here hx rfl (hb hby at_287) rfl rfl (l' := #[.val (.long q1), .second, .val (.long q2), .second, .val (.long q3), .second, .val (.long q4), .second, .val (.int p5), .val (.ref b1), .val (.ref b8), .val (.ref b15), .val (.ref b23), .val (.int 2), .val (.int 0), .val (.int 0), .val (.ref b15), .val (.ref b15), .val (.ref b15), .val (.ref b15)]) rfl ?_
              refine XS.aload X126.here hx rfl (hb hby at_289) rfl rfl ?_
              refine XS.aload X126.here hx rfl (hb hby at_291) rfl rfl ?_
              refine Jvm.RoadKit.acmp (g := (mkF m 293 #[.val (.long q1), .second, .val (.long q2), .second, .val (.long q3), .second, .val (.long q4), .second, .val (.int p5), .val (.ref b1), .val (.ref b8), .val (.ref b15), .val (.ref b23), .val (.int 2), .val (.int 0), .val (.int 0), .val (.ref b15), .val (.ref b15), .val (.ref b15), .val (.ref b15)] [(.ref b15), (.ref b15)])) X126 hx rfl rfl rfl (pc0 := 293) (pc' := 296) (same := true) rfl (hb hby at_293) rfl (decide_eq_true rfl) (by decide) (by decide) ?_
              refine XS.aload X126.here hx rfl (hb hby at_296) rfl rfl ?_
              refine XS.aload X126.here hx rfl (hb hby at_298) rfl rfl ?_
              refine Jvm.RoadKit.acmp (g := (mkF m 300 #[.val (.long q1), .second, .val (.long q2), .second, .val (.long q3), .second, .val (.long q4), .second, .val (.int p5), .val (.ref b1), .val (.ref b8), .val (.ref b15), .val (.ref b23), .val (.int 2), .val (.int 0), .val (.int 0), .val (.ref b15), .val (.ref b15), .val (.ref b15), .val (.ref b15)] [(.ref b15), (.ref b15)])) X126 hx rfl rfl rfl (pc0 := 300) (pc' := 303) (same := true) rfl (hb hby at_300) rfl (decide_eq_true rfl) (by decide) (by decide) ?_
              refine XS.aload X126.here hx rfl (hb hby at_303) rfl rfl ?_
              refine XS.aload X126.here hx rfl (hb hby at_305) rfl rfl ?_
              refine Jvm.RoadKit.acmp (g := (mkF m 307 #[.val (.long q1), .second, .val (.long q2), .second, .val (.long q3), .second, .val (.long q4), .second, .val (.int p5), .val (.ref b1), .val (.ref b8), .val (.ref b15), .val (.ref b23), .val (.int 2), .val (.int 0), .val (.int 0), .val (.ref b15), .val (.ref b15), .val (.ref b15), .val (.ref b15)] [(.ref b15), (.ref b15)])) X126 hx rfl rfl rfl (pc0 := 307) (pc' := 310) (same := true) rfl (hb hby at_307) rfl (decide_eq_true rfl) (by decide) (by decide) ?_
              refine XS.iconst X126.here hx rfl (hb hby at_310) ?_
              refine XS.goto X126.here hx rfl (pc0 := 311) (pc' := 315) rfl (hb hby at_311) (by decide) (by decide) ?_
              show Steps p.tables e below (T126.setTop (mkF m 315 #[.val (.long q1), .second, .val (.long q2), .second, .val (.long q3), .second, .val (.long q4), .second, .val (.int p5), .val (.ref b1), .val (.ref b8), .val (.ref b15), .val (.ref b23), .val (.int 2), .val (.int 0), .val (.int 0), .val (.ref b15), .val (.ref b15), .val (.ref b15), .val (.ref b15)] [(.int 1)])) _
              exact retN X126 hx (t := .boolean) hret (by simp) (hb hby at_315) hr
            ·
              show Q0 n0 _ T126.heap _
              rw [e128]
              exact ⟨rfl, N126⟩
          ·
            have hq129 : (p5 &&& (3 : Int32)) = (3 : Int32) := (own_geq (n := 3) (k := (3 : Int32)) (by decide) (by have q0 := own_and (x := p5) (k := (3 : Int32)) (n := 3) (by decide) (by decide); have q1 := own_nlt1 (n := 1) (k := (1 : Int32)) (by decide) hc36; have q2 := own_neq (n := 1) (k := (1 : Int32)) (by decide) hc55; have q3 := own_neq (n := 2) (k := (2 : Int32)) (by decide) hc103; omega))
            have pre130 : ∀ t, Steps p.tables e below (T96.setTop (mkF m 119 #[.val (.long q1), .second, .val (.long q2), .second, .val (.long q3), .second, .val (.long q4), .second, .val (.int p5), .val (.ref b1), .val (.ref b8), .val (.ref b15), .val (.ref b23), .val (.int 3), .val (.int 0), .val (.int 0), .unset, .unset, .unset, .unset] [(.int 2), (.int 3)])) t → Steps p.tables e below (s₁.setTop (entryFrame m #[(.long q1), (.long q2), (.long q3), (.long q4), (.int p5)] maxLocals)) t := fun t k => pre102 t (by rw [hq129]; exact k)
            have f131 := (f92.keep K98)
            have f132 := (f95.keep K98 (ninS (Ne.symm ne86) nin0))
            have f133 := ((((f14.ext E15).keep K18 (ninS ne94 nin0)).keep K25 nin0).keep K98 (ninS (Ne.symm ne86) nin0))
            have f134 := ((f19.keep K25).keep K98)
            have f135 := ((f20.keep K25 nin0).keep K98 (ninS (Ne.symm ne89) nin0))
            obtain ⟨_, T136, L136, X136, hQ136, st136⟩ := own_vb X96 hx hZ hown (y := yn5) (own_w hw 25 rfl) (own_w hw 26 rfl) (own_w hw 28 rfl) (own_w hw 27 rfl) (own_w hw 29 rfl) (own_w hw 2 rfl) rfl f131 (argsL := [(.ref b15)]) (rest := []) (rm5 l Z a0 hw [] b8 b15 q2 T96.heap n0 O96 g_b8 g_b15 (Ne.symm ne94) f131 f132 f133 f134 f135) (g := (mkF m 141 #[.val (.long q1), .second, .val (.long q2), .second, .val (.long q3), .second, .val (.long q4), .second, .val (.int p5), .val (.ref b1), .val (.ref b8), .val (.ref b15), .val (.ref b23), .val (.int 3), .val (.int 0), .val (.int 0), .unset, .unset, .unset, .unset] [(.ref b15), (.ref b8)])) rfl (by rw [hml]; rfl) rfl (hb hby at_141) (lenOf pd4 rfl) (W := 0) (c1 := 4) (s1 := 8)
            obtain ⟨rfl, Nq137, K138, f139, f140, f141⟩ := hQ136
            have N136 := Fr.app N96 Nq137
            have M136 : h0.size ≤ T136.heap.size := Nat.le_trans M96 K138.1
            have O136 := Old.keep O96 K138 (allS g_b8 all0)
            have f142 := (f134.keep K138)
            have f143 := (f135.keep K138 (ninS (Ne.symm ne94) nin0))
            have f144 := (((f21.keep K25 nin0).keep K98 (ninS (Ne.symm ne89) nin0)).keep K138 (ninS (Ne.symm ne94) nin0))
            have f145 := ((f26.keep K98).keep K138)
            obtain ⟨_, T146, L146, X146, hQ146, st146⟩ := own_vb X136 hx hZ hown (y := yn5) (own_w hw 25 rfl) (own_w hw 26 rfl) (own_w hw 28 rfl) (own_w hw 27 rfl) (own_w hw 29 rfl) (own_w hw 2 rfl) rfl f142 (argsL := [(.ref b23)]) (rest := []) (rm8 l Z a0 hw [] b15 b23 q3 T136.heap n0 O136 g_b15 g_b23 f142 f143 f144 f145) (g := (mkF m 154 #[.val (.long q1), .second, .val (.long q2), .second, .val (.long q3), .second, .val (.long q4), .second, .val (.int p5), .val (.ref b1), .val (.ref b8), .val (.ref b15), .val (.ref b23), .val (.int 3), .val (.int 0), .val (.int 0), .unset, .unset, .unset, .unset] [(.ref b23), (.ref b15)])) rfl (by rw [hml]; rfl) rfl (hb hby at_154) (lenOf pd4 rfl) (W := 0) (c1 := 4) (s1 := 8)
            obtain ⟨rfl, Nq147, K148, f149, f150, f151⟩ := hQ146
            have N146 := Fr.app N136 Nq147
            have M146 : h0.size ≤ T146.heap.size := Nat.le_trans M136 K148.1
            have O146 := Old.keep O136 K148 (allS g_b15 all0)
            have f152 := ((f99.keep K138).keep K148)
            have f153 := ((f100.keep K138 (ninS ne86 nin0)).keep K148 (ninS ne89 nin0))
            have f154 := (f139.keep K148)
            have f155 := (f140.keep K148 (ninS ne94 nin0))
            have f156 := (f145.keep K148)
            obtain ⟨_, T157, L157, X157, hQ157, st157⟩ := own_vb X146 hx hZ hown (y := yn3) (own_w hw 48 rfl) (own_w hw 49 rfl) (own_w hw 50 rfl) (own_w hw 36 rfl) (own_w hw 40 rfl) (own_w hw 2 rfl) rfl f152 (argsL := []) (rest := []) (rm9 l Z a0 hw [] b1 b8 b15 b23 T146.heap n0 O146 g_b1 g_b8 g_b15 g_b23 f152 f153 f154 f155 f149 f150 f156) (g := (mkF m 268 #[.val (.long q1), .second, .val (.long q2), .second, .val (.long q3), .second, .val (.long q4), .second, .val (.int p5), .val (.ref b1), .val (.ref b8), .val (.ref b15), .val (.ref b23), .val (.int 3), .val (.int 0), .val (.int 0), .val (.ref b23), .unset, .unset, .unset] [(.ref b1)])) rfl (by rw [hml]; rfl) rfl (hb hby at_268) (lenOf pd3 rfl) (W := 0) (c1 := 4) (s1 := 8)
            obtain ⟨rfl, Nq158, e159⟩ := hQ157
            have N157 := Fr.app N146 Nq158
            obtain ⟨_, T160, L160, X160, hQ160, st160⟩ := own_vb X157 hx hZ hown (y := yn3) (own_w hw 48 rfl) (own_w hw 49 rfl) (own_w hw 50 rfl) (own_w hw 36 rfl) (own_w hw 40 rfl) (own_w hw 2 rfl) e159 f152 (argsL := []) (rest := []) (rm9 l Z a0 hw [] b1 b8 b15 b23 T146.heap n0 O146 g_b1 g_b8 g_b15 g_b23 f152 f153 f154 f155 f149 f150 f156) (g := (mkF m 275 #[.val (.long q1), .second, .val (.long q2), .second, .val (.long q3), .second, .val (.long q4), .second, .val (.int p5), .val (.ref b1), .val (.ref b8), .val (.ref b15), .val (.ref b23), .val (.int 3), .val (.int 0), .val (.int 0), .val (.ref b23), .val (.ref b23), .unset, .unset] [(.ref b1)])) rfl (by rw [hml]; rfl) rfl (hb hby at_275) (lenOf pd3 rfl) (W := 0) (c1 := 4) (s1 := 8)
            obtain ⟨rfl, Nq161, e162⟩ := hQ160
            have N160 := Fr.app N157 Nq161
            obtain ⟨T163, X163, e163, st163⟩ := own_id X160 hx hZ hown (z := yn4) (y := yn4) (own_w hw 53 rfl) (own_w hw 33 rfl) (mvT hZ (own_w hw 34 rfl)) (own_w hw 43 rfl) (own_w hw 44 rfl) (own_w hw 45 rfl) (own_w hw 46 rfl) (own_w hw 47 rfl) e162 f156 (plainFor_of_name pn2) d5_0 d5_1 (g := (mkF m 282 #[.val (.long q1), .second, .val (.long q2), .second, .val (.long q3), .second, .val (.long q4), .second, .val (.int p5), .val (.ref b1), .val (.ref b8), .val (.ref b15), .val (.ref b23), .val (.int 3), .val (.int 0), .val (.int 0), .val (.ref b23), .val (.ref b23), .val (.ref b23), .unset] [(.ref b23)])) rfl (by rw [hml]; rfl) rfl (hb hby at_282) (lenOf pd3 rfl) (W := 0)
            obtain ⟨fs, hr, hrun, hended, hW, hsame⟩ := X163.leave (v := some (.int 1)) (fun h => by rw [hret] at h; cases h)
            refine ⟨_, _, pre130 _ ?_, hrun, hended, _, _, rfl, ?_, ⟨_, rfl⟩, hW, hsame.mono (by decide) (by decide)⟩
            ·
              show Steps p.tables e below (T96.setTop (mkF m 119 #[.val (.long q1), .second, .val (.long q2), .second, .val (.long q3), .second, .val (.long q4), .second, .val (.int p5), .val (.ref b1), .val (.ref b8), .val (.ref b15), .val (.ref b23), .val (.int 3), .val (.int 0), .val (.int 0), .unset, .unset, .unset, .unset] [(.int 2), (.int 3)])) _
              refine XS.icmpYes X96.here hx rfl (pc0 := 119) (pc' := 137) rfl (hb hby at_119) rfl (feq (by decide : ¬ ((3 : Int32) = (2 : Int32)))).2 (by decide) (by decide) ?_
              refine XS.aload X96.here hx rfl (hb hby at_137) rfl rfl ?_
              refine XS.aload X96.here hx rfl (hb hby at_139) rfl rfl ?_
              refine st136 _ ?_
              refine XS.iload X136.here hx rfl (hb hby at_144) rfl ?_
              refine XS.iconst X136.here hx rfl (hb hby at_146) ?_
              refine XS.icmpNo X136.here hx rfl (hb hby at_147) rfl (flt (by decide : ¬ ((3 : Int32) < (3 : Int32)))).1 ?_
              refine XS.aload X136.here hx rfl (hb hby at_150) rfl rfl ?_
              refine XS.aload X136.here hx rfl (hb hby at_152) rfl rfl ?_
              refine st146 _ ?_
              refine XS.iload X146.here hx rfl (hb hby at_157) rfl ?_
              refine XS.ifYes X146.here hx rfl (pc0 := 159) (pc' := 169) rfl (hb hby at_159) rfl ((if0 _ _).trans (feq (by decide : ¬ ((3 : Int32) = (0 : Int32)))).2) (by decide) (by decide) ?_
              refine XS.iload X146.here hx rfl (hb hby at_169) rfl ?_
              refine XS.iconst X146.here hx rfl (hb hby at_171) ?_
              refine XS.icmpYes X146.here hx rfl (pc0 := 172) (pc' := 194) rfl (hb hby at_172) rfl (feq (by decide : ¬ ((3 : Int32) = (1 : Int32)))).2 (by decide) (by decide) ?_
              refine XS.iload X146.here hx rfl (hb hby at_194) rfl ?_
              refine XS.iconst X146.here hx rfl (hb hby at_196) ?_
              refine XS.icmpYes X146.here hx rfl (pc0 := 197) (pc' := 219) rfl (hb hby at_197) rfl (feq (by decide : ¬ ((3 : Int32) = (2 : Int32)))).2 (by decide) (by decide) ?_
              refine XS.aload X146.here hx rfl (hb hby at_219) rfl rfl ?_
              refine XS.astore X146.here hx rfl (hb hby at_221) rfl rfl (l' := #[.val (.long q1), .second, .val (.long q2), .second, .val (.long q3), .second, .val (.long q4), .second, .val (.int p5), .val (.ref b1), .val (.ref b8), .val (.ref b15), .val (.ref b23), .val (.int 3), .val (.int 0), .val (.int 0), .val (.ref b23), .unset, .unset, .unset]) rfl ?_
              refine XS.iload X146.here hx rfl (hb hby at_223) rfl ?_
              refine XS.ifYes X146.here hx rfl (pc0 := 225) (pc' := 246) rfl (hb hby at_225) rfl ((if0 _ _).trans (teq (by decide : (0 : Int32) = (0 : Int32))).1) (by decide) (by decide) ?_
              refine XS.iload X146.here hx rfl (hb hby at_246) rfl ?_
              refine XS.ifYes X146.here hx rfl (pc0 := 248) (pc' := 266) rfl (hb hby at_248) rfl ((if0 _ _).trans (teq (by decide : (0 : Int32) = (0 : Int32))).1) (by decide) (by decide) ?_
              refine XS.aload X146.here hx rfl (hb hby at_266) rfl rfl ?_
              refine st157 _ ?_
              refine XS.astore X157.here hx rfl (hb hby at_271) rfl rfl (l' := #[.val (.long q1), .second, .val (.long q2), .second, .val (.long q3), .second, .val (.long q4), .second, .val (.int p5), .val (.ref b1), .val (.ref b8), .val (.ref b15), .val (.ref b23), .val (.int 3), .val (.int 0), .val (.int 0), .val (.ref b23), .val (.ref b23), .unset, .unset]) rfl ?_
              refine XS.aload X157.here hx rfl (hb hby at_273) rfl rfl ?_
              show Steps p.tables e below (T157.setTop (mkF m 275 #[.val (.long q1), .second, .val (.long q2), .second, .val (.long q3), .second, .val (.long q4), .second, .val (.int p5), .val (.ref b1), .val (.ref b8), .val (.ref b15), .val (.ref b23), .val (.int 3), .val (.int 0), .val (.int 0), .val (.ref b23), .val (.ref b23), .unset, .unset] [(.ref b1)])) _
              refine st160 _ ?_
              refine XS.astore X160.here hx rfl (hb hby at_278) rfl rfl (l' := #[.val (.long q1), .second, .val (.long q2), .second, .val (.long q3), .second, .val (.long q4), .second, .val (.int p5), .val (.ref b1), .val (.ref b8), .val (.ref b15), .val (.ref b23), .val (.int 3), .val (.int 0), .val (.int 0), .val (.ref b23), .val (.ref b23), .val (.ref b23), .unset]) rfl ?_
              refine XS.aload X160.here hx rfl (hb hby at_280) rfl rfl ?_
              refine st163 _ ?_
              refine XS.astore X163.here hx rfl (hb hby at_287) rfl rfl (l' := #[.val (.long q1), .second, .val (.long q2), .second, .val (.long q3), .second, .val (.long q4), .second, .val (.int p5), .val (.ref b1), .val (.ref b8), .val (.ref b15), .val (.ref b23), .val (.int 3), .val (.int 0), .val (.int 0), .val (.ref b23), .val (.ref b23), .val (.ref b23), .val (.ref b23)]) rfl ?_
              refine XS.aload X163.here hx rfl (hb hby at_289) rfl rfl ?_
              refine XS.aload X163.here hx rfl (hb hby at_291) rfl rfl ?_
              refine Jvm.RoadKit.acmp (g := (mkF m 293 #[.val (.long q1), .second, .val (.long q2), .second, .val (.long q3), .second, .val (.long q4), .second, .val (.int p5), .val (.ref b1), .val (.ref b8), .val (.ref b15), .val (.ref b23), .val (.int 3), .val (.int 0), .val (.int 0), .val (.ref b23), .val (.ref b23), .val (.ref b23), .val (.ref b23)] [(.ref b23), (.ref b23)])) X163 hx rfl rfl rfl (pc0 := 293) (pc' := 296) (same := true) rfl (hb hby at_293) rfl (decide_eq_true rfl) (by decide) (by decide) ?_
              refine XS.aload X163.here hx rfl (hb hby at_296) rfl rfl ?_
              refine XS.aload X163.here hx rfl (hb hby at_298) rfl rfl ?_
              refine Jvm.RoadKit.acmp (g := (mkF m 300 #[.val (.long q1), .second, .val (.long q2), .second, .val (.long q3), .second, .val (.long q4), .second, .val (.int p5), .val (.ref b1), .val (.ref b8), .val (.ref b15), .val (.ref b23), .val (.int 3), .val (.int 0), .val (.int 0), .val (.ref b23), .val (.ref b23), .val (.ref b23), .val (.ref b23)] [(.ref b23), (.ref b23)])) X163 hx rfl rfl rfl (pc0 := 300) (pc' := 303) (same := true) rfl (hb hby at_300) rfl (decide_eq_true rfl) (by decide) (by decide) ?_
              refine XS.aload X163.here hx rfl (hb hby at_303) rfl rfl ?_
              refine XS.aload X163.here hx rfl (hb hby at_305) rfl rfl ?_
              refine Jvm.RoadKit.acmp (g := (mkF m 307 #[.val (.long q1), .second, .val (.long q2), .second, .val (.long q3), .second, .val (.long q4), .second, .val (.int p5), .val (.ref b1), .val (.ref b8), .val (.ref b15), .val (.ref b23), .val (.int 3), .val (.int 0), .val (.int 0), .val (.ref b23), .val (.ref b23), .val (.ref b23), .val (.ref b23)] [(.ref b23), (.ref b23)])) X163 hx rfl rfl rfl (pc0 := 307) (pc' := 310) (same := true) rfl (hb hby at_307) rfl (decide_eq_true rfl) (by decide) (by decide) ?_
              refine XS.iconst X163.here hx rfl (hb hby at_310) ?_
              refine XS.goto X163.here hx rfl (pc0 := 311) (pc' := 315) rfl (hb hby at_311) (by decide) (by decide) ?_
              show Steps p.tables e below (T163.setTop (mkF m 315 #[.val (.long q1), .second, .val (.long q2), .second, .val (.long q3), .second, .val (.long q4), .second, .val (.int p5), .val (.ref b1), .val (.ref b8), .val (.ref b15), .val (.ref b23), .val (.int 3), .val (.int 0), .val (.int 0), .val (.ref b23), .val (.ref b23), .val (.ref b23), .val (.ref b23)] [(.int 1)])) _
              exact retN X163 hx (t := .boolean) hret (by simp) (hb hby at_315) hr
            ·
              show Q0 n0 _ T163.heap _
              rw [e163]
              exact ⟨rfl, N160⟩
    ·
      have hq164 : ((p5 >>> ((3 : Int32) &&& 31)) &&& (1 : Int32)) = (1 : Int32) := (own_geq (n := 1) (k := (1 : Int32)) (by decide) (by have q0 := own_and (x := (p5 >>> ((3 : Int32) &&& 31))) (k := (1 : Int32)) (n := 1) (by decide) (by decide); have q1 := own_neq (n := 0) (k := (0 : Int32)) (by decide) hc33; omega))
      have pre165 : ∀ t, Steps p.tables e below (T22.setTop (mkF m 66 #[.val (.long q1), .second, .val (.long q2), .second, .val (.long q3), .second, .val (.long q4), .second, .val (.int p5), .val (.ref b1), .val (.ref b8), .val (.ref b15), .val (.ref b23), .val (.int (p5 &&& (3 : Int32))), .val (.int 0), .unset, .unset, .unset, .unset, .unset] [(.int 1)])) t → Steps p.tables e below (s₁.setTop (entryFrame m #[(.long q1), (.long q2), (.long q3), (.long q4), (.int p5)] maxLocals)) t := fun t k => pre32 t (by rw [hq164]; exact k)
      have pre166 : ∀ t, Steps p.tables e below (T22.setTop (mkF m 79 #[.val (.long q1), .second, .val (.long q2), .second, .val (.long q3), .second, .val (.long q4), .second, .val (.int p5), .val (.ref b1), .val (.ref b8), .val (.ref b15), .val (.ref b23), .val (.int (p5 &&& (3 : Int32))), .val (.int 0), .val (.int 1), .unset, .unset, .unset, .unset] [(.int 1), (.int (p5 &&& (3 : Int32)))])) t → Steps p.tables e below (s₁.setTop (entryFrame m #[(.long q1), (.long q2), (.long q3), (.long q4), (.int p5)] maxLocals)) t := fun t k => by
        refine pre165 _ ?_
        show Steps p.tables e below (T22.setTop (mkF m 66 #[.val (.long q1), .second, .val (.long q2), .second, .val (.long q3), .second, .val (.long q4), .second, .val (.int p5), .val (.ref b1), .val (.ref b8), .val (.ref b15), .val (.ref b23), .val (.int (p5 &&& (3 : Int32))), .val (.int 0), .unset, .unset, .unset, .unset, .unset] [(.int 1)])) _
        refine XS.ifNo X22.here hx rfl (hb hby at_66) rfl ((if0 _ _).trans (feq (by decide : ¬ ((1 : Int32) = (0 : Int32)))).1) ?_
        refine XS.iconst X22.here hx rfl (hb hby at_69) ?_
        refine XS.goto X22.here hx rfl (pc0 := 70) (pc' := 74) rfl (hb hby at_70) (by decide) (by decide) ?_
        refine XS.istore X22.here hx rfl (hb hby at_74) rfl (l' := #[.val (.long q1), .second, .val (.long q2), .second, .val (.long q3), .second, .val (.long q4), .second, .val (.int p5), .val (.ref b1), .val (.ref b8), .val (.ref b15), .val (.ref b23), .val (.int (p5 &&& (3 : Int32))), .val (.int 0), .val (.int 1), .unset, .unset, .unset, .unset]) rfl ?_
        refine XS.iload X22.here hx rfl (hb hby at_76) rfl ?_
        show Steps p.tables e below (T22.setTop (mkF m 78 #[.val (.long q1), .second, .val (.long q2), .second, .val (.long q3), .second, .val (.long q4), .second, .val (.int p5), .val (.ref b1), .val (.ref b8), .val (.ref b15), .val (.ref b23), .val (.int (p5 &&& (3 : Int32))), .val (.int 0), .val (.int 1), .unset, .unset, .unset, .unset] [(.int (p5 &&& (3 : Int32)))])) _
        refine XS.iconst X22.here hx rfl (hb hby at_78) ?_
        exact k
      by_cases hc167 : (p5 &&& (3 : Int32)) < (1 : Int32)
      ·
        have hq168 : (p5 &&& (3 : Int32)) = (0 : Int32) := (own_geq (n := 0) (k := (0 : Int32)) (by decide) (by have q0 := own_and (x := p5) (k := (3 : Int32)) (n := 3) (by decide) (by decide); have q1 := own_lt1 (n := 1) (k := (1 : Int32)) (by decide) hc167; omega))
        have pre169 : ∀ t, Steps p.tables e below (T22.setTop (mkF m 79 #[.val (.long q1), .second, .val (.long q2), .second, .val (.long q3), .second, .val (.long q4), .second, .val (.int p5), .val (.ref b1), .val (.ref b8), .val (.ref b15), .val (.ref b23), .val (.int 0), .val (.int 0), .val (.int 1), .unset, .unset, .unset, .unset] [(.int 1), (.int 0)])) t → Steps p.tables e below (s₁.setTop (entryFrame m #[(.long q1), (.long q2), (.long q3), (.long q4), (.int p5)] maxLocals)) t := fun t k => pre166 t (by rw [hq168]; exact k)
        have f170 := (((((f5.ext E8).keep K11).ext E15).keep K18).keep K25)
        have lt171 : b1 < T2.heap.size := (Nat.lt_of_lt_of_le A1.lt K4.1)
        have ne172 : b1 ≠ b8 := Nat.ne_of_lt (Nat.lt_of_lt_of_le lt171 sz_b8)
        have lt173 : b1 < T9.heap.size := (Nat.lt_of_lt_of_le (Nat.lt_of_lt_of_le (Nat.lt_of_lt_of_le A1.lt K4.1) E8.1) K11.1)
        have ne174 : b1 ≠ b15 := Nat.ne_of_lt (Nat.lt_of_lt_of_le lt173 sz_b15)
        have f175 := (((((f6.ext E8).keep K11 (ninS ne172 nin0)).ext E15).keep K18 (ninS ne174 nin0)).keep K25 nin0)
        obtain ⟨_, T176, L176, X176, hQ176, st176⟩ := own_vb X22 hx hZ hown (y := yn3) (own_w hw 48 rfl) (own_w hw 49 rfl) (own_w hw 50 rfl) (own_w hw 36 rfl) (own_w hw 40 rfl) (own_w hw 2 rfl) rfl f170 (argsL := []) (rest := []) (rm4 l Z a0 hw [] b1 T22.heap n0 O22 g_b1 f170 f175) (g := (mkF m 268 #[.val (.long q1), .second, .val (.long q2), .second, .val (.long q3), .second, .val (.long q4), .second, .val (.int p5), .val (.ref b1), .val (.ref b8), .val (.ref b15), .val (.ref b23), .val (.int 0), .val (.int 0), .val (.int 1), .val (.ref b1), .unset, .unset, .unset] [(.ref b1)])) rfl (by rw [hml]; rfl) rfl (hb hby at_268) (lenOf pd3 rfl) (W := 0) (c1 := 4) (s1 := 8)
        obtain ⟨rfl, Nq177, e178⟩ := hQ176
        have N176 := Fr.app N22 Nq177
        obtain ⟨_, T179, L179, X179, hQ179, st179⟩ := own_vb X176 hx hZ hown (y := yn3) (own_w hw 48 rfl) (own_w hw 49 rfl) (own_w hw 50 rfl) (own_w hw 36 rfl) (own_w hw 40 rfl) (own_w hw 2 rfl) e178 f170 (argsL := []) (rest := []) (rm4 l Z a0 hw [] b1 T22.heap n0 O22 g_b1 f170 f175) (g := (mkF m 275 #[.val (.long q1), .second, .val (.long q2), .second, .val (.long q3), .second, .val (.long q4), .second, .val (.int p5), .val (.ref b1), .val (.ref b8), .val (.ref b15), .val (.ref b23), .val (.int 0), .val (.int 0), .val (.int 1), .val (.ref b1), .val (.ref b1), .unset, .unset] [(.ref b1)])) rfl (by rw [hml]; rfl) rfl (hb hby at_275) (lenOf pd3 rfl) (W := 0) (c1 := 4) (s1 := 8)
        obtain ⟨rfl, Nq180, e181⟩ := hQ179
        have N179 := Fr.app N176 Nq180
        obtain ⟨_, T182, L182, X182, hQ182, st182⟩ := own_ib X179 hx hZ hown (z := yn4) (y := yn3) (own_w hw 53 rfl) (own_w hw 33 rfl) (mvT hZ (own_w hw 34 rfl)) (own_w hw 35 rfl) (own_w hw 36 rfl) (own_w hw 37 rfl) (mvT hZ (own_w hw 38 rfl)) (own_w hw 39 rfl) (own_w hw 40 rfl) (own_w hw 2 rfl) e181 f170 (argsL := []) (rest := []) (rm4 l Z a0 hw [] b1 T22.heap n0 O22 g_b1 f170 f175) (g := (mkF m 282 #[.val (.long q1), .second, .val (.long q2), .second, .val (.long q3), .second, .val (.long q4), .second, .val (.int p5), .val (.ref b1), .val (.ref b8), .val (.ref b15), .val (.ref b23), .val (.int 0), .val (.int 0), .val (.int 1), .val (.ref b1), .val (.ref b1), .val (.ref b1), .unset] [(.ref b1)])) rfl (by rw [hml]; rfl) rfl (hb hby at_282) (lenOf pd3 rfl) (W := 0) (c1 := 4) (s1 := 8)
        obtain ⟨rfl, Nq183, e184⟩ := hQ182
        have N182 := Fr.app N179 Nq183
        obtain ⟨fs, hr, hrun, hended, hW, hsame⟩ := X182.leave (v := some (.int 1)) (fun h => by rw [hret] at h; cases h)
        refine ⟨_, _, pre169 _ ?_, hrun, hended, _, _, rfl, ?_, ⟨_, rfl⟩, hW, hsame.mono (by decide) (by decide)⟩
        ·
          show Steps p.tables e below (T22.setTop (mkF m 79 #[.val (.long q1), .second, .val (.long q2), .second, .val (.long q3), .second, .val (.long q4), .second, .val (.int p5), .val (.ref b1), .val (.ref b8), .val (.ref b15), .val (.ref b23), .val (.int 0), .val (.int 0), .val (.int 1), .unset, .unset, .unset, .unset] [(.int 1), (.int 0)])) _
          refine XS.icmpYes X22.here hx rfl (pc0 := 79) (pc' := 110) rfl (hb hby at_79) rfl (tlt (by decide : (0 : Int32) < (1 : Int32))).1 (by decide) (by decide) ?_
          refine XS.iload X22.here hx rfl (hb hby at_110) rfl ?_
          refine XS.iconst X22.here hx rfl (hb hby at_112) ?_
          refine XS.icmpYes X22.here hx rfl (pc0 := 113) (pc' := 144) rfl (hb hby at_113) rfl (tlt (by decide : (0 : Int32) < (2 : Int32))).1 (by decide) (by decide) ?_
          refine XS.iload X22.here hx rfl (hb hby at_144) rfl ?_
          refine XS.iconst X22.here hx rfl (hb hby at_146) ?_
          refine XS.icmpYes X22.here hx rfl (pc0 := 147) (pc' := 157) rfl (hb hby at_147) rfl (tlt (by decide : (0 : Int32) < (3 : Int32))).1 (by decide) (by decide) ?_
          refine XS.iload X22.here hx rfl (hb hby at_157) rfl ?_
          refine XS.ifNo X22.here hx rfl (hb hby at_159) rfl ((if0 _ _).trans (teq (by decide : (0 : Int32) = (0 : Int32))).2) ?_
          refine XS.aload X22.here hx rfl (hb hby at_162) rfl rfl ?_
          refine XS.astore X22.here hx rfl (hb hby at_164) rfl rfl (l' := #[.val (.long q1), .second, .val (.long q2), .second, .val (.long q3), .second, .val (.long q4), .second, .val (.int p5), .val (.ref b1), .val (.ref b8), .val (.ref b15), .val (.ref b23), .val (.int 0), .val (.int 0), .val (.int 1), .val (.ref b1), .unset, .unset, .unset]) rfl ?_
          refine XS.goto X22.here hx rfl (pc0 := 166) (pc' := 223) rfl (hb hby at_166) (by decide) (by decide) ?_
          refine XS.iload X22.here hx rfl (hb hby at_223) rfl ?_
          refine XS.ifNo X22.here hx rfl (hb hby at_225) rfl ((if0 _ _).trans (feq (by decide : ¬ ((1 : Int32) = (0 : Int32)))).1) ?_
          refine XS.iload X22.here hx rfl (hb hby at_228) rfl ?_
          refine XS.iconst X22.here hx rfl (hb hby at_230) ?_
          refine XS.icmpYes X22.here hx rfl (pc0 := 231) (pc' := 246) rfl (hb hby at_231) rfl (tlt (by decide : (0 : Int32) < (2 : Int32))).1 (by decide) (by decide) ?_
          refine XS.iload X22.here hx rfl (hb hby at_246) rfl ?_
          refine XS.ifNo X22.here hx rfl (hb hby at_248) rfl ((if0 _ _).trans (feq (by decide : ¬ ((1 : Int32) = (0 : Int32)))).1) ?_
          refine XS.iload X22.here hx rfl (hb hby at_251) rfl ?_
          refine XS.iconst X22.here hx rfl (hb hby at_253) ?_
          refine XS.icmpYes X22.here hx rfl (pc0 := 254) (pc' := 266) rfl (hb hby at_254) rfl (feq (by decide : ¬ ((0 : Int32) = (1 : Int32)))).2 (by decide) (by decide) ?_
          refine XS.aload X22.here hx rfl (hb hby at_266) rfl rfl ?_
          refine st176 _ ?_
          refine XS.astore X176.here hx rfl (hb hby at_271) rfl rfl (l' := #[.val (.long q1), .second, .val (.long q2), .second, .val (.long q3), .second, .val (.long q4), .second, .val (.int p5), .val (.ref b1), .val (.ref b8), .val (.ref b15), .val (.ref b23), .val (.int 0), .val (.int 0), .val (.int 1), .val (.ref b1), .val (.ref b1), .unset, .unset]) rfl ?_
          refine XS.aload X176.here hx rfl (hb hby at_273) rfl rfl ?_
          refine st179 _ ?_
          refine XS.astore X179.here hx rfl (hb hby at_278) rfl rfl (l' := #[.val (.long q1), .second, .val (.long q2), .second, .val (.long q3), .second, .val (.long q4), .second, .val (.int p5), .val (.ref b1), .val (.ref b8), .val (.ref b15), .val (.ref b23), .val (.int 0), .val (.int 0), .val (.int 1), .val (.ref b1), .val (.ref b1), .val (.ref b1), .unset]) rfl ?_
          refine XS.aload X179.here hx rfl (hb hby at_280) rfl rfl ?_
          refine st182 _ ?_
          refine XS.astore X182.here hx rfl (hb hby at_287) rfl rfl (l' := #[.val (.long q1), .second, .val (.long q2), .second, .val (.long q3), .second, .val (.long q4), .second, .val (.int p5), .val (.ref b1), .val (.ref b8), .val (.ref b15), .val (.ref b23), .val (.int 0), .val (.int 0), .val (.int 1), .val (.ref b1), .val (.ref b1), .val (.ref b1), .val (.ref b1)]) rfl ?_
          refine XS.aload X182.here hx rfl (hb hby at_289) rfl rfl ?_
          refine XS.aload X182.here hx rfl (hb hby at_291) rfl rfl ?_
          refine Jvm.RoadKit.acmp (g := (mkF m 293 #[.val (.long q1), .second, .val (.long q2), .second, .val (.long q3), .second, .val (.long q4), .second, .val (.int p5), .val (.ref b1), .val (.ref b8), .val (.ref b15), .val (.ref b23), .val (.int 0), .val (.int 0), .val (.int 1), .val (.ref b1), .val (.ref b1), .val (.ref b1), .val (.ref b1)] [(.ref b1), (.ref b1)])) X182 hx rfl rfl rfl (pc0 := 293) (pc' := 296) (same := true) rfl (hb hby at_293) rfl (decide_eq_true rfl) (by decide) (by decide) ?_
          refine XS.aload X182.here hx rfl (hb hby at_296) rfl rfl ?_
          refine XS.aload X182.here hx rfl (hb hby at_298) rfl rfl ?_
          refine Jvm.RoadKit.acmp (g := (mkF m 300 #[.val (.long q1), .second, .val (.long q2), .second, .val (.long q3), .second, .val (.long q4), .second, .val (.int p5), .val (.ref b1), .val (.ref b8), .val (.ref b15), .val (.ref b23), .val (.int 0), .val (.int 0), .val (.int 1), .val (.ref b1), .val (.ref b1), .val (.ref b1), .val (.ref b1)] [(.ref b1), (.ref b1)])) X182 hx rfl rfl rfl (pc0 := 300) (pc' := 303) (same := true) rfl (hb hby at_300) rfl (decide_eq_true rfl) (by decide) (by decide) ?_
          refine XS.aload X182.here hx rfl (hb hby at_303) rfl rfl ?_
          refine XS.aload X182.here hx rfl (hb hby at_305) rfl rfl ?_
          show Steps p.tables e below (T182.setTop (mkF m 307 #[.val (.long q1), .second, .val (.long q2), .second, .val (.long q3), .second, .val (.long q4), .second, .val (.int p5), .val (.ref b1), .val (.ref b8), .val (.ref b15), .val (.ref b23), .val (.int 0), .val (.int 0), .val (.int 1), .val (.ref b1), .val (.ref b1), .val (.ref b1), .val (.ref b1)] [(.ref b1), (.ref b1)])) _
          refine Jvm.RoadKit.acmp (g := (mkF m 307 #[.val (.long q1), .second, .val (.long q2), .second, .val (.long q3), .second, .val (.long q4), .second, .val (.int p5), .val (.ref b1), .val (.ref b8), .val (.ref b15), .val (.ref b23), .val (.int 0), .val (.int 0), .val (.int 1), .val (.ref b1), .val (.ref b1), .val (.ref b1), .val (.ref b1)] [(.ref b1), (.ref b1)])) X182 hx rfl rfl rfl (pc0 := 307) (pc' := 310) (same := true) rfl (hb hby at_307) rfl (decide_eq_true rfl) (by decide) (by decide) ?_
          refine XS.iconst X182.here hx rfl (hb hby at_310) ?_
          refine XS.goto X182.here hx rfl (pc0 := 311) (pc' := 315) rfl (hb hby at_311) (by decide) (by decide) ?_
          show Steps p.tables e below (T182.setTop (mkF m 315 #[.val (.long q1), .second, .val (.long q2), .second, .val (.long q3), .second, .val (.long q4), .second, .val (.int p5), .val (.ref b1), .val (.ref b8), .val (.ref b15), .val (.ref b23), .val (.int 0), .val (.int 0), .val (.int 1), .val (.ref b1), .val (.ref b1), .val (.ref b1), .val (.ref b1)] [(.int 1)])) _
          exact retN X182 hx (t := .boolean) hret (by simp) (hb hby at_315) hr
        ·
          show Q0 n0 _ T182.heap _
          rw [e184]
          exact ⟨rfl, N182⟩
      ·
        have pre185 : ∀ t, Steps p.tables e below (T22.setTop (mkF m 85 #[.val (.long q1), .second, .val (.long q2), .second, .val (.long q3), .second, .val (.long q4), .second, .val (.int p5), .val (.ref b1), .val (.ref b8), .val (.ref b15), .val (.ref b23), .val (.int (p5 &&& (3 : Int32))), .val (.int 0), .val (.int 1), .unset, .unset, .unset, .unset] [(.int 1), (.int (p5 &&& (3 : Int32)))])) t → Steps p.tables e below (s₁.setTop (entryFrame m #[(.long q1), (.long q2), (.long q3), (.long q4), (.int p5)] maxLocals)) t := fun t k => by
          refine pre166 _ ?_
          show Steps p.tables e below (T22.setTop (mkF m 79 #[.val (.long q1), .second, .val (.long q2), .second, .val (.long q3), .second, .val (.long q4), .second, .val (.int p5), .val (.ref b1), .val (.ref b8), .val (.ref b15), .val (.ref b23), .val (.int (p5 &&& (3 : Int32))), .val (.int 0), .val (.int 1), .unset, .unset, .unset, .unset] [(.int 1), (.int (p5 &&& (3 : Int32)))])) _
          refine XS.icmpNo X22.here hx rfl (hb hby at_79) rfl (flt hc167).1 ?_
          refine XS.iload X22.here hx rfl (hb hby at_82) rfl ?_
          refine XS.iconst X22.here hx rfl (hb hby at_84) ?_
          exact k
        by_cases hc186 : (p5 &&& (3 : Int32)) = (1 : Int32)
        ·
          have pre187 : ∀ t, Steps p.tables e below (T22.setTop (mkF m 85 #[.val (.long q1), .second, .val (.long q2), .second, .val (.long q3), .second, .val (.long q4), .second, .val (.int p5), .val (.ref b1), .val (.ref b8), .val (.ref b15), .val (.ref b23), .val (.int 1), .val (.int 0), .val (.int 1), .unset, .unset, .unset, .unset] [(.int 1), (.int 1)])) t → Steps p.tables e below (s₁.setTop (entryFrame m #[(.long q1), (.long q2), (.long q3), (.long q4), (.int p5)] maxLocals)) t := fun t k => pre185 t (by rw [hc186]; exact k)
          have lt188 : b1 < T2.heap.size := (Nat.lt_of_lt_of_le A1.lt K4.1)
          have ne189 : b1 ≠ b8 := Nat.ne_of_lt (Nat.lt_of_lt_of_le lt188 sz_b8)
          have f190 := (((((f5.ext E8).keep K11).ext E15).keep K18).keep K25)
          have lt191 : b1 < T9.heap.size := (Nat.lt_of_lt_of_le (Nat.lt_of_lt_of_le (Nat.lt_of_lt_of_le A1.lt K4.1) E8.1) K11.1)
          have ne192 : b1 ≠ b15 := Nat.ne_of_lt (Nat.lt_of_lt_of_le lt191 sz_b15)
          have f193 := (((((f6.ext E8).keep K11 (ninS ne189 nin0)).ext E15).keep K18 (ninS ne192 nin0)).keep K25 nin0)
          have f194 := (((((f7.ext E8).keep K11 (ninS ne189 nin0)).ext E15).keep K18 (ninS ne192 nin0)).keep K25 nin0)
          have f195 := (((f12.ext E15).keep K18).keep K25)
          have lt196 : b8 < T9.heap.size := (Nat.lt_of_lt_of_le A8.lt K11.1)
          have ne197 : b8 ≠ b15 := Nat.ne_of_lt (Nat.lt_of_lt_of_le lt196 sz_b15)
          have f198 := (((f13.ext E15).keep K18 (ninS ne197 nin0)).keep K25 nin0)
          obtain ⟨_, T199, L199, X199, hQ199, st199⟩ := own_vb X22 hx hZ hown (y := yn5) (own_w hw 25 rfl) (own_w hw 26 rfl) (own_w hw 28 rfl) (own_w hw 27 rfl) (own_w hw 29 rfl) (own_w hw 2 rfl) rfl f190 (argsL := [(.ref b8)]) (rest := []) (rm5 l Z a0 hw [] b1 b8 q1 T22.heap n0 O22 g_b1 g_b8 (Ne.symm ne189) f190 f193 f194 f195 f198) (g := (mkF m 107 #[.val (.long q1), .second, .val (.long q2), .second, .val (.long q3), .second, .val (.long q4), .second, .val (.int p5), .val (.ref b1), .val (.ref b8), .val (.ref b15), .val (.ref b23), .val (.int 1), .val (.int 0), .val (.int 1), .unset, .unset, .unset, .unset] [(.ref b8), (.ref b1)])) rfl (by rw [hml]; rfl) rfl (hb hby at_107) (lenOf pd4 rfl) (W := 0) (c1 := 4) (s1 := 8)
          obtain ⟨rfl, Nq200, K201, f202, f203, f204⟩ := hQ199
          have N199 := Fr.app N22 Nq200
          have M199 : h0.size ≤ T199.heap.size := Nat.le_trans M22 K201.1
          have O199 := Old.keep O22 K201 (allS g_b1 all0)
          obtain ⟨_, T205, L205, X205, hQ205, st205⟩ := own_vb X199 hx hZ hown (y := yn6) (own_w hw 54 rfl) (own_w hw 55 rfl) (own_w hw 57 rfl) (own_w hw 56 rfl) (own_w hw 58 rfl) (own_w hw 2 rfl) rfl f202 (argsL := []) (rest := []) (rm10 l Z a0 hw [] b1 b8 q1 T199.heap n0 O199 g_b1 g_b8 f202 f203 f204) (g := (mkF m 259 #[.val (.long q1), .second, .val (.long q2), .second, .val (.long q3), .second, .val (.long q4), .second, .val (.int p5), .val (.ref b1), .val (.ref b8), .val (.ref b15), .val (.ref b23), .val (.int 1), .val (.int 0), .val (.int 1), .val (.ref b8), .unset, .unset, .unset] [(.ref b1)])) rfl (by rw [hml]; rfl) rfl (hb hby at_259) (lenOf pd5 rfl) (W := 0) (c1 := 4) (s1 := 8)
          obtain ⟨rfl, Nq206, K207, f208, f209, f210⟩ := hQ205
          have N205 := Fr.app N199 Nq206
          have M205 : h0.size ≤ T205.heap.size := Nat.le_trans M199 K207.1
          have O205 := Old.keep O199 K207 (allS g_b1 all0)
          obtain ⟨_, T211, L211, X211, hQ211, st211⟩ := own_vb X205 hx hZ hown (y := yn3) (own_w hw 48 rfl) (own_w hw 49 rfl) (own_w hw 50 rfl) (own_w hw 36 rfl) (own_w hw 40 rfl) (own_w hw 2 rfl) rfl f208 (argsL := []) (rest := []) (rm4 l Z a0 hw [] b1 T205.heap n0 O205 g_b1 f208 f209) (g := (mkF m 268 #[.val (.long q1), .second, .val (.long q2), .second, .val (.long q3), .second, .val (.long q4), .second, .val (.int p5), .val (.ref b1), .val (.ref b8), .val (.ref b15), .val (.ref b23), .val (.int 1), .val (.int 0), .val (.int 1), .val (.ref b1), .unset, .unset, .unset] [(.ref b1)])) rfl (by rw [hml]; rfl) rfl (hb hby at_268) (lenOf pd3 rfl) (W := 0) (c1 := 4) (s1 := 8)
          obtain ⟨rfl, Nq212, e213⟩ := hQ211
          have N211 := Fr.app N205 Nq212
          obtain ⟨_, T214, L214, X214, hQ214, st214⟩ := own_vb X211 hx hZ hown (y := yn3) (own_w hw 48 rfl) (own_w hw 49 rfl) (own_w hw 50 rfl) (own_w hw 36 rfl) (own_w hw 40 rfl) (own_w hw 2 rfl) e213 f208 (argsL := []) (rest := []) (rm4 l Z a0 hw [] b1 T205.heap n0 O205 g_b1 f208 f209) (g := (mkF m 275 #[.val (.long q1), .second, .val (.long q2), .second, .val (.long q3), .second, .val (.long q4), .second, .val (.int p5), .val (.ref b1), .val (.ref b8), .val (.ref b15), .val (.ref b23), .val (.int 1), .val (.int 0), .val (.int 1), .val (.ref b1), .val (.ref b1), .unset, .unset] [(.ref b1)])) rfl (by rw [hml]; rfl) rfl (hb hby at_275) (lenOf pd3 rfl) (W := 0) (c1 := 4) (s1 := 8)
          obtain ⟨rfl, Nq215, e216⟩ := hQ214
          have N214 := Fr.app N211 Nq215
          obtain ⟨_, T217, L217, X217, hQ217, st217⟩ := own_ib X214 hx hZ hown (z := yn4) (y := yn3) (own_w hw 53 rfl) (own_w hw 33 rfl) (mvT hZ (own_w hw 34 rfl)) (own_w hw 35 rfl) (own_w hw 36 rfl) (own_w hw 37 rfl) (mvT hZ (own_w hw 38 rfl)) (own_w hw 39 rfl) (own_w hw 40 rfl) (own_w hw 2 rfl) e216 f208 (argsL := []) (rest := []) (rm4 l Z a0 hw [] b1 T205.heap n0 O205 g_b1 f208 f209) (g := (mkF m 282 #[.val (.long q1), .second, .val (.long q2), .second, .val (.long q3), .second, .val (.long q4), .second, .val (.int p5), .val (.ref b1), .val (.ref b8), .val (.ref b15), .val (.ref b23), .val (.int 1), .val (.int 0), .val (.int 1), .val (.ref b1), .val (.ref b1), .val (.ref b1), .unset] [(.ref b1)])) rfl (by rw [hml]; rfl) rfl (hb hby at_282) (lenOf pd3 rfl) (W := 0) (c1 := 4) (s1 := 8)
          obtain ⟨rfl, Nq218, e219⟩ := hQ217
          have N217 := Fr.app N214 Nq218
          obtain ⟨fs, hr, hrun, hended, hW, hsame⟩ := X217.leave (v := some (.int 1)) (fun h => by rw [hret] at h; cases h)
          refine ⟨_, _, pre187 _ ?_, hrun, hended, _, _, rfl, ?_, ⟨_, rfl⟩, hW, hsame.mono (by decide) (by decide)⟩
          ·
            show Steps p.tables e below (T22.setTop (mkF m 85 #[.val (.long q1), .second, .val (.long q2), .second, .val (.long q3), .second, .val (.long q4), .second, .val (.int p5), .val (.ref b1), .val (.ref b8), .val (.ref b15), .val (.ref b23), .val (.int 1), .val (.int 0), .val (.int 1), .unset, .unset, .unset, .unset] [(.int 1), (.int 1)])) _
            refine XS.icmpNo X22.here hx rfl (hb hby at_85) rfl (teq (by decide : (1 : Int32) = (1 : Int32))).2 ?_
            refine XS.iload X22.here hx rfl (hb hby at_88) rfl ?_
            refine XS.ifYes X22.here hx rfl (pc0 := 90) (pc' := 103) rfl (hb hby at_90) rfl ((if0 _ _).trans (teq (by decide : (0 : Int32) = (0 : Int32))).1) (by decide) (by decide) ?_
            refine XS.aload X22.here hx rfl (hb hby at_103) rfl rfl ?_
            refine XS.aload X22.here hx rfl (hb hby at_105) rfl rfl ?_
            refine st199 _ ?_
            refine XS.iload X199.here hx rfl (hb hby at_110) rfl ?_
            refine XS.iconst X199.here hx rfl (hb hby at_112) ?_
            refine XS.icmpYes X199.here hx rfl (pc0 := 113) (pc' := 144) rfl (hb hby at_113) rfl (tlt (by decide : (1 : Int32) < (2 : Int32))).1 (by decide) (by decide) ?_
            refine XS.iload X199.here hx rfl (hb hby at_144) rfl ?_
            refine XS.iconst X199.here hx rfl (hb hby at_146) ?_
            refine XS.icmpYes X199.here hx rfl (pc0 := 147) (pc' := 157) rfl (hb hby at_147) rfl (tlt (by decide : (1 : Int32) < (3 : Int32))).1 (by decide) (by decide) ?_
            refine XS.iload X199.here hx rfl (hb hby at_157) rfl ?_
            refine XS.ifYes X199.here hx rfl (pc0 := 159) (pc' := 169) rfl (hb hby at_159) rfl ((if0 _ _).trans (feq (by decide : ¬ ((1 : Int32) = (0 : Int32)))).2) (by decide) (by decide) ?_
            refine XS.iload X199.here hx rfl (hb hby at_169) rfl ?_
            refine XS.iconst X199.here hx rfl (hb hby at_171) ?_
            refine XS.icmpNo X199.here hx rfl (hb hby at_172) rfl (teq (by decide : (1 : Int32) = (1 : Int32))).2 ?_
            refine XS.iload X199.here hx rfl (hb hby at_175) rfl ?_
            refine XS.ifYes X199.here hx rfl (pc0 := 177) (pc' := 187) rfl (hb hby at_177) rfl ((if0 _ _).trans (teq (by decide : (0 : Int32) = (0 : Int32))).1) (by decide) (by decide) ?_
            refine XS.aload X199.here hx rfl (hb hby at_187) rfl rfl ?_
            refine XS.astore X199.here hx rfl (hb hby at_189) rfl rfl (l' := #[.val (.long q1), .second, .val (.long q2), .second, .val (.long q3), .second, .val (.long q4), .second, .val (.int p5), .val (.ref b1), .val (.ref b8), .val (.ref b15), .val (.ref b23), .val (.int 1), .val (.int 0), .val (.int 1), .val (.ref b8), .unset, .unset, .unset]) rfl ?_
            refine XS.goto X199.here hx rfl (pc0 := 191) (pc' := 223) rfl (hb hby at_191) (by decide) (by decide) ?_
            refine XS.iload X199.here hx rfl (hb hby at_223) rfl ?_
            refine XS.ifNo X199.here hx rfl (hb hby at_225) rfl ((if0 _ _).trans (feq (by decide : ¬ ((1 : Int32) = (0 : Int32)))).1) ?_
            refine XS.iload X199.here hx rfl (hb hby at_228) rfl ?_
            refine XS.iconst X199.here hx rfl (hb hby at_230) ?_
            refine XS.icmpYes X199.here hx rfl (pc0 := 231) (pc' := 246) rfl (hb hby at_231) rfl (tlt (by decide : (1 : Int32) < (2 : Int32))).1 (by decide) (by decide) ?_
            refine XS.iload X199.here hx rfl (hb hby at_246) rfl ?_
            refine XS.ifNo X199.here hx rfl (hb hby at_248) rfl ((if0 _ _).trans (feq (by decide : ¬ ((1 : Int32) = (0 : Int32)))).1) ?_
            refine XS.iload X199.here hx rfl (hb hby at_251) rfl ?_
            refine XS.iconst X199.here hx rfl (hb hby at_253) ?_
            refine XS.icmpNo X199.here hx rfl (hb hby at_254) rfl (teq (by decide : (1 : Int32) = (1 : Int32))).2 ?_
            refine XS.aload X199.here hx rfl (hb hby at_257) rfl rfl ?_
            refine st205 _ ?_
            refine XS.aload X205.here hx rfl (hb hby at_262) rfl rfl ?_
            refine XS.astore X205.here hx rfl (hb hby at_264) rfl rfl (l' := #[.val (.long q1), .second, .val (.long q2), .second, .val (.long q3), .second, .val (.long q4), .second, .val (.int p5), .val (.ref b1), .val (.ref b8), .val (.ref b15), .val (.ref b23), .val (.int 1), .val (.int 0), .val (.int 1), .val (.ref b1), .unset, .unset, .unset]) rfl ?_
            show Steps p.tables e below (T205.setTop (mkF m 266 #[.val (.long q1), .second, .val (.long q2), .second, .val (.long q3), .second, .val (.long q4), .second, .val (.int p5), .val (.ref b1), .val (.ref b8), .val (.ref b15), .val (.ref b23), .val (.int 1), .val (.int 0), .val (.int 1), .val (.ref b1), .unset, .unset, .unset] [])) _
            refine XS.aload X205.here hx rfl (hb hby at_266) rfl rfl ?_
            refine st211 _ ?_
            refine XS.astore X211.here hx rfl (hb hby at_271) rfl rfl (l' := #[.val (.long q1), .second, .val (.long q2), .second, .val (.long q3), .second, .val (.long q4), .second, .val (.int p5), .val (.ref b1), .val (.ref b8), .val (.ref b15), .val (.ref b23), .val (.int 1), .val (.int 0), .val (.int 1), .val (.ref b1), .val (.ref b1), .unset, .unset]) rfl ?_
            refine XS.aload X211.here hx rfl (hb hby at_273) rfl rfl ?_
            refine st214 _ ?_
            refine XS.astore X214.here hx rfl (hb hby at_278) rfl rfl (l' := #[.val (.long q1), .second, .val (.long q2), .second, .val (.long q3), .second, .val (.long q4), .second, .val (.int p5), .val (.ref b1), .val (.ref b8), .val (.ref b15), .val (.ref b23), .val (.int 1), .val (.int 0), .val (.int 1), .val (.ref b1), .val (.ref b1), .val (.ref b1), .unset]) rfl ?_
            refine XS.aload X214.here hx rfl (hb hby at_280) rfl rfl ?_
            refine st217 _ ?_
            refine XS.astore X217.here hx rfl (hb hby at_287) rfl rfl (l' := #[.val (.long q1), .second, .val (.long q2), .second, .val (.long q3), .second, .val (.long q4), .second, .val (.int p5), .val (.ref b1), .val (.ref b8), .val (.ref b15), .val (.ref b23), .val (.int 1), .val (.int 0), .val (.int 1), .val (.ref b1), .val (.ref b1), .val (.ref b1), .val (.ref b1)]) rfl ?_
            refine XS.aload X217.here hx rfl (hb hby at_289) rfl rfl ?_
            refine XS.aload X217.here hx rfl (hb hby at_291) rfl rfl ?_
            refine Jvm.RoadKit.acmp (g := (mkF m 293 #[.val (.long q1), .second, .val (.long q2), .second, .val (.long q3), .second, .val (.long q4), .second, .val (.int p5), .val (.ref b1), .val (.ref b8), .val (.ref b15), .val (.ref b23), .val (.int 1), .val (.int 0), .val (.int 1), .val (.ref b1), .val (.ref b1), .val (.ref b1), .val (.ref b1)] [(.ref b1), (.ref b1)])) X217 hx rfl rfl rfl (pc0 := 293) (pc' := 296) (same := true) rfl (hb hby at_293) rfl (decide_eq_true rfl) (by decide) (by decide) ?_
            refine XS.aload X217.here hx rfl (hb hby at_296) rfl rfl ?_
            refine XS.aload X217.here hx rfl (hb hby at_298) rfl rfl ?_
            refine Jvm.RoadKit.acmp (g := (mkF m 300 #[.val (.long q1), .second, .val (.long q2), .second, .val (.long q3), .second, .val (.long q4), .second, .val (.int p5), .val (.ref b1), .val (.ref b8), .val (.ref b15), .val (.ref b23), .val (.int 1), .val (.int 0), .val (.int 1), .val (.ref b1), .val (.ref b1), .val (.ref b1), .val (.ref b1)] [(.ref b1), (.ref b1)])) X217 hx rfl rfl rfl (pc0 := 300) (pc' := 303) (same := true) rfl (hb hby at_300) rfl (decide_eq_true rfl) (by decide) (by decide) ?_
            refine XS.aload X217.here hx rfl (hb hby at_303) rfl rfl ?_
            refine XS.aload X217.here hx rfl (hb hby at_305) rfl rfl ?_
            refine Jvm.RoadKit.acmp (g := (mkF m 307 #[.val (.long q1), .second, .val (.long q2), .second, .val (.long q3), .second, .val (.long q4), .second, .val (.int p5), .val (.ref b1), .val (.ref b8), .val (.ref b15), .val (.ref b23), .val (.int 1), .val (.int 0), .val (.int 1), .val (.ref b1), .val (.ref b1), .val (.ref b1), .val (.ref b1)] [(.ref b1), (.ref b1)])) X217 hx rfl rfl rfl (pc0 := 307) (pc' := 310) (same := true) rfl (hb hby at_307) rfl (decide_eq_true rfl) (by decide) (by decide) ?_
            refine XS.iconst X217.here hx rfl (hb hby at_310) ?_
            refine XS.goto X217.here hx rfl (pc0 := 311) (pc' := 315) rfl (hb hby at_311) (by decide) (by decide) ?_
            show Steps p.tables e below (T217.setTop (mkF m 315 #[.val (.long q1), .second, .val (.long q2), .second, .val (.long q3), .second, .val (.long q4), .second, .val (.int p5), .val (.ref b1), .val (.ref b8), .val (.ref b15), .val (.ref b23), .val (.int 1), .val (.int 0), .val (.int 1), .val (.ref b1), .val (.ref b1), .val (.ref b1), .val (.ref b1)] [(.int 1)])) _
            exact retN X217 hx (t := .boolean) hret (by simp) (hb hby at_315) hr
          ·
            show Q0 n0 _ T217.heap _
            rw [e219]
            exact ⟨rfl, N217⟩
        ·
          have lt220 : b1 < T2.heap.size := (Nat.lt_of_lt_of_le A1.lt K4.1)
          have ne221 : b1 ≠ b8 := Nat.ne_of_lt (Nat.lt_of_lt_of_le lt220 sz_b8)
          have f222 := (((((f5.ext E8).keep K11).ext E15).keep K18).keep K25)
          have lt223 : b1 < T9.heap.size := (Nat.lt_of_lt_of_le (Nat.lt_of_lt_of_le (Nat.lt_of_lt_of_le A1.lt K4.1) E8.1) K11.1)
          have ne224 : b1 ≠ b15 := Nat.ne_of_lt (Nat.lt_of_lt_of_le lt223 sz_b15)
          have f225 := (((((f6.ext E8).keep K11 (ninS ne221 nin0)).ext E15).keep K18 (ninS ne224 nin0)).keep K25 nin0)
          have f226 := (((((f7.ext E8).keep K11 (ninS ne221 nin0)).ext E15).keep K18 (ninS ne224 nin0)).keep K25 nin0)
          have f227 := (((f12.ext E15).keep K18).keep K25)
          have lt228 : b8 < T9.heap.size := (Nat.lt_of_lt_of_le A8.lt K11.1)
          have ne229 : b8 ≠ b15 := Nat.ne_of_lt (Nat.lt_of_lt_of_le lt228 sz_b15)
          have f230 := (((f13.ext E15).keep K18 (ninS ne229 nin0)).keep K25 nin0)
          obtain ⟨_, T231, L231, X231, hQ231, st231⟩ := own_vb X22 hx hZ hown (y := yn5) (own_w hw 25 rfl) (own_w hw 26 rfl) (own_w hw 28 rfl) (own_w hw 27 rfl) (own_w hw 29 rfl) (own_w hw 2 rfl) rfl f222 (argsL := [(.ref b8)]) (rest := []) (rm5 l Z a0 hw [] b1 b8 q1 T22.heap n0 O22 g_b1 g_b8 (Ne.symm ne221) f222 f225 f226 f227 f230) (g := (mkF m 107 #[.val (.long q1), .second, .val (.long q2), .second, .val (.long q3), .second, .val (.long q4), .second, .val (.int p5), .val (.ref b1), .val (.ref b8), .val (.ref b15), .val (.ref b23), .val (.int (p5 &&& (3 : Int32))), .val (.int 0), .val (.int 1), .unset, .unset, .unset, .unset] [(.ref b8), (.ref b1)])) rfl (by rw [hml]; rfl) rfl (hb hby at_107) (lenOf pd4 rfl) (W := 0) (c1 := 4) (s1 := 8)
          obtain ⟨rfl, Nq232, K233, f234, f235, f236⟩ := hQ231
          have N231 := Fr.app N22 Nq232
          have M231 : h0.size ≤ T231.heap.size := Nat.le_trans M22 K233.1
          have O231 := Old.keep O22 K233 (allS g_b1 all0)
          have pre237 : ∀ t, Steps p.tables e below (T231.setTop (mkF m 119 #[.val (.long q1), .second, .val (.long q2), .second, .val (.long q3), .second, .val (.long q4), .second, .val (.int p5), .val (.ref b1), .val (.ref b8), .val (.ref b15), .val (.ref b23), .val (.int (p5 &&& (3 : Int32))), .val (.int 0), .val (.int 1), .unset, .unset, .unset, .unset] [(.int 2), (.int (p5 &&& (3 : Int32)))])) t → Steps p.tables e below (s₁.setTop (entryFrame m #[(.long q1), (.long q2), (.long q3), (.long q4), (.int p5)] maxLocals)) t := fun t k => by
            refine pre185 _ ?_
            show Steps p.tables e below (T22.setTop (mkF m 85 #[.val (.long q1), .second, .val (.long q2), .second, .val (.long q3), .second, .val (.long q4), .second, .val (.int p5), .val (.ref b1), .val (.ref b8), .val (.ref b15), .val (.ref b23), .val (.int (p5 &&& (3 : Int32))), .val (.int 0), .val (.int 1), .unset, .unset, .unset, .unset] [(.int 1), (.int (p5 &&& (3 : Int32)))])) _
            refine XS.icmpYes X22.here hx rfl (pc0 := 85) (pc' := 103) rfl (hb hby at_85) rfl (feq hc186).2 (by decide) (by decide) ?_
            refine XS.aload X22.here hx rfl (hb hby at_103) rfl rfl ?_
            refine XS.aload X22.here hx rfl (hb hby at_105) rfl rfl ?_
            refine st231 _ ?_
            refine XS.iload X231.here hx rfl (hb hby at_110) rfl ?_
            refine XS.iconst X231.here hx rfl (hb hby at_112) ?_
            refine XS.icmpNo X231.here hx rfl (hb hby at_113) rfl (flt (own_gnlt1 (n := 2) (k := (2 : Int32)) (by decide) (by have q0 := own_and (x := p5) (k := (3 : Int32)) (n := 3) (by decide) (by decide); have q1 := own_nlt1 (n := 1) (k := (1 : Int32)) (by decide) hc167; have q2 := own_neq (n := 1) (k := (1 : Int32)) (by decide) hc186; omega))).1 ?_
            refine XS.iload X231.here hx rfl (hb hby at_116) rfl ?_
            refine XS.iconst X231.here hx rfl (hb hby at_118) ?_
            exact k
          by_cases hc238 : (p5 &&& (3 : Int32)) = (2 : Int32)
          ·
            have pre239 : ∀ t, Steps p.tables e below (T231.setTop (mkF m 119 #[.val (.long q1), .second, .val (.long q2), .second, .val (.long q3), .second, .val (.long q4), .second, .val (.int p5), .val (.ref b1), .val (.ref b8), .val (.ref b15), .val (.ref b23), .val (.int 2), .val (.int 0), .val (.int 1), .unset, .unset, .unset, .unset] [(.int 2), (.int 2)])) t → Steps p.tables e below (s₁.setTop (entryFrame m #[(.long q1), (.long q2), (.long q3), (.long q4), (.int p5)] maxLocals)) t := fun t k => pre237 t (by rw [hc238]; exact k)
            have f240 := (f227.keep K233)
            have f241 := (f230.keep K233 (ninS (Ne.symm ne221) nin0))
            have f242 := ((((f14.ext E15).keep K18 (ninS ne229 nin0)).keep K25 nin0).keep K233 (ninS (Ne.symm ne221) nin0))
            have f243 := ((f19.keep K25).keep K233)
            have f244 := ((f20.keep K25 nin0).keep K233 (ninS (Ne.symm ne224) nin0))
            obtain ⟨_, T245, L245, X245, hQ245, st245⟩ := own_vb X231 hx hZ hown (y := yn5) (own_w hw 25 rfl) (own_w hw 26 rfl) (own_w hw 28 rfl) (own_w hw 27 rfl) (own_w hw 29 rfl) (own_w hw 2 rfl) rfl f240 (argsL := [(.ref b15)]) (rest := []) (rm5 l Z a0 hw [] b8 b15 q2 T231.heap n0 O231 g_b8 g_b15 (Ne.symm ne229) f240 f241 f242 f243 f244) (g := (mkF m 141 #[.val (.long q1), .second, .val (.long q2), .second, .val (.long q3), .second, .val (.long q4), .second, .val (.int p5), .val (.ref b1), .val (.ref b8), .val (.ref b15), .val (.ref b23), .val (.int 2), .val (.int 0), .val (.int 1), .unset, .unset, .unset, .unset] [(.ref b15), (.ref b8)])) rfl (by rw [hml]; rfl) rfl (hb hby at_141) (lenOf pd4 rfl) (W := 0) (c1 := 4) (s1 := 8)
            obtain ⟨rfl, Nq246, K247, f248, f249, f250⟩ := hQ245
            have N245 := Fr.app N231 Nq246
            have M245 : h0.size ≤ T245.heap.size := Nat.le_trans M231 K247.1
            have O245 := Old.keep O231 K247 (allS g_b8 all0)
            obtain ⟨_, T251, L251, X251, hQ251, st251⟩ := own_vb X245 hx hZ hown (y := yn6) (own_w hw 54 rfl) (own_w hw 55 rfl) (own_w hw 57 rfl) (own_w hw 56 rfl) (own_w hw 58 rfl) (own_w hw 2 rfl) rfl f248 (argsL := []) (rest := []) (rm10 l Z a0 hw [] b8 b15 q2 T245.heap n0 O245 g_b8 g_b15 f248 f249 f250) (g := (mkF m 236 #[.val (.long q1), .second, .val (.long q2), .second, .val (.long q3), .second, .val (.long q4), .second, .val (.int p5), .val (.ref b1), .val (.ref b8), .val (.ref b15), .val (.ref b23), .val (.int 2), .val (.int 0), .val (.int 1), .val (.ref b15), .unset, .unset, .unset] [(.ref b8)])) rfl (by rw [hml]; rfl) rfl (hb hby at_236) (lenOf pd5 rfl) (W := 0) (c1 := 4) (s1 := 8)
            obtain ⟨rfl, Nq252, K253, f254, f255, f256⟩ := hQ251
            have N251 := Fr.app N245 Nq252
            have M251 : h0.size ≤ T251.heap.size := Nat.le_trans M245 K253.1
            have O251 := Old.keep O245 K253 (allS g_b8 all0)
            have f257 := ((f234.keep K247).keep K253)
            have f258 := ((f235.keep K247 (ninS ne221 nin0)).keep K253 (ninS ne221 nin0))
            obtain ⟨_, T259, L259, X259, hQ259, st259⟩ := own_vb X251 hx hZ hown (y := yn3) (own_w hw 48 rfl) (own_w hw 49 rfl) (own_w hw 50 rfl) (own_w hw 36 rfl) (own_w hw 40 rfl) (own_w hw 2 rfl) rfl f257 (argsL := []) (rest := []) (rm6 l Z a0 hw [] b1 b8 T251.heap n0 O251 g_b1 g_b8 f257 f258 f254 f255) (g := (mkF m 268 #[.val (.long q1), .second, .val (.long q2), .second, .val (.long q3), .second, .val (.long q4), .second, .val (.int p5), .val (.ref b1), .val (.ref b8), .val (.ref b15), .val (.ref b23), .val (.int 2), .val (.int 0), .val (.int 1), .val (.ref b8), .unset, .unset, .unset] [(.ref b1)])) rfl (by rw [hml]; rfl) rfl (hb hby at_268) (lenOf pd3 rfl) (W := 0) (c1 := 4) (s1 := 8)
            obtain ⟨rfl, Nq260, e261⟩ := hQ259
            have N259 := Fr.app N251 Nq260
            obtain ⟨_, T262, L262, X262, hQ262, st262⟩ := own_vb X259 hx hZ hown (y := yn3) (own_w hw 48 rfl) (own_w hw 49 rfl) (own_w hw 50 rfl) (own_w hw 36 rfl) (own_w hw 40 rfl) (own_w hw 2 rfl) e261 f257 (argsL := []) (rest := []) (rm6 l Z a0 hw [] b1 b8 T251.heap n0 O251 g_b1 g_b8 f257 f258 f254 f255) (g := (mkF m 275 #[.val (.long q1), .second, .val (.long q2), .second, .val (.long q3), .second, .val (.long q4), .second, .val (.int p5), .val (.ref b1), .val (.ref b8), .val (.ref b15), .val (.ref b23), .val (.int 2), .val (.int 0), .val (.int 1), .val (.ref b8), .val (.ref b8), .unset, .unset] [(.ref b1)])) rfl (by rw [hml]; rfl) rfl (hb hby at_275) (lenOf pd3 rfl) (W := 0) (c1 := 4) (s1 := 8)
            obtain ⟨rfl, Nq263, e264⟩ := hQ262
            have N262 := Fr.app N259 Nq263
            obtain ⟨_, T265, L265, X265, hQ265, st265⟩ := own_ib X262 hx hZ hown (z := yn4) (y := yn3) (own_w hw 53 rfl) (own_w hw 33 rfl) (mvT hZ (own_w hw 34 rfl)) (own_w hw 35 rfl) (own_w hw 36 rfl) (own_w hw 37 rfl) (mvT hZ (own_w hw 38 rfl)) (own_w hw 39 rfl) (own_w hw 40 rfl) (own_w hw 2 rfl) e264 f254 (argsL := []) (rest := []) (rm4 l Z a0 hw [] b8 T251.heap n0 O251 g_b8 f254 f255) (g := (mkF m 282 #[.val (.long q1), .second, .val (.long q2), .second, .val (.long q3), .second, .val (.long q4), .second, .val (.int p5), .val (.ref b1), .val (.ref b8), .val (.ref b15), .val (.ref b23), .val (.int 2), .val (.int 0), .val (.int 1), .val (.ref b8), .val (.ref b8), .val (.ref b8), .unset] [(.ref b8)])) rfl (by rw [hml]; rfl) rfl (hb hby at_282) (lenOf pd3 rfl) (W := 0) (c1 := 4) (s1 := 8)
            obtain ⟨rfl, Nq266, e267⟩ := hQ265
            have N265 := Fr.app N262 Nq266
            obtain ⟨fs, hr, hrun, hended, hW, hsame⟩ := X265.leave (v := some (.int 1)) (fun h => by rw [hret] at h; cases h)
            refine ⟨_, _, pre239 _ ?_, hrun, hended, _, _, rfl, ?_, ⟨_, rfl⟩, hW, hsame.mono (by decide) (by decide)⟩
            ·
              show Steps p.tables e below (T231.setTop (mkF m 119 #[.val (.long q1), .second, .val (.long q2), .second, .val (.long q3), .second, .val (.long q4), .second, .val (.int p5), .val (.ref b1), .val (.ref b8), .val (.ref b15), .val (.ref b23), .val (.int 2), .val (.int 0), .val (.int 1), .unset, .unset, .unset, .unset] [(.int 2), (.int 2)])) _
              refine XS.icmpNo X231.here hx rfl (hb hby at_119) rfl (teq (by decide : (2 : Int32) = (2 : Int32))).2 ?_
              refine XS.iload X231.here hx rfl (hb hby at_122) rfl ?_
              refine XS.ifYes X231.here hx rfl (pc0 := 124) (pc' := 137) rfl (hb hby at_124) rfl ((if0 _ _).trans (teq (by decide : (0 : Int32) = (0 : Int32))).1) (by decide) (by decide) ?_
              refine XS.aload X231.here hx rfl (hb hby at_137) rfl rfl ?_
              refine XS.aload X231.here hx rfl (hb hby at_139) rfl rfl ?_
              refine st245 _ ?_
              refine XS.iload X245.here hx rfl (hb hby at_144) rfl ?_
              refine XS.iconst X245.here hx rfl (hb hby at_146) ?_
              refine XS.icmpYes X245.here hx rfl (pc0 := 147) (pc' := 157) rfl (hb hby at_147) rfl (tlt (by decide : (2 : Int32) < (3 : Int32))).1 (by decide) (by decide) ?_
              refine XS.iload X245.here hx rfl (hb hby at_157) rfl ?_
              refine XS.ifYes X245.here hx rfl (pc0 := 159) (pc' := 169) rfl (hb hby at_159) rfl ((if0 _ _).trans (feq (by decide : ¬ ((2 : Int32) = (0 : Int32)))).2) (by decide) (by decide) ?_
              refine XS.iload X245.here hx rfl (hb hby at_169) rfl ?_
              refine XS.iconst X245.here hx rfl (hb hby at_171) ?_
              refine XS.icmpYes X245.here hx rfl (pc0 := 172) (pc' := 194) rfl (hb hby at_172) rfl (feq (by decide : ¬ ((2 : Int32) = (1 : Int32)))).2 (by decide) (by decide) ?_
              refine XS.iload X245.here hx rfl (hb hby at_194) rfl ?_
              refine XS.iconst X245.here hx rfl (hb hby at_196) ?_
              refine XS.icmpNo X245.here hx rfl (hb hby at_197) rfl (teq (by decide : (2 : Int32) = (2 : Int32))).2 ?_
              refine XS.iload X245.here hx rfl (hb hby at_200) rfl ?_
              refine XS.ifYes X245.here hx rfl (pc0 := 202) (pc' := 212) rfl (hb hby at_202) rfl ((if0 _ _).trans (teq (by decide : (0 : Int32) = (0 : Int32))).1) (by decide) (by decide) ?_
              refine XS.aload X245.here hx rfl (hb hby at_212) rfl rfl ?_
              refine XS.astore X245.here hx rfl (hb hby at_214) rfl rfl (l' := #[.val (.long q1), .second, .val (.long q2), .second, .val (.long q3), .second, .val (.long q4), .second, .val (.int p5), .val (.ref b1), .val (.ref b8), .val (.ref b15), .val (.ref b23), .val (.int 2), .val (.int 0), .val (.int 1), .val (.ref b15), .unset, .unset, .unset]) rfl ?_
              refine XS.goto X245.here hx rfl (pc0 := 216) (pc' := 223) rfl (hb hby at_216) (by decide) (by decide) ?_
              refine XS.iload X245.here hx rfl (hb hby at_223) rfl ?_
              refine XS.ifNo X245.here hx rfl (hb hby at_225) rfl ((if0 _ _).trans (feq (by decide : ¬ ((1 : Int32) = (0 : Int32)))).1) ?_
              refine XS.iload X245.here hx rfl (hb hby at_228) rfl ?_
              refine XS.iconst X245.here hx rfl (hb hby at_230) ?_
              refine XS.icmpNo X245.here hx rfl (hb hby at_231) rfl (flt (by decide : ¬ ((2 : Int32) < (2 : Int32)))).1 ?_
              show Steps p.tables e below (T245.setTop (mkF m 234 #[.val (.long q1), .second, .val (.long q2), .second, .val (.long q3), .second, .val (.long q4), .second, .val (.int p5), .val (.ref b1), .val (.ref b8), .val (.ref b15), .val (.ref b23), .val (.int 2), .val (.int 0), .val (.int 1), .val (.ref b15), .unset, .unset, .unset] [])) _
              refine XS.aload X245.here hx rfl (hb hby at_234) rfl rfl ?_
              refine st251 _ ?_
              refine XS.aload X251.here hx rfl (hb hby at_239) rfl rfl ?_
              refine XS.astore X251.here hx rfl (hb hby at_241) rfl rfl (l' := #[.val (.long q1), .second, .val (.long q2), .second, .val (.long q3), .second, .val (.long q4), .second, .val (.int p5), .val (.ref b1), .val (.ref b8), .val (.ref b15), .val (.ref b23), .val (.int 2), .val (.int 0), .val (.int 1), .val (.ref b8), .unset, .unset, .unset]) rfl ?_
              refine XS.goto X251.here hx rfl (pc0 := 243) (pc' := 266) rfl (hb hby at_243) (by decide) (by decide) ?_
              refine XS.aload X251.here hx rfl (hb hby at_266) rfl rfl ?_
              refine st259 _ ?_
              refine XS.astore X259.here hx rfl (hb hby at_271) rfl rfl (l' := #[.val (.long q1), .second, .val (.long q2), .second, .val (.long q3), .second, .val (.long q4), .second, .val (.int p5), .val (.ref b1), .val (.ref b8), .val (.ref b15), .val (.ref b23), .val (.int 2), .val (.int 0), .val (.int 1), .val (.ref b8), .val (.ref b8), .unset, .unset]) rfl ?_
              refine XS.aload X259.here hx rfl (hb hby at_273) rfl rfl ?_
              refine st262 _ ?_
              refine XS.astore X262.here hx rfl (hb hby at_278) rfl rfl (l' := #[.val (.long q1), .second, .val (.long q2), .second, .val (.long q3), .second, .val (.long q4), .second, .val (.int p5), .val (.ref b1), .val (.ref b8), .val (.ref b15), .val (.ref b23), .val (.int 2), .val (.int 0), .val (.int 1), .val (.ref b8), .val (.ref b8), .val (.ref b8), .unset]) rfl ?_
              refine XS.aload X262.here hx rfl (hb hby at_280) rfl rfl ?_
              refine st265 _ ?_
              refine XS.astore X265.here hx rfl (hb hby at_287) rfl rfl (l' := #[.val (.long q1), .second, .val (.long q2), .second, .val (.long q3), .second, .val (.long q4), .second, .val (.int p5), .val (.ref b1), .val (.ref b8), .val (.ref b15), .val (.ref b23), .val (.int 2), .val (.int 0), .val (.int 1), .val (.ref b8), .val (.ref b8), .val (.ref b8), .val (.ref b8)]) rfl ?_
              refine XS.aload X265.here hx rfl (hb hby at_289) rfl rfl ?_
              refine XS.aload X265.here hx rfl (hb hby at_291) rfl rfl ?_
              refine Jvm.RoadKit.acmp (g := (mkF m 293 #[.val (.long q1), .second, .val (.long q2), .second, .val (.long q3), .second, .val (.long q4), .second, .val (.int p5), .val (.ref b1), .val (.ref b8), .val (.ref b15), .val (.ref b23), .val (.int 2), .val (.int 0), .val (.int 1), .val (.ref b8), .val (.ref b8), .val (.ref b8), .val (.ref b8)] [(.ref b8), (.ref b8)])) X265 hx rfl rfl rfl (pc0 := 293) (pc' := 296) (same := true) rfl (hb hby at_293) rfl (decide_eq_true rfl) (by decide) (by decide) ?_
              refine XS.aload X265.here hx rfl (hb hby at_296) rfl rfl ?_
              refine XS.aload X265.here hx rfl (hb hby at_298) rfl rfl ?_
              refine Jvm.RoadKit.acmp (g := (mkF m 300 #[.val (.long q1), .second, .val (.long q2), .second, .val (.long q3), .second, .val (.long q4), .second, .val (.int p5), .val (.ref b1), .val (.ref b8), .val (.ref b15), .val (.ref b23), .val (.int 2), .val (.int 0), .val (.int 1), .val (.ref b8), .val (.ref b8), .val (.ref b8), .val (.ref b8)] [(.ref b8), (.ref b8)])) X265 hx rfl rfl rfl (pc0 := 300) (pc' := 303) (same := true) rfl (hb hby at_300) rfl (decide_eq_true rfl) (by decide) (by decide) ?_
              refine XS.aload X265.here hx rfl (hb hby at_303) rfl rfl ?_
              refine XS.aload X265.here hx rfl (hb hby at_305) rfl rfl ?_
              refine Jvm.RoadKit.acmp (g := (mkF m 307 #[.val (.long q1), .second, .val (.long q2), .second, .val (.long q3), .second, .val (.long q4), .second, .val (.int p5), .val (.ref b1), .val (.ref b8), .val (.ref b15), .val (.ref b23), .val (.int 2), .val (.int 0), .val (.int 1), .val (.ref b8), .val (.ref b8), .val (.ref b8), .val (.ref b8)] [(.ref b8), (.ref b8)])) X265 hx rfl rfl rfl (pc0 := 307) (pc' := 310) (same := true) rfl (hb hby at_307) rfl (decide_eq_true rfl) (by decide) (by decide) ?_
              refine XS.iconst X265.here hx rfl (hb hby at_310) ?_
              refine XS.goto X265.here hx rfl (pc0 := 311) (pc' := 315) rfl (hb hby at_311) (by decide) (by decide) ?_
              show Steps p.tables e below (T265.setTop (mkF m 315 #[.val (.long q1), .second, .val (.long q2), .second, .val (.long q3), .second, .val (.long q4), .second, .val (.int p5), .val (.ref b1), .val (.ref b8), .val (.ref b15), .val (.ref b23), .val (.int 2), .val (.int 0), .val (.int 1), .val (.ref b8), .val (.ref b8), .val (.ref b8), .val (.ref b8)] [(.int 1)])) _
              exact retN X265 hx (t := .boolean) hret (by simp) (hb hby at_315) hr
            ·
              show Q0 n0 _ T265.heap _
              rw [e267]
              exact ⟨rfl, N265⟩
          ·
            have hq268 : (p5 &&& (3 : Int32)) = (3 : Int32) := (own_geq (n := 3) (k := (3 : Int32)) (by decide) (by have q0 := own_and (x := p5) (k := (3 : Int32)) (n := 3) (by decide) (by decide); have q1 := own_nlt1 (n := 1) (k := (1 : Int32)) (by decide) hc167; have q2 := own_neq (n := 1) (k := (1 : Int32)) (by decide) hc186; have q3 := own_neq (n := 2) (k := (2 : Int32)) (by decide) hc238; omega))
            have pre269 : ∀ t, Steps p.tables e below (T231.setTop (mkF m 119 #[.val (.long q1), .second, .val (.long q2), .second, .val (.long q3), .second, .val (.long q4), .second, .val (.int p5), .val (.ref b1), .val (.ref b8), .val (.ref b15), .val (.ref b23), .val (.int 3), .val (.int 0), .val (.int 1), .unset, .unset, .unset, .unset] [(.int 2), (.int 3)])) t → Steps p.tables e below (s₁.setTop (entryFrame m #[(.long q1), (.long q2), (.long q3), (.long q4), (.int p5)] maxLocals)) t := fun t k => pre237 t (by rw [hq268]; exact k)
            have f270 := (f227.keep K233)
            have f271 := (f230.keep K233 (ninS (Ne.symm ne221) nin0))
            have f272 := ((((f14.ext E15).keep K18 (ninS ne229 nin0)).keep K25 nin0).keep K233 (ninS (Ne.symm ne221) nin0))
            have f273 := ((f19.keep K25).keep K233)
            have f274 := ((f20.keep K25 nin0).keep K233 (ninS (Ne.symm ne224) nin0))
            obtain ⟨_, T275, L275, X275, hQ275, st275⟩ := own_vb X231 hx hZ hown (y := yn5) (own_w hw 25 rfl) (own_w hw 26 rfl) (own_w hw 28 rfl) (own_w hw 27 rfl) (own_w hw 29 rfl) (own_w hw 2 rfl) rfl f270 (argsL := [(.ref b15)]) (rest := []) (rm5 l Z a0 hw [] b8 b15 q2 T231.heap n0 O231 g_b8 g_b15 (Ne.symm ne229) f270 f271 f272 f273 f274) (g := (mkF m 141 #[.val (.long q1), .second, .val (.long q2), .second, .val (.long q3), .second, .val (.long q4), .second, .val (.int p5), .val (.ref b1), .val (.ref b8), .val (.ref b15), .val (.ref b23), .val (.int 3), .val (.int 0), .val (.int 1), .unset, .unset, .unset, .unset] [(.ref b15), (.ref b8)])) rfl (by rw [hml]; rfl) rfl (hb hby at_141) (lenOf pd4 rfl) (W := 0) (c1 := 4) (s1 := 8)
            obtain ⟨rfl, Nq276, K277, f278, f279, f280⟩ := hQ275
            have N275 := Fr.app N231 Nq276
            have M275 : h0.size ≤ T275.heap.size := Nat.le_trans M231 K277.1
            have O275 := Old.keep O231 K277 (allS g_b8 all0)
            have f281 := (f273.keep K277)
            have f282 := (f274.keep K277 (ninS (Ne.symm ne229) nin0))
            have f283 := (((f21.keep K25 nin0).keep K233 (ninS (Ne.symm ne224) nin0)).keep K277 (ninS (Ne.symm ne229) nin0))
            have f284 := ((f26.keep K233).keep K277)
            obtain ⟨_, T285, L285, X285, hQ285, st285⟩ := own_vb X275 hx hZ hown (y := yn5) (own_w hw 25 rfl) (own_w hw 26 rfl) (own_w hw 28 rfl) (own_w hw 27 rfl) (own_w hw 29 rfl) (own_w hw 2 rfl) rfl f281 (argsL := [(.ref b23)]) (rest := []) (rm8 l Z a0 hw [] b15 b23 q3 T275.heap n0 O275 g_b15 g_b23 f281 f282 f283 f284) (g := (mkF m 154 #[.val (.long q1), .second, .val (.long q2), .second, .val (.long q3), .second, .val (.long q4), .second, .val (.int p5), .val (.ref b1), .val (.ref b8), .val (.ref b15), .val (.ref b23), .val (.int 3), .val (.int 0), .val (.int 1), .unset, .unset, .unset, .unset] [(.ref b23), (.ref b15)])) rfl (by rw [hml]; rfl) rfl (hb hby at_154) (lenOf pd4 rfl) (W := 0) (c1 := 4) (s1 := 8)
            obtain ⟨rfl, Nq286, K287, f288, f289, f290⟩ := hQ285
            have N285 := Fr.app N275 Nq286
            have M285 : h0.size ≤ T285.heap.size := Nat.le_trans M275 K287.1
            have O285 := Old.keep O275 K287 (allS g_b15 all0)
            have f291 := (f278.keep K287)
            have f292 := (f279.keep K287 (ninS ne229 nin0))
            have f293 := (f280.keep K287 (ninS ne229 nin0))
            obtain ⟨_, T294, L294, X294, hQ294, st294⟩ := own_vb X285 hx hZ hown (y := yn6) (own_w hw 54 rfl) (own_w hw 55 rfl) (own_w hw 57 rfl) (own_w hw 56 rfl) (own_w hw 58 rfl) (own_w hw 2 rfl) rfl f291 (argsL := []) (rest := []) (rm11 l Z a0 hw [] b8 b15 b23 q2 T285.heap n0 O285 g_b8 g_b15 g_b23 f291 f292 f293) (g := (mkF m 236 #[.val (.long q1), .second, .val (.long q2), .second, .val (.long q3), .second, .val (.long q4), .second, .val (.int p5), .val (.ref b1), .val (.ref b8), .val (.ref b15), .val (.ref b23), .val (.int 3), .val (.int 0), .val (.int 1), .val (.ref b23), .unset, .unset, .unset] [(.ref b8)])) rfl (by rw [hml]; rfl) rfl (hb hby at_236) (lenOf pd5 rfl) (W := 0) (c1 := 4) (s1 := 8)
            obtain ⟨rfl, Nq295, K296, f297, f298, f299⟩ := hQ294
            have N294 := Fr.app N285 Nq295
            have M294 : h0.size ≤ T294.heap.size := Nat.le_trans M285 K296.1
            have O294 := Old.keep O285 K296 (allS g_b8 all0)
            have f300 := (((f234.keep K277).keep K287).keep K296)
            have f301 := (((f235.keep K277 (ninS ne221 nin0)).keep K287 (ninS ne224 nin0)).keep K296 (ninS ne221 nin0))
            obtain ⟨_, T302, L302, X302, hQ302, st302⟩ := own_vb X294 hx hZ hown (y := yn3) (own_w hw 48 rfl) (own_w hw 49 rfl) (own_w hw 50 rfl) (own_w hw 36 rfl) (own_w hw 40 rfl) (own_w hw 2 rfl) rfl f300 (argsL := []) (rest := []) (rm6 l Z a0 hw [] b1 b8 T294.heap n0 O294 g_b1 g_b8 f300 f301 f297 f298) (g := (mkF m 268 #[.val (.long q1), .second, .val (.long q2), .second, .val (.long q3), .second, .val (.long q4), .second, .val (.int p5), .val (.ref b1), .val (.ref b8), .val (.ref b15), .val (.ref b23), .val (.int 3), .val (.int 0), .val (.int 1), .val (.ref b8), .unset, .unset, .unset] [(.ref b1)])) rfl (by rw [hml]; rfl) rfl (hb hby at_268) (lenOf pd3 rfl) (W := 0) (c1 := 4) (s1 := 8)
            obtain ⟨rfl, Nq303, e304⟩ := hQ302
            have N302 := Fr.app N294 Nq303
            obtain ⟨_, T305, L305, X305, hQ305, st305⟩ := own_vb X302 hx hZ hown (y := yn3) (own_w hw 48 rfl) (own_w hw 49 rfl) (own_w hw 50 rfl) (own_w hw 36 rfl) (own_w hw 40 rfl) (own_w hw 2 rfl) e304 f300 (argsL := []) (rest := []) (rm6 l Z a0 hw [] b1 b8 T294.heap n0 O294 g_b1 g_b8 f300 f301 f297 f298) (g := (mkF m 275 #[.val (.long q1), .second, .val (.long q2), .second, .val (.long q3), .second, .val (.long q4), .second, .val (.int p5), .val (.ref b1), .val (.ref b8), .val (.ref b15), .val (.ref b23), .val (.int 3), .val (.int 0), .val (.int 1), .val (.ref b8), .val (.ref b8), .unset, .unset] [(.ref b1)])) rfl (by rw [hml]; rfl) rfl (hb hby at_275) (lenOf pd3 rfl) (W := 0) (c1 := 4) (s1 := 8)
            obtain ⟨rfl, Nq306, e307⟩ := hQ305
            have N305 := Fr.app N302 Nq306
            obtain ⟨_, T308, L308, X308, hQ308, st308⟩ := own_ib X305 hx hZ hown (z := yn4) (y := yn3) (own_w hw 53 rfl) (own_w hw 33 rfl) (mvT hZ (own_w hw 34 rfl)) (own_w hw 35 rfl) (own_w hw 36 rfl) (own_w hw 37 rfl) (mvT hZ (own_w hw 38 rfl)) (own_w hw 39 rfl) (own_w hw 40 rfl) (own_w hw 2 rfl) e307 f297 (argsL := []) (rest := []) (rm4 l Z a0 hw [] b8 T294.heap n0 O294 g_b8 f297 f298) (g := (mkF m 282 #[.val (.long q1), .second, .val (.long q2), .second, .val (.long q3), .second, .val (.long q4), .second, .val (.int p5), .val (.ref b1), .val (.ref b8), .val (.ref b15), .val (.ref b23), .val (.int 3), .val (.int 0), .val (.int 1), .val (.ref b8), .val (.ref b8), .val (.ref b8), .unset] [(.ref b8)])) rfl (by rw [hml]; rfl) rfl (hb hby at_282) (lenOf pd3 rfl) (W := 0) (c1 := 4) (s1 := 8)
            obtain ⟨rfl, Nq309, e310⟩ := hQ308
            have N308 := Fr.app N305 Nq309
            obtain ⟨fs, hr, hrun, hended, hW, hsame⟩ := X308.leave (v := some (.int 1)) (fun h => by rw [hret] at h; cases h)
            refine ⟨_, _, pre269 _ ?_, hrun, hended, _, _, rfl, ?_, ⟨_, rfl⟩, hW, hsame.mono (by decide) (by decide)⟩
            ·
              show Steps p.tables e below (T231.setTop (mkF m 119 #[.val (.long q1), .second, .val (.long q2), .second, .val (.long q3), .second, .val (.long q4), .second, .val (.int p5), .val (.ref b1), .val (.ref b8), .val (.ref b15), .val (.ref b23), .val (.int 3), .val (.int 0), .val (.int 1), .unset, .unset, .unset, .unset] [(.int 2), (.int 3)])) _
              refine XS.icmpYes X231.here hx rfl (pc0 := 119) (pc' := 137) rfl (hb hby at_119) rfl (feq (by decide : ¬ ((3 : Int32) = (2 : Int32)))).2 (by decide) (by decide) ?_
              refine XS.aload X231.here hx rfl (hb hby at_137) rfl rfl ?_
              refine XS.aload X231.here hx rfl (hb hby at_139) rfl rfl ?_
              refine st275 _ ?_
              refine XS.iload X275.here hx rfl (hb hby at_144) rfl ?_
              refine XS.iconst X275.here hx rfl (hb hby at_146) ?_
              refine XS.icmpNo X275.here hx rfl (hb hby at_147) rfl (flt (by decide : ¬ ((3 : Int32) < (3 : Int32)))).1 ?_
              refine XS.aload X275.here hx rfl (hb hby at_150) rfl rfl ?_
              refine XS.aload X275.here hx rfl (hb hby at_152) rfl rfl ?_
              refine st285 _ ?_
              refine XS.iload X285.here hx rfl (hb hby at_157) rfl ?_
              refine XS.ifYes X285.here hx rfl (pc0 := 159) (pc' := 169) rfl (hb hby at_159) rfl ((if0 _ _).trans (feq (by decide : ¬ ((3 : Int32) = (0 : Int32)))).2) (by decide) (by decide) ?_
              refine XS.iload X285.here hx rfl (hb hby at_169) rfl ?_
              refine XS.iconst X285.here hx rfl (hb hby at_171) ?_
              refine XS.icmpYes X285.here hx rfl (pc0 := 172) (pc' := 194) rfl (hb hby at_172) rfl (feq (by decide : ¬ ((3 : Int32) = (1 : Int32)))).2 (by decide) (by decide) ?_
              refine XS.iload X285.here hx rfl (hb hby at_194) rfl ?_
              refine XS.iconst X285.here hx rfl (hb hby at_196) ?_
              refine XS.icmpYes X285.here hx rfl (pc0 := 197) (pc' := 219) rfl (hb hby at_197) rfl (feq (by decide : ¬ ((3 : Int32) = (2 : Int32)))).2 (by decide) (by decide) ?_
              refine XS.aload X285.here hx rfl (hb hby at_219) rfl rfl ?_
              refine XS.astore X285.here hx rfl (hb hby at_221) rfl rfl (l' := #[.val (.long q1), .second, .val (.long q2), .second, .val (.long q3), .second, .val (.long q4), .second, .val (.int p5), .val (.ref b1), .val (.ref b8), .val (.ref b15), .val (.ref b23), .val (.int 3), .val (.int 0), .val (.int 1), .val (.ref b23), .unset, .unset, .unset]) rfl ?_
              refine XS.iload X285.here hx rfl (hb hby at_223) rfl ?_
              refine XS.ifNo X285.here hx rfl (hb hby at_225) rfl ((if0 _ _).trans (feq (by decide : ¬ ((1 : Int32) = (0 : Int32)))).1) ?_
              refine XS.iload X285.here hx rfl (hb hby at_228) rfl ?_
              refine XS.iconst X285.here hx rfl (hb hby at_230) ?_
              refine XS.icmpNo X285.here hx rfl (hb hby at_231) rfl (flt (by decide : ¬ ((3 : Int32) < (2 : Int32)))).1 ?_
              refine XS.aload X285.here hx rfl (hb hby at_234) rfl rfl ?_
              refine st294 _ ?_
              show Steps p.tables e below (T294.setTop (mkF m 239 #[.val (.long q1), .second, .val (.long q2), .second, .val (.long q3), .second, .val (.long q4), .second, .val (.int p5), .val (.ref b1), .val (.ref b8), .val (.ref b15), .val (.ref b23), .val (.int 3), .val (.int 0), .val (.int 1), .val (.ref b23), .unset, .unset, .unset] [])) _
              refine XS.aload X294.here hx rfl (hb hby at_239) rfl rfl ?_
              refine XS.astore X294.here hx rfl (hb hby at_241) rfl rfl (l' := #[.val (.long q1), .second, .val (.long q2), .second, .val (.long q3), .second, .val (.long q4), .second, .val (.int p5), .val (.ref b1), .val (.ref b8), .val (.ref b15), .val (.ref b23), .val (.int 3), .val (.int 0), .val (.int 1), .val (.ref b8), .unset, .unset, .unset]) rfl ?_
              refine XS.goto X294.here hx rfl (pc0 := 243) (pc' := 266) rfl (hb hby at_243) (by decide) (by decide) ?_
              refine XS.aload X294.here hx rfl (hb hby at_266) rfl rfl ?_
              refine st302 _ ?_
              refine XS.astore X302.here hx rfl (hb hby at_271) rfl rfl (l' := #[.val (.long q1), .second, .val (.long q2), .second, .val (.long q3), .second, .val (.long q4), .second, .val (.int p5), .val (.ref b1), .val (.ref b8), .val (.ref b15), .val (.ref b23), .val (.int 3), .val (.int 0), .val (.int 1), .val (.ref b8), .val (.ref b8), .unset, .unset]) rfl ?_
              refine XS.aload X302.here hx rfl (hb hby at_273) rfl rfl ?_
              refine st305 _ ?_
              refine XS.astore X305.here hx rfl (hb hby at_278) rfl rfl (l' := #[.val (.long q1), .second, .val (.long q2), .second, .val (.long q3), .second, .val (.long q4), .second, .val (.int p5), .val (.ref b1), .val (.ref b8), .val (.ref b15), .val (.ref b23), .val (.int 3), .val (.int 0), .val (.int 1), .val (.ref b8), .val (.ref b8), .val (.ref b8), .unset]) rfl ?_
              refine XS.aload X305.here hx rfl (hb hby at_280) rfl rfl ?_
              refine st308 _ ?_
              refine XS.astore X308.here hx rfl (hb hby at_287) rfl rfl (l' := #[.val (.long q1), .second, .val (.long q2), .second, .val (.long q3), .second, .val (.long q4), .second, .val (.int p5), .val (.ref b1), .val (.ref b8), .val (.ref b15), .val (.ref b23), .val (.int 3), .val (.int 0), .val (.int 1), .val (.ref b8), .val (.ref b8), .val (.ref b8), .val (.ref b8)]) rfl ?_
              refine XS.aload X308.here hx rfl (hb hby at_289) rfl rfl ?_
              refine XS.aload X308.here hx rfl (hb hby at_291) rfl rfl ?_
              refine Jvm.RoadKit.acmp (g := (mkF m 293 #[.val (.long q1), .second, .val (.long q2), .second, .val (.long q3), .second, .val (.long q4), .second, .val (.int p5), .val (.ref b1), .val (.ref b8), .val (.ref b15), .val (.ref b23), .val (.int 3), .val (.int 0), .val (.int 1), .val (.ref b8), .val (.ref b8), .val (.ref b8), .val (.ref b8)] [(.ref b8), (.ref b8)])) X308 hx rfl rfl rfl (pc0 := 293) (pc' := 296) (same := true) rfl (hb hby at_293) rfl (decide_eq_true rfl) (by decide) (by decide) ?_
              refine XS.aload X308.here hx rfl (hb hby at_296) rfl rfl ?_
              refine XS.aload X308.here hx rfl (hb hby at_298) rfl rfl ?_
              refine Jvm.RoadKit.acmp (g := (mkF m 300 #[.val (.long q1), .second, .val (.long q2), .second, .val (.long q3), .second, .val (.long q4), .second, .val (.int p5), .val (.ref b1), .val (.ref b8), .val (.ref b15), .val (.ref b23), .val (.int 3), .val (.int 0), .val (.int 1), .val (.ref b8), .val (.ref b8), .val (.ref b8), .val (.ref b8)] [(.ref b8), (.ref b8)])) X308 hx rfl rfl rfl (pc0 := 300) (pc' := 303) (same := true) rfl (hb hby at_300) rfl (decide_eq_true rfl) (by decide) (by decide) ?_
              refine XS.aload X308.here hx rfl (hb hby at_303) rfl rfl ?_
              refine XS.aload X308.here hx rfl (hb hby at_305) rfl rfl ?_
              refine Jvm.RoadKit.acmp (g := (mkF m 307 #[.val (.long q1), .second, .val (.long q2), .second, .val (.long q3), .second, .val (.long q4), .second, .val (.int p5), .val (.ref b1), .val (.ref b8), .val (.ref b15), .val (.ref b23), .val (.int 3), .val (.int 0), .val (.int 1), .val (.ref b8), .val (.ref b8), .val (.ref b8), .val (.ref b8)] [(.ref b8), (.ref b8)])) X308 hx rfl rfl rfl (pc0 := 307) (pc' := 310) (same := true) rfl (hb hby at_307) rfl (decide_eq_true rfl) (by decide) (by decide) ?_
              refine XS.iconst X308.here hx rfl (hb hby at_310) ?_
              refine XS.goto X308.here hx rfl (pc0 := 311) (pc' := 315) rfl (hb hby at_311) (by decide) (by decide) ?_
              show Steps p.tables e below (T308.setTop (mkF m 315 #[.val (.long q1), .second, .val (.long q2), .second, .val (.long q3), .second, .val (.long q4), .second, .val (.int p5), .val (.ref b1), .val (.ref b8), .val (.ref b15), .val (.ref b23), .val (.int 3), .val (.int 0), .val (.int 1), .val (.ref b8), .val (.ref b8), .val (.ref b8), .val (.ref b8)] [(.int 1)])) _
              exact retN X308 hx (t := .boolean) hret (by simp) (hb hby at_315) hr
            ·
              show Q0 n0 _ T308.heap _
              rw [e310]
              exact ⟨rfl, N308⟩
  ·
    have hq311 : ((p5 >>> ((2 : Int32) &&& 31)) &&& (1 : Int32)) = (1 : Int32) := (own_geq (n := 1) (k := (1 : Int32)) (by decide) (by have q0 := own_and (x := (p5 >>> ((2 : Int32) &&& 31))) (k := (1 : Int32)) (n := 1) (by decide) (by decide); have q1 := own_neq (n := 0) (k := (0 : Int32)) (by decide) hc30; omega))
    have pre312 : ∀ t, Steps p.tables e below (T22.setTop (mkF m 50 #[.val (.long q1), .second, .val (.long q2), .second, .val (.long q3), .second, .val (.long q4), .second, .val (.int p5), .val (.ref b1), .val (.ref b8), .val (.ref b15), .val (.ref b23), .val (.int (p5 &&& (3 : Int32))), .unset, .unset, .unset, .unset, .unset, .unset] [(.int 1)])) t → Steps p.tables e below (s₁.setTop (entryFrame m #[(.long q1), (.long q2), (.long q3), (.long q4), (.int p5)] maxLocals)) t := fun t k => pre29 t (by rw [hq311]; exact k)
    have pre313 : ∀ t, Steps p.tables e below (T22.setTop (mkF m 66 #[.val (.long q1), .second, .val (.long q2), .second, .val (.long q3), .second, .val (.long q4), .second, .val (.int p5), .val (.ref b1), .val (.ref b8), .val (.ref b15), .val (.ref b23), .val (.int (p5 &&& (3 : Int32))), .val (.int 1), .unset, .unset, .unset, .unset, .unset] [(.int ((p5 >>> ((3 : Int32) &&& 31)) &&& (1 : Int32)))])) t → Steps p.tables e below (s₁.setTop (entryFrame m #[(.long q1), (.long q2), (.long q3), (.long q4), (.int p5)] maxLocals)) t := fun t k => by
      refine pre312 _ ?_
      show Steps p.tables e below (T22.setTop (mkF m 50 #[.val (.long q1), .second, .val (.long q2), .second, .val (.long q3), .second, .val (.long q4), .second, .val (.int p5), .val (.ref b1), .val (.ref b8), .val (.ref b15), .val (.ref b23), .val (.int (p5 &&& (3 : Int32))), .unset, .unset, .unset, .unset, .unset, .unset] [(.int 1)])) _
      refine XS.ifNo X22.here hx rfl (hb hby at_50) rfl ((if0 _ _).trans (feq (by decide : ¬ ((1 : Int32) = (0 : Int32)))).1) ?_
      refine XS.iconst X22.here hx rfl (hb hby at_53) ?_
      refine XS.goto X22.here hx rfl (pc0 := 54) (pc' := 58) rfl (hb hby at_54) (by decide) (by decide) ?_
      refine XS.istore X22.here hx rfl (hb hby at_58) rfl (l' := #[.val (.long q1), .second, .val (.long q2), .second, .val (.long q3), .second, .val (.long q4), .second, .val (.int p5), .val (.ref b1), .val (.ref b8), .val (.ref b15), .val (.ref b23), .val (.int (p5 &&& (3 : Int32))), .val (.int 1), .unset, .unset, .unset, .unset, .unset]) rfl ?_
      refine XS.iload X22.here hx rfl (hb hby at_60) rfl ?_
      refine XS.iconst X22.here hx rfl (hb hby at_62) ?_
      refine XS.ishr X22.here hx rfl (hb hby at_63) rfl ?_
      refine XS.iconst X22.here hx rfl (hb hby at_64) ?_
      refine XS.iand X22.here hx rfl (hb hby at_65) rfl ?_
      exact k
    by_cases hc314 : ((p5 >>> ((3 : Int32) &&& 31)) &&& (1 : Int32)) = (0 : Int32)
    ·
      have pre315 : ∀ t, Steps p.tables e below (T22.setTop (mkF m 66 #[.val (.long q1), .second, .val (.long q2), .second, .val (.long q3), .second, .val (.long q4), .second, .val (.int p5), .val (.ref b1), .val (.ref b8), .val (.ref b15), .val (.ref b23), .val (.int (p5 &&& (3 : Int32))), .val (.int 1), .unset, .unset, .unset, .unset, .unset] [(.int 0)])) t → Steps p.tables e below (s₁.setTop (entryFrame m #[(.long q1), (.long q2), (.long q3), (.long q4), (.int p5)] maxLocals)) t := fun t k => pre313 t (by rw [hc314]; exact k)
      have pre316 : ∀ t, Steps p.tables e below (T22.setTop (mkF m 79 #[.val (.long q1), .second, .val (.long q2), .second, .val (.long q3), .second, .val (.long q4), .second, .val (.int p5), .val (.ref b1), .val (.ref b8), .val (.ref b15), .val (.ref b23), .val (.int (p5 &&& (3 : Int32))), .val (.int 1), .val (.int 0), .unset, .unset, .unset, .unset] [(.int 1), (.int (p5 &&& (3 : Int32)))])) t → Steps p.tables e below (s₁.setTop (entryFrame m #[(.long q1), (.long q2), (.long q3), (.long q4), (.int p5)] maxLocals)) t := fun t k => by
        refine pre315 _ ?_
        show Steps p.tables e below (T22.setTop (mkF m 66 #[.val (.long q1), .second, .val (.long q2), .second, .val (.long q3), .second, .val (.long q4), .second, .val (.int p5), .val (.ref b1), .val (.ref b8), .val (.ref b15), .val (.ref b23), .val (.int (p5 &&& (3 : Int32))), .val (.int 1), .unset, .unset, .unset, .unset, .unset] [(.int 0)])) _
        refine XS.ifYes X22.here hx rfl (pc0 := 66) (pc' := 73) rfl (hb hby at_66) rfl ((if0 _ _).trans (teq (by decide : (0 : Int32) = (0 : Int32))).1) (by decide) (by decide) ?_
        refine XS.iconst X22.here hx rfl (hb hby at_73) ?_
        refine XS.istore X22.here hx rfl (hb hby at_74) rfl (l' := #[.val (.long q1), .second, .val (.long q2), .second, .val (.long q3), .second, .val (.long q4), .second, .val (.int p5), .val (.ref b1), .val (.ref b8), .val (.ref b15), .val (.ref b23), .val (.int (p5 &&& (3 : Int32))), .val (.int 1), .val (.int 0), .unset, .unset, .unset, .unset]) rfl ?_
        refine XS.iload X22.here hx rfl (hb hby at_76) rfl ?_
        show Steps p.tables e below (T22.setTop (mkF m 78 #[.val (.long q1), .second, .val (.long q2), .second, .val (.long q3), .second, .val (.long q4), .second, .val (.int p5), .val (.ref b1), .val (.ref b8), .val (.ref b15), .val (.ref b23), .val (.int (p5 &&& (3 : Int32))), .val (.int 1), .val (.int 0), .unset, .unset, .unset, .unset] [(.int (p5 &&& (3 : Int32)))])) _
        refine XS.iconst X22.here hx rfl (hb hby at_78) ?_
        exact k
      by_cases hc317 : (p5 &&& (3 : Int32)) < (1 : Int32)
      ·
        have hq318 : (p5 &&& (3 : Int32)) = (0 : Int32) := (own_geq (n := 0) (k := (0 : Int32)) (by decide) (by have q0 := own_and (x := p5) (k := (3 : Int32)) (n := 3) (by decide) (by decide); have q1 := own_lt1 (n := 1) (k := (1 : Int32)) (by decide) hc317; omega))
        have pre319 : ∀ t, Steps p.tables e below (T22.setTop (mkF m 79 #[.val (.long q1), .second, .val (.long q2), .second, .val (.long q3), .second, .val (.long q4), .second, .val (.int p5), .val (.ref b1), .val (.ref b8), .val (.ref b15), .val (.ref b23), .val (.int 0), .val (.int 1), .val (.int 0), .unset, .unset, .unset, .unset] [(.int 1), (.int 0)])) t → Steps p.tables e below (s₁.setTop (entryFrame m #[(.long q1), (.long q2), (.long q3), (.long q4), (.int p5)] maxLocals)) t := fun t k => pre316 t (by rw [hq318]; exact k)
        have f320 := (((((f5.ext E8).keep K11).ext E15).keep K18).keep K25)
        have lt321 : b1 < T2.heap.size := (Nat.lt_of_lt_of_le A1.lt K4.1)
        have ne322 : b1 ≠ b8 := Nat.ne_of_lt (Nat.lt_of_lt_of_le lt321 sz_b8)
        have lt323 : b1 < T9.heap.size := (Nat.lt_of_lt_of_le (Nat.lt_of_lt_of_le (Nat.lt_of_lt_of_le A1.lt K4.1) E8.1) K11.1)
        have ne324 : b1 ≠ b15 := Nat.ne_of_lt (Nat.lt_of_lt_of_le lt323 sz_b15)
        have f325 := (((((f6.ext E8).keep K11 (ninS ne322 nin0)).ext E15).keep K18 (ninS ne324 nin0)).keep K25 nin0)
        obtain ⟨_, T326, L326, X326, hQ326, st326⟩ := own_vb X22 hx hZ hown (y := yn3) (own_w hw 48 rfl) (own_w hw 49 rfl) (own_w hw 50 rfl) (own_w hw 36 rfl) (own_w hw 40 rfl) (own_w hw 2 rfl) rfl f320 (argsL := []) (rest := []) (rm4 l Z a0 hw [] b1 T22.heap n0 O22 g_b1 f320 f325) (g := (mkF m 268 #[.val (.long q1), .second, .val (.long q2), .second, .val (.long q3), .second, .val (.long q4), .second, .val (.int p5), .val (.ref b1), .val (.ref b8), .val (.ref b15), .val (.ref b23), .val (.int 0), .val (.int 1), .val (.int 0), .val (.ref b1), .unset, .unset, .unset] [(.ref b1)])) rfl (by rw [hml]; rfl) rfl (hb hby at_268) (lenOf pd3 rfl) (W := 0) (c1 := 4) (s1 := 8)
        obtain ⟨rfl, Nq327, e328⟩ := hQ326
        have N326 := Fr.app N22 Nq327
        obtain ⟨_, T329, L329, X329, hQ329, st329⟩ := own_vb X326 hx hZ hown (y := yn3) (own_w hw 48 rfl) (own_w hw 49 rfl) (own_w hw 50 rfl) (own_w hw 36 rfl) (own_w hw 40 rfl) (own_w hw 2 rfl) e328 f320 (argsL := []) (rest := []) (rm4 l Z a0 hw [] b1 T22.heap n0 O22 g_b1 f320 f325) (g := (mkF m 275 #[.val (.long q1), .second, .val (.long q2), .second, .val (.long q3), .second, .val (.long q4), .second, .val (.int p5), .val (.ref b1), .val (.ref b8), .val (.ref b15), .val (.ref b23), .val (.int 0), .val (.int 1), .val (.int 0), .val (.ref b1), .val (.ref b1), .unset, .unset] [(.ref b1)])) rfl (by rw [hml]; rfl) rfl (hb hby at_275) (lenOf pd3 rfl) (W := 0) (c1 := 4) (s1 := 8)
        obtain ⟨rfl, Nq330, e331⟩ := hQ329
        have N329 := Fr.app N326 Nq330
        obtain ⟨_, T332, L332, X332, hQ332, st332⟩ := own_ib X329 hx hZ hown (z := yn4) (y := yn3) (own_w hw 53 rfl) (own_w hw 33 rfl) (mvT hZ (own_w hw 34 rfl)) (own_w hw 35 rfl) (own_w hw 36 rfl) (own_w hw 37 rfl) (mvT hZ (own_w hw 38 rfl)) (own_w hw 39 rfl) (own_w hw 40 rfl) (own_w hw 2 rfl) e331 f320 (argsL := []) (rest := []) (rm4 l Z a0 hw [] b1 T22.heap n0 O22 g_b1 f320 f325) (g := (mkF m 282 #[.val (.long q1), .second, .val (.long q2), .second, .val (.long q3), .second, .val (.long q4), .second, .val (.int p5), .val (.ref b1), .val (.ref b8), .val (.ref b15), .val (.ref b23), .val (.int 0), .val (.int 1), .val (.int 0), .val (.ref b1), .val (.ref b1), .val (.ref b1), .unset] [(.ref b1)])) rfl (by rw [hml]; rfl) rfl (hb hby at_282) (lenOf pd3 rfl) (W := 0) (c1 := 4) (s1 := 8)
        obtain ⟨rfl, Nq333, e334⟩ := hQ332
        have N332 := Fr.app N329 Nq333
        obtain ⟨fs, hr, hrun, hended, hW, hsame⟩ := X332.leave (v := some (.int 1)) (fun h => by rw [hret] at h; cases h)
        refine ⟨_, _, pre319 _ ?_, hrun, hended, _, _, rfl, ?_, ⟨_, rfl⟩, hW, hsame.mono (by decide) (by decide)⟩
        ·
          show Steps p.tables e below (T22.setTop (mkF m 79 #[.val (.long q1), .second, .val (.long q2), .second, .val (.long q3), .second, .val (.long q4), .second, .val (.int p5), .val (.ref b1), .val (.ref b8), .val (.ref b15), .val (.ref b23), .val (.int 0), .val (.int 1), .val (.int 0), .unset, .unset, .unset, .unset] [(.int 1), (.int 0)])) _
          refine XS.icmpYes X22.here hx rfl (pc0 := 79) (pc' := 110) rfl (hb hby at_79) rfl (tlt (by decide : (0 : Int32) < (1 : Int32))).1 (by decide) (by decide) ?_
          refine XS.iload X22.here hx rfl (hb hby at_110) rfl ?_
          refine XS.iconst X22.here hx rfl (hb hby at_112) ?_
          refine XS.icmpYes X22.here hx rfl (pc0 := 113) (pc' := 144) rfl (hb hby at_113) rfl (tlt (by decide : (0 : Int32) < (2 : Int32))).1 (by decide) (by decide) ?_
          refine XS.iload X22.here hx rfl (hb hby at_144) rfl ?_
          refine XS.iconst X22.here hx rfl (hb hby at_146) ?_
          refine XS.icmpYes X22.here hx rfl (pc0 := 147) (pc' := 157) rfl (hb hby at_147) rfl (tlt (by decide : (0 : Int32) < (3 : Int32))).1 (by decide) (by decide) ?_
          refine XS.iload X22.here hx rfl (hb hby at_157) rfl ?_
          refine XS.ifNo X22.here hx rfl (hb hby at_159) rfl ((if0 _ _).trans (teq (by decide : (0 : Int32) = (0 : Int32))).2) ?_
          refine XS.aload X22.here hx rfl (hb hby at_162) rfl rfl ?_
          refine XS.astore X22.here hx rfl (hb hby at_164) rfl rfl (l' := #[.val (.long q1), .second, .val (.long q2), .second, .val (.long q3), .second, .val (.long q4), .second, .val (.int p5), .val (.ref b1), .val (.ref b8), .val (.ref b15), .val (.ref b23), .val (.int 0), .val (.int 1), .val (.int 0), .val (.ref b1), .unset, .unset, .unset]) rfl ?_
          refine XS.goto X22.here hx rfl (pc0 := 166) (pc' := 223) rfl (hb hby at_166) (by decide) (by decide) ?_
          refine XS.iload X22.here hx rfl (hb hby at_223) rfl ?_
          refine XS.ifYes X22.here hx rfl (pc0 := 225) (pc' := 246) rfl (hb hby at_225) rfl ((if0 _ _).trans (teq (by decide : (0 : Int32) = (0 : Int32))).1) (by decide) (by decide) ?_
          refine XS.iload X22.here hx rfl (hb hby at_246) rfl ?_
          refine XS.ifYes X22.here hx rfl (pc0 := 248) (pc' := 266) rfl (hb hby at_248) rfl ((if0 _ _).trans (teq (by decide : (0 : Int32) = (0 : Int32))).1) (by decide) (by decide) ?_
          refine XS.aload X22.here hx rfl (hb hby at_266) rfl rfl ?_
          refine st326 _ ?_
          refine XS.astore X326.here hx rfl (hb hby at_271) rfl rfl (l' := #[.val (.long q1), .second, .val (.long q2), .second, .val (.long q3), .second, .val (.long q4), .second, .val (.int p5), .val (.ref b1), .val (.ref b8), .val (.ref b15), .val (.ref b23), .val (.int 0), .val (.int 1), .val (.int 0), .val (.ref b1), .val (.ref b1), .unset, .unset]) rfl ?_
          refine XS.aload X326.here hx rfl (hb hby at_273) rfl rfl ?_
          refine st329 _ ?_
          refine XS.astore X329.here hx rfl (hb hby at_278) rfl rfl (l' := #[.val (.long q1), .second, .val (.long q2), .second, .val (.long q3), .second, .val (.long q4), .second, .val (.int p5), .val (.ref b1), .val (.ref b8), .val (.ref b15), .val (.ref b23), .val (.int 0), .val (.int 1), .val (.int 0), .val (.ref b1), .val (.ref b1), .val (.ref b1), .unset]) rfl ?_
          refine XS.aload X329.here hx rfl (hb hby at_280) rfl rfl ?_
          refine st332 _ ?_
          refine XS.astore X332.here hx rfl (hb hby at_287) rfl rfl (l' := #[.val (.long q1), .second, .val (.long q2), .second, .val (.long q3), .second, .val (.long q4), .second, .val (.int p5), .val (.ref b1), .val (.ref b8), .val (.ref b15), .val (.ref b23), .val (.int 0), .val (.int 1), .val (.int 0), .val (.ref b1), .val (.ref b1), .val (.ref b1), .val (.ref b1)]) rfl ?_
          refine XS.aload X332.here hx rfl (hb hby at_289) rfl rfl ?_
          refine XS.aload X332.here hx rfl (hb hby at_291) rfl rfl ?_
          refine Jvm.RoadKit.acmp (g := (mkF m 293 #[.val (.long q1), .second, .val (.long q2), .second, .val (.long q3), .second, .val (.long q4), .second, .val (.int p5), .val (.ref b1), .val (.ref b8), .val (.ref b15), .val (.ref b23), .val (.int 0), .val (.int 1), .val (.int 0), .val (.ref b1), .val (.ref b1), .val (.ref b1), .val (.ref b1)] [(.ref b1), (.ref b1)])) X332 hx rfl rfl rfl (pc0 := 293) (pc' := 296) (same := true) rfl (hb hby at_293) rfl (decide_eq_true rfl) (by decide) (by decide) ?_
          refine XS.aload X332.here hx rfl (hb hby at_296) rfl rfl ?_
          refine XS.aload X332.here hx rfl (hb hby at_298) rfl rfl ?_
          refine Jvm.RoadKit.acmp (g := (mkF m 300 #[.val (.long q1), .second, .val (.long q2), .second, .val (.long q3), .second, .val (.long q4), .second, .val (.int p5), .val (.ref b1), .val (.ref b8), .val (.ref b15), .val (.ref b23), .val (.int 0), .val (.int 1), .val (.int 0), .val (.ref b1), .val (.ref b1), .val (.ref b1), .val (.ref b1)] [(.ref b1), (.ref b1)])) X332 hx rfl rfl rfl (pc0 := 300) (pc' := 303) (same := true) rfl (hb hby at_300) rfl (decide_eq_true rfl) (by decide) (by decide) ?_
          refine XS.aload X332.here hx rfl (hb hby at_303) rfl rfl ?_
          refine XS.aload X332.here hx rfl (hb hby at_305) rfl rfl ?_
          refine Jvm.RoadKit.acmp (g := (mkF m 307 #[.val (.long q1), .second, .val (.long q2), .second, .val (.long q3), .second, .val (.long q4), .second, .val (.int p5), .val (.ref b1), .val (.ref b8), .val (.ref b15), .val (.ref b23), .val (.int 0), .val (.int 1), .val (.int 0), .val (.ref b1), .val (.ref b1), .val (.ref b1), .val (.ref b1)] [(.ref b1), (.ref b1)])) X332 hx rfl rfl rfl (pc0 := 307) (pc' := 310) (same := true) rfl (hb hby at_307) rfl (decide_eq_true rfl) (by decide) (by decide) ?_
          refine XS.iconst X332.here hx rfl (hb hby at_310) ?_
          refine XS.goto X332.here hx rfl (pc0 := 311) (pc' := 315) rfl (hb hby at_311) (by decide) (by decide) ?_
          show Steps p.tables e below (T332.setTop (mkF m 315 #[.val (.long q1), .second, .val (.long q2), .second, .val (.long q3), .second, .val (.long q4), .second, .val (.int p5), .val (.ref b1), .val (.ref b8), .val (.ref b15), .val (.ref b23), .val (.int 0), .val (.int 1), .val (.int 0), .val (.ref b1), .val (.ref b1), .val (.ref b1), .val (.ref b1)] [(.int 1)])) _
          exact retN X332 hx (t := .boolean) hret (by simp) (hb hby at_315) hr
        ·
          show Q0 n0 _ T332.heap _
          rw [e334]
          exact ⟨rfl, N332⟩
      ·
        have pre335 : ∀ t, Steps p.tables e below (T22.setTop (mkF m 85 #[.val (.long q1), .second, .val (.long q2), .second, .val (.long q3), .second, .val (.long q4), .second, .val (.int p5), .val (.ref b1), .val (.ref b8), .val (.ref b15), .val (.ref b23), .val (.int (p5 &&& (3 : Int32))), .val (.int 1), .val (.int 0), .unset, .unset, .unset, .unset] [(.int 1), (.int (p5 &&& (3 : Int32)))])) t → Steps p.tables e below (s₁.setTop (entryFrame m #[(.long q1), (.long q2), (.long q3), (.long q4), (.int p5)] maxLocals)) t := fun t k => by
          refine pre316 _ ?_
          show Steps p.tables e below (T22.setTop (mkF m 79 #[.val (.long q1), .second, .val (.long q2), .second, .val (.long q3), .second, .val (.long q4), .second, .val (.int p5), .val (.ref b1), .val (.ref b8), .val (.ref b15), .val (.ref b23), .val (.int (p5 &&& (3 : Int32))), .val (.int 1), .val (.int 0), .unset, .unset, .unset, .unset] [(.int 1), (.int (p5 &&& (3 : Int32)))])) _
          refine XS.icmpNo X22.here hx rfl (hb hby at_79) rfl (flt hc317).1 ?_
          refine XS.iload X22.here hx rfl (hb hby at_82) rfl ?_
          refine XS.iconst X22.here hx rfl (hb hby at_84) ?_
          exact k
        by_cases hc336 : (p5 &&& (3 : Int32)) = (1 : Int32)
        ·
          have pre337 : ∀ t, Steps p.tables e below (T22.setTop (mkF m 85 #[.val (.long q1), .second, .val (.long q2), .second, .val (.long q3), .second, .val (.long q4), .second, .val (.int p5), .val (.ref b1), .val (.ref b8), .val (.ref b15), .val (.ref b23), .val (.int 1), .val (.int 1), .val (.int 0), .unset, .unset, .unset, .unset] [(.int 1), (.int 1)])) t → Steps p.tables e below (s₁.setTop (entryFrame m #[(.long q1), (.long q2), (.long q3), (.long q4), (.int p5)] maxLocals)) t := fun t k => pre335 t (by rw [hc336]; exact k)
          have f338 := (((((f5.ext E8).keep K11).ext E15).keep K18).keep K25)
          have lt339 : b1 < T2.heap.size := (Nat.lt_of_lt_of_le A1.lt K4.1)
          have ne340 : b1 ≠ b8 := Nat.ne_of_lt (Nat.lt_of_lt_of_le lt339 sz_b8)
          have lt341 : b1 < T9.heap.size := (Nat.lt_of_lt_of_le (Nat.lt_of_lt_of_le (Nat.lt_of_lt_of_le A1.lt K4.1) E8.1) K11.1)
          have ne342 : b1 ≠ b15 := Nat.ne_of_lt (Nat.lt_of_lt_of_le lt341 sz_b15)
          have f343 := (((((f6.ext E8).keep K11 (ninS ne340 nin0)).ext E15).keep K18 (ninS ne342 nin0)).keep K25 nin0)
          have f344 := (((((f7.ext E8).keep K11 (ninS ne340 nin0)).ext E15).keep K18 (ninS ne342 nin0)).keep K25 nin0)
          obtain ⟨_, T345, L345, X345, hQ345, st345⟩ := own_vb X22 hx hZ hown (y := yn5) (own_w hw 25 rfl) (own_w hw 26 rfl) (own_w hw 28 rfl) (own_w hw 27 rfl) (own_w hw 29 rfl) (own_w hw 2 rfl) rfl f338 (argsL := [(.ref b23)]) (rest := []) (rm8 l Z a0 hw [] b1 b23 q1 T22.heap n0 O22 g_b1 g_b23 f338 f343 f344 f26) (g := (mkF m 97 #[.val (.long q1), .second, .val (.long q2), .second, .val (.long q3), .second, .val (.long q4), .second, .val (.int p5), .val (.ref b1), .val (.ref b8), .val (.ref b15), .val (.ref b23), .val (.int 1), .val (.int 1), .val (.int 0), .unset, .unset, .unset, .unset] [(.ref b23), (.ref b1)])) rfl (by rw [hml]; rfl) rfl (hb hby at_97) (lenOf pd4 rfl) (W := 0) (c1 := 4) (s1 := 8)
          obtain ⟨rfl, Nq346, K347, f348, f349, f350⟩ := hQ345
          have N345 := Fr.app N22 Nq346
          have M345 : h0.size ≤ T345.heap.size := Nat.le_trans M22 K347.1
          have O345 := Old.keep O22 K347 (allS g_b1 all0)
          have f351 := (f26.keep K347)
          obtain ⟨_, T352, L352, X352, hQ352, st352⟩ := own_vb X345 hx hZ hown (y := yn3) (own_w hw 48 rfl) (own_w hw 49 rfl) (own_w hw 50 rfl) (own_w hw 36 rfl) (own_w hw 40 rfl) (own_w hw 2 rfl) rfl f348 (argsL := []) (rest := []) (rm12 l Z a0 hw [] b1 b23 T345.heap n0 O345 g_b1 g_b23 f348 f349 f351) (g := (mkF m 268 #[.val (.long q1), .second, .val (.long q2), .second, .val (.long q3), .second, .val (.long q4), .second, .val (.int p5), .val (.ref b1), .val (.ref b8), .val (.ref b15), .val (.ref b23), .val (.int 1), .val (.int 1), .val (.int 0), .val (.ref b23), .unset, .unset, .unset] [(.ref b1)])) rfl (by rw [hml]; rfl) rfl (hb hby at_268) (lenOf pd3 rfl) (W := 0) (c1 := 4) (s1 := 8)
          obtain ⟨rfl, Nq353, e354⟩ := hQ352
          have N352 := Fr.app N345 Nq353
          obtain ⟨_, T355, L355, X355, hQ355, st355⟩ := own_vb X352 hx hZ hown (y := yn3) (own_w hw 48 rfl) (own_w hw 49 rfl) (own_w hw 50 rfl) (own_w hw 36 rfl) (own_w hw 40 rfl) (own_w hw 2 rfl) e354 f348 (argsL := []) (rest := []) (rm12 l Z a0 hw [] b1 b23 T345.heap n0 O345 g_b1 g_b23 f348 f349 f351) (g := (mkF m 275 #[.val (.long q1), .second, .val (.long q2), .second, .val (.long q3), .second, .val (.long q4), .second, .val (.int p5), .val (.ref b1), .val (.ref b8), .val (.ref b15), .val (.ref b23), .val (.int 1), .val (.int 1), .val (.int 0), .val (.ref b23), .val (.ref b23), .unset, .unset] [(.ref b1)])) rfl (by rw [hml]; rfl) rfl (hb hby at_275) (lenOf pd3 rfl) (W := 0) (c1 := 4) (s1 := 8)
          obtain ⟨rfl, Nq356, e357⟩ := hQ355
          have N355 := Fr.app N352 Nq356
          obtain ⟨T358, X358, e358, st358⟩ := own_id X355 hx hZ hown (z := yn4) (y := yn4) (own_w hw 53 rfl) (own_w hw 33 rfl) (mvT hZ (own_w hw 34 rfl)) (own_w hw 43 rfl) (own_w hw 44 rfl) (own_w hw 45 rfl) (own_w hw 46 rfl) (own_w hw 47 rfl) e357 f351 (plainFor_of_name pn2) d5_0 d5_1 (g := (mkF m 282 #[.val (.long q1), .second, .val (.long q2), .second, .val (.long q3), .second, .val (.long q4), .second, .val (.int p5), .val (.ref b1), .val (.ref b8), .val (.ref b15), .val (.ref b23), .val (.int 1), .val (.int 1), .val (.int 0), .val (.ref b23), .val (.ref b23), .val (.ref b23), .unset] [(.ref b23)])) rfl (by rw [hml]; rfl) rfl (hb hby at_282) (lenOf pd3 rfl) (W := 0)
          obtain ⟨fs, hr, hrun, hended, hW, hsame⟩ := X358.leave (v := some (.int 1)) (fun h => by rw [hret] at h; cases h)
          refine ⟨_, _, pre337 _ ?_, hrun, hended, _, _, rfl, ?_, ⟨_, rfl⟩, hW, hsame.mono (by decide) (by decide)⟩
          ·
            show Steps p.tables e below (T22.setTop (mkF m 85 #[.val (.long q1), .second, .val (.long q2), .second, .val (.long q3), .second, .val (.long q4), .second, .val (.int p5), .val (.ref b1), .val (.ref b8), .val (.ref b15), .val (.ref b23), .val (.int 1), .val (.int 1), .val (.int 0), .unset, .unset, .unset, .unset] [(.int 1), (.int 1)])) _
            refine XS.icmpNo X22.here hx rfl (hb hby at_85) rfl (teq (by decide : (1 : Int32) = (1 : Int32))).2 ?_
            refine XS.iload X22.here hx rfl (hb hby at_88) rfl ?_
            refine XS.ifNo X22.here hx rfl (hb hby at_90) rfl ((if0 _ _).trans (feq (by decide : ¬ ((1 : Int32) = (0 : Int32)))).1) ?_
            refine XS.aload X22.here hx rfl (hb hby at_93) rfl rfl ?_
            refine XS.aload X22.here hx rfl (hb hby at_95) rfl rfl ?_
            refine st345 _ ?_
            refine XS.goto X345.here hx rfl (pc0 := 100) (pc' := 110) rfl (hb hby at_100) (by decide) (by decide) ?_
            refine XS.iload X345.here hx rfl (hb hby at_110) rfl ?_
            refine XS.iconst X345.here hx rfl (hb hby at_112) ?_
            refine XS.icmpYes X345.here hx rfl (pc0 := 113) (pc' := 144) rfl (hb hby at_113) rfl (tlt (by decide : (1 : Int32) < (2 : Int32))).1 (by decide) (by decide) ?_
            refine XS.iload X345.here hx rfl (hb hby at_144) rfl ?_
            refine XS.iconst X345.here hx rfl (hb hby at_146) ?_
            refine XS.icmpYes X345.here hx rfl (pc0 := 147) (pc' := 157) rfl (hb hby at_147) rfl (tlt (by decide : (1 : Int32) < (3 : Int32))).1 (by decide) (by decide) ?_
            refine XS.iload X345.here hx rfl (hb hby at_157) rfl ?_
            refine XS.ifYes X345.here hx rfl (pc0 := 159) (pc' := 169) rfl (hb hby at_159) rfl ((if0 _ _).trans (feq (by decide : ¬ ((1 : Int32) = (0 : Int32)))).2) (by decide) (by decide) ?_
            refine XS.iload X345.here hx rfl (hb hby at_169) rfl ?_
            refine XS.iconst X345.here hx rfl (hb hby at_171) ?_
            refine XS.icmpNo X345.here hx rfl (hb hby at_172) rfl (teq (by decide : (1 : Int32) = (1 : Int32))).2 ?_
            refine XS.iload X345.here hx rfl (hb hby at_175) rfl ?_
            refine XS.ifNo X345.here hx rfl (hb hby at_177) rfl ((if0 _ _).trans (feq (by decide : ¬ ((1 : Int32) = (0 : Int32)))).1) ?_
            refine XS.aload X345.here hx rfl (hb hby at_180) rfl rfl ?_
            refine XS.astore X345.here hx rfl (hb hby at_182) rfl rfl (l' := #[.val (.long q1), .second, .val (.long q2), .second, .val (.long q3), .second, .val (.long q4), .second, .val (.int p5), .val (.ref b1), .val (.ref b8), .val (.ref b15), .val (.ref b23), .val (.int 1), .val (.int 1), .val (.int 0), .val (.ref b23), .unset, .unset, .unset]) rfl ?_
            refine XS.goto X345.here hx rfl (pc0 := 184) (pc' := 223) rfl (hb hby at_184) (by decide) (by decide) ?_
            refine XS.iload X345.here hx rfl (hb hby at_223) rfl ?_
            refine XS.ifYes X345.here hx rfl (pc0 := 225) (pc' := 246) rfl (hb hby at_225) rfl ((if0 _ _).trans (teq (by decide : (0 : Int32) = (0 : Int32))).1) (by decide) (by decide) ?_
            refine XS.iload X345.here hx rfl (hb hby at_246) rfl ?_
            refine XS.ifYes X345.here hx rfl (pc0 := 248) (pc' := 266) rfl (hb hby at_248) rfl ((if0 _ _).trans (teq (by decide : (0 : Int32) = (0 : Int32))).1) (by decide) (by decide) ?_
            refine XS.aload X345.here hx rfl (hb hby at_266) rfl rfl ?_
            refine st352 _ ?_
            refine XS.astore X352.here hx rfl (hb hby at_271) rfl rfl (l' := #[.val (.long q1), .second, .val (.long q2), .second, .val (.long q3), .second, .val (.long q4), .second, .val (.int p5), .val (.ref b1), .val (.ref b8), .val (.ref b15), .val (.ref b23), .val (.int 1), .val (.int 1), .val (.int 0), .val (.ref b23), .val (.ref b23), .unset, .unset]) rfl ?_
            refine XS.aload X352.here hx rfl (hb hby at_273) rfl rfl ?_
            refine st355 _ ?_
            refine XS.astore X355.here hx rfl (hb hby at_278) rfl rfl (l' := #[.val (.long q1), .second, .val (.long q2), .second, .val (.long q3), .second, .val (.long q4), .second, .val (.int p5), .val (.ref b1), .val (.ref b8), .val (.ref b15), .val (.ref b23), .val (.int 1), .val (.int 1), .val (.int 0), .val (.ref b23), .val (.ref b23), .val (.ref b23), .unset]) rfl ?_
            refine XS.aload X355.here hx rfl (hb hby at_280) rfl rfl ?_
            refine st358 _ ?_
            refine XS.astore X358.here hx rfl (hb hby at_287) rfl rfl (l' := #[.val (.long q1), .second, .val (.long q2), .second, .val (.long q3), .second, .val (.long q4), .second, .val (.int p5), .val (.ref b1), .val (.ref b8), .val (.ref b15), .val (.ref b23), .val (.int 1), .val (.int 1), .val (.int 0), .val (.ref b23), .val (.ref b23), .val (.ref b23), .val (.ref b23)]) rfl ?_
            show Steps p.tables e below (T358.setTop (mkF m 289 #[.val (.long q1), .second, .val (.long q2), .second, .val (.long q3), .second, .val (.long q4), .second, .val (.int p5), .val (.ref b1), .val (.ref b8), .val (.ref b15), .val (.ref b23), .val (.int 1), .val (.int 1), .val (.int 0), .val (.ref b23), .val (.ref b23), .val (.ref b23), .val (.ref b23)] [])) _
            refine XS.aload X358.here hx rfl (hb hby at_289) rfl rfl ?_
            refine XS.aload X358.here hx rfl (hb hby at_291) rfl rfl ?_
            refine Jvm.RoadKit.acmp (g := (mkF m 293 #[.val (.long q1), .second, .val (.long q2), .second, .val (.long q3), .second, .val (.long q4), .second, .val (.int p5), .val (.ref b1), .val (.ref b8), .val (.ref b15), .val (.ref b23), .val (.int 1), .val (.int 1), .val (.int 0), .val (.ref b23), .val (.ref b23), .val (.ref b23), .val (.ref b23)] [(.ref b23), (.ref b23)])) X358 hx rfl rfl rfl (pc0 := 293) (pc' := 296) (same := true) rfl (hb hby at_293) rfl (decide_eq_true rfl) (by decide) (by decide) ?_
            refine XS.aload X358.here hx rfl (hb hby at_296) rfl rfl ?_
            refine XS.aload X358.here hx rfl (hb hby at_298) rfl rfl ?_
            refine Jvm.RoadKit.acmp (g := (mkF m 300 #[.val (.long q1), .second, .val (.long q2), .second, .val (.long q3), .second, .val (.long q4), .second, .val (.int p5), .val (.ref b1), .val (.ref b8), .val (.ref b15), .val (.ref b23), .val (.int 1), .val (.int 1), .val (.int 0), .val (.ref b23), .val (.ref b23), .val (.ref b23), .val (.ref b23)] [(.ref b23), (.ref b23)])) X358 hx rfl rfl rfl (pc0 := 300) (pc' := 303) (same := true) rfl (hb hby at_300) rfl (decide_eq_true rfl) (by decide) (by decide) ?_
            refine XS.aload X358.here hx rfl (hb hby at_303) rfl rfl ?_
            refine XS.aload X358.here hx rfl (hb hby at_305) rfl rfl ?_
            refine Jvm.RoadKit.acmp (g := (mkF m 307 #[.val (.long q1), .second, .val (.long q2), .second, .val (.long q3), .second, .val (.long q4), .second, .val (.int p5), .val (.ref b1), .val (.ref b8), .val (.ref b15), .val (.ref b23), .val (.int 1), .val (.int 1), .val (.int 0), .val (.ref b23), .val (.ref b23), .val (.ref b23), .val (.ref b23)] [(.ref b23), (.ref b23)])) X358 hx rfl rfl rfl (pc0 := 307) (pc' := 310) (same := true) rfl (hb hby at_307) rfl (decide_eq_true rfl) (by decide) (by decide) ?_
            refine XS.iconst X358.here hx rfl (hb hby at_310) ?_
            refine XS.goto X358.here hx rfl (pc0 := 311) (pc' := 315) rfl (hb hby at_311) (by decide) (by decide) ?_
            show Steps p.tables e below (T358.setTop (mkF m 315 #[.val (.long q1), .second, .val (.long q2), .second, .val (.long q3), .second, .val (.long q4), .second, .val (.int p5), .val (.ref b1), .val (.ref b8), .val (.ref b15), .val (.ref b23), .val (.int 1), .val (.int 1), .val (.int 0), .val (.ref b23), .val (.ref b23), .val (.ref b23), .val (.ref b23)] [(.int 1)])) _
            exact retN X358 hx (t := .boolean) hret (by simp) (hb hby at_315) hr
          ·
            show Q0 n0 _ T358.heap _
            rw [e358]
            exact ⟨rfl, N355⟩
        ·
          have lt359 : b1 < T2.heap.size := (Nat.lt_of_lt_of_le A1.lt K4.1)
          have ne360 : b1 ≠ b8 := Nat.ne_of_lt (Nat.lt_of_lt_of_le lt359 sz_b8)
          have f361 := (((((f5.ext E8).keep K11).ext E15).keep K18).keep K25)
          have lt362 : b1 < T9.heap.size := (Nat.lt_of_lt_of_le (Nat.lt_of_lt_of_le (Nat.lt_of_lt_of_le A1.lt K4.1) E8.1) K11.1)
          have ne363 : b1 ≠ b15 := Nat.ne_of_lt (Nat.lt_of_lt_of_le lt362 sz_b15)
          have f364 := (((((f6.ext E8).keep K11 (ninS ne360 nin0)).ext E15).keep K18 (ninS ne363 nin0)).keep K25 nin0)
          have f365 := (((((f7.ext E8).keep K11 (ninS ne360 nin0)).ext E15).keep K18 (ninS ne363 nin0)).keep K25 nin0)
          have f366 := (((f12.ext E15).keep K18).keep K25)
          have lt367 : b8 < T9.heap.size := (Nat.lt_of_lt_of_le A8.lt K11.1)
          have ne368 : b8 ≠ b15 := Nat.ne_of_lt (Nat.lt_of_lt_of_le lt367 sz_b15)
          have f369 := (((f13.ext E15).keep K18 (ninS ne368 nin0)).keep K25 nin0)
          obtain ⟨_, T370, L370, X370, hQ370, st370⟩ := own_vb X22 hx hZ hown (y := yn5) (own_w hw 25 rfl) (own_w hw 26 rfl) (own_w hw 28 rfl) (own_w hw 27 rfl) (own_w hw 29 rfl) (own_w hw 2 rfl) rfl f361 (argsL := [(.ref b8)]) (rest := []) (rm5 l Z a0 hw [] b1 b8 q1 T22.heap n0 O22 g_b1 g_b8 (Ne.symm ne360) f361 f364 f365 f366 f369) (g := (mkF m 107 #[.val (.long q1), .second, .val (.long q2), .second, .val (.long q3), .second, .val (.long q4), .second, .val (.int p5), .val (.ref b1), .val (.ref b8), .val (.ref b15), .val (.ref b23), .val (.int (p5 &&& (3 : Int32))), .val (.int 1), .val (.int 0), .unset, .unset, .unset, .unset] [(.ref b8), (.ref b1)])) rfl (by rw [hml]; rfl) rfl (hb hby at_107) (lenOf pd4 rfl) (W := 0) (c1 := 4) (s1 := 8)
          obtain ⟨rfl, Nq371, K372, f373, f374, f375⟩ := hQ370
          have N370 := Fr.app N22 Nq371
          have M370 : h0.size ≤ T370.heap.size := Nat.le_trans M22 K372.1
          have O370 := Old.keep O22 K372 (allS g_b1 all0)
          have pre376 : ∀ t, Steps p.tables e below (T370.setTop (mkF m 119 #[.val (.long q1), .second, .val (.long q2), .second, .val (.long q3), .second, .val (.long q4), .second, .val (.int p5), .val (.ref b1), .val (.ref b8), .val (.ref b15), .val (.ref b23), .val (.int (p5 &&& (3 : Int32))), .val (.int 1), .val (.int 0), .unset, .unset, .unset, .unset] [(.int 2), (.int (p5 &&& (3 : Int32)))])) t → Steps p.tables e below (s₁.setTop (entryFrame m #[(.long q1), (.long q2), (.long q3), (.long q4), (.int p5)] maxLocals)) t := fun t k => by
            refine pre335 _ ?_
            show Steps p.tables e below (T22.setTop (mkF m 85 #[.val (.long q1), .second, .val (.long q2), .second, .val (.long q3), .second, .val (.long q4), .second, .val (.int p5), .val (.ref b1), .val (.ref b8), .val (.ref b15), .val (.ref b23), .val (.int (p5 &&& (3 : Int32))), .val (.int 1), .val (.int 0), .unset, .unset, .unset, .unset] [(.int 1), (.int (p5 &&& (3 : Int32)))])) _
            refine XS.icmpYes X22.here hx rfl (pc0 := 85) (pc' := 103) rfl (hb hby at_85) rfl (feq hc336).2 (by decide) (by decide) ?_
            refine XS.aload X22.here hx rfl (hb hby at_103) rfl rfl ?_
            refine XS.aload X22.here hx rfl (hb hby at_105) rfl rfl ?_
            refine st370 _ ?_
            refine XS.iload X370.here hx rfl (hb hby at_110) rfl ?_
            refine XS.iconst X370.here hx rfl (hb hby at_112) ?_
            refine XS.icmpNo X370.here hx rfl (hb hby at_113) rfl (flt (own_gnlt1 (n := 2) (k := (2 : Int32)) (by decide) (by have q0 := own_and (x := p5) (k := (3 : Int32)) (n := 3) (by decide) (by decide); have q1 := own_nlt1 (n := 1) (k := (1 : Int32)) (by decide) hc317; have q2 := own_neq (n := 1) (k := (1 : Int32)) (by decide) hc336; omega))).1 ?_
            refine XS.iload X370.here hx rfl (hb hby at_116) rfl ?_
            refine XS.iconst X370.here hx rfl (hb hby at_118) ?_
            exact k
          by_cases hc377 : (p5 &&& (3 : Int32)) = (2 : Int32)
          ·
            have pre378 : ∀ t, Steps p.tables e below (T370.setTop (mkF m 119 #[.val (.long q1), .second, .val (.long q2), .second, .val (.long q3), .second, .val (.long q4), .second, .val (.int p5), .val (.ref b1), .val (.ref b8), .val (.ref b15), .val (.ref b23), .val (.int 2), .val (.int 1), .val (.int 0), .unset, .unset, .unset, .unset] [(.int 2), (.int 2)])) t → Steps p.tables e below (s₁.setTop (entryFrame m #[(.long q1), (.long q2), (.long q3), (.long q4), (.int p5)] maxLocals)) t := fun t k => pre376 t (by rw [hc377]; exact k)
            have f379 := (f366.keep K372)
            have f380 := (f369.keep K372 (ninS (Ne.symm ne360) nin0))
            have f381 := ((((f14.ext E15).keep K18 (ninS ne368 nin0)).keep K25 nin0).keep K372 (ninS (Ne.symm ne360) nin0))
            have f382 := (f26.keep K372)
            obtain ⟨_, T383, L383, X383, hQ383, st383⟩ := own_vb X370 hx hZ hown (y := yn5) (own_w hw 25 rfl) (own_w hw 26 rfl) (own_w hw 28 rfl) (own_w hw 27 rfl) (own_w hw 29 rfl) (own_w hw 2 rfl) rfl f379 (argsL := [(.ref b23)]) (rest := []) (rm8 l Z a0 hw [] b8 b23 q2 T370.heap n0 O370 g_b8 g_b23 f379 f380 f381 f382) (g := (mkF m 131 #[.val (.long q1), .second, .val (.long q2), .second, .val (.long q3), .second, .val (.long q4), .second, .val (.int p5), .val (.ref b1), .val (.ref b8), .val (.ref b15), .val (.ref b23), .val (.int 2), .val (.int 1), .val (.int 0), .unset, .unset, .unset, .unset] [(.ref b23), (.ref b8)])) rfl (by rw [hml]; rfl) rfl (hb hby at_131) (lenOf pd4 rfl) (W := 0) (c1 := 4) (s1 := 8)
            obtain ⟨rfl, Nq384, K385, f386, f387, f388⟩ := hQ383
            have N383 := Fr.app N370 Nq384
            have M383 : h0.size ≤ T383.heap.size := Nat.le_trans M370 K385.1
            have O383 := Old.keep O370 K385 (allS g_b8 all0)
            have f389 := (f373.keep K385)
            have f390 := (f374.keep K385 (ninS ne360 nin0))
            have f391 := (f382.keep K385)
            obtain ⟨_, T392, L392, X392, hQ392, st392⟩ := own_vb X383 hx hZ hown (y := yn3) (own_w hw 48 rfl) (own_w hw 49 rfl) (own_w hw 50 rfl) (own_w hw 36 rfl) (own_w hw 40 rfl) (own_w hw 2 rfl) rfl f389 (argsL := []) (rest := []) (rm13 l Z a0 hw [] b1 b8 b23 T383.heap n0 O383 g_b1 g_b8 g_b23 f389 f390 f386 f387 f391) (g := (mkF m 268 #[.val (.long q1), .second, .val (.long q2), .second, .val (.long q3), .second, .val (.long q4), .second, .val (.int p5), .val (.ref b1), .val (.ref b8), .val (.ref b15), .val (.ref b23), .val (.int 2), .val (.int 1), .val (.int 0), .val (.ref b23), .unset, .unset, .unset] [(.ref b1)])) rfl (by rw [hml]; rfl) rfl (hb hby at_268) (lenOf pd3 rfl) (W := 0) (c1 := 4) (s1 := 8)
            obtain ⟨rfl, Nq393, e394⟩ := hQ392
            have N392 := Fr.app N383 Nq393
            obtain ⟨_, T395, L395, X395, hQ395, st395⟩ := own_vb X392 hx hZ hown (y := yn3) (own_w hw 48 rfl) (own_w hw 49 rfl) (own_w hw 50 rfl) (own_w hw 36 rfl) (own_w hw 40 rfl) (own_w hw 2 rfl) e394 f389 (argsL := []) (rest := []) (rm13 l Z a0 hw [] b1 b8 b23 T383.heap n0 O383 g_b1 g_b8 g_b23 f389 f390 f386 f387 f391) (g := (mkF m 275 #[.val (.long q1), .second, .val (.long q2), .second, .val (.long q3), .second, .val (.long q4), .second, .val (.int p5), .val (.ref b1), .val (.ref b8), .val (.ref b15), .val (.ref b23), .val (.int 2), .val (.int 1), .val (.int 0), .val (.ref b23), .val (.ref b23), .unset, .unset] [(.ref b1)])) rfl (by rw [hml]; rfl) rfl (hb hby at_275) (lenOf pd3 rfl) (W := 0) (c1 := 4) (s1 := 8)
            obtain ⟨rfl, Nq396, e397⟩ := hQ395
            have N395 := Fr.app N392 Nq396
            obtain ⟨T398, X398, e398, st398⟩ := own_id X395 hx hZ hown (z := yn4) (y := yn4) (own_w hw 53 rfl) (own_w hw 33 rfl) (mvT hZ (own_w hw 34 rfl)) (own_w hw 43 rfl) (own_w hw 44 rfl) (own_w hw 45 rfl) (own_w hw 46 rfl) (own_w hw 47 rfl) e397 f391 (plainFor_of_name pn2) d5_0 d5_1 (g := (mkF m 282 #[.val (.long q1), .second, .val (.long q2), .second, .val (.long q3), .second, .val (.long q4), .second, .val (.int p5), .val (.ref b1), .val (.ref b8), .val (.ref b15), .val (.ref b23), .val (.int 2), .val (.int 1), .val (.int 0), .val (.ref b23), .val (.ref b23), .val (.ref b23), .unset] [(.ref b23)])) rfl (by rw [hml]; rfl) rfl (hb hby at_282) (lenOf pd3 rfl) (W := 0)
            obtain ⟨fs, hr, hrun, hended, hW, hsame⟩ := X398.leave (v := some (.int 1)) (fun h => by rw [hret] at h; cases h)
            refine ⟨_, _, pre378 _ ?_, hrun, hended, _, _, rfl, ?_, ⟨_, rfl⟩, hW, hsame.mono (by decide) (by decide)⟩
            ·
              show Steps p.tables e below (T370.setTop (mkF m 119 #[.val (.long q1), .second, .val (.long q2), .second, .val (.long q3), .second, .val (.long q4), .second, .val (.int p5), .val (.ref b1), .val (.ref b8), .val (.ref b15), .val (.ref b23), .val (.int 2), .val (.int 1), .val (.int 0), .unset, .unset, .unset, .unset] [(.int 2), (.int 2)])) _
              refine XS.icmpNo X370.here hx rfl (hb hby at_119) rfl (teq (by decide : (2 : Int32) = (2 : Int32))).2 ?_
              refine XS.iload X370.here hx rfl (hb hby at_122) rfl ?_
              refine XS.ifNo X370.here hx rfl (hb hby at_124) rfl ((if0 _ _).trans (feq (by decide : ¬ ((1 : Int32) = (0 : Int32)))).1) ?_
              refine XS.aload X370.here hx rfl (hb hby at_127) rfl rfl ?_
              refine XS.aload X370.here hx rfl (hb hby at_129) rfl rfl ?_
              refine st383 _ ?_
              refine XS.goto X383.here hx rfl (pc0 := 134) (pc' := 144) rfl (hb hby at_134) (by decide) (by decide) ?_
              refine XS.iload X383.here hx rfl (hb hby at_144) rfl ?_
              refine XS.iconst X383.here hx rfl (hb hby at_146) ?_
              refine XS.icmpYes X383.here hx rfl (pc0 := 147) (pc' := 157) rfl (hb hby at_147) rfl (tlt (by decide : (2 : Int32) < (3 : Int32))).1 (by decide) (by decide) ?_
              refine XS.iload X383.here hx rfl (hb hby at_157) rfl ?_
              refine XS.ifYes X383.here hx rfl (pc0 := 159) (pc' := 169) rfl (hb hby at_159) rfl ((if0 _ _).trans (feq (by decide : ¬ ((2 : Int32) = (0 : Int32)))).2) (by decide) (by decide) ?_
              refine XS.iload X383.here hx rfl (hb hby at_169) rfl ?_
              refine XS.iconst X383.here hx rfl (hb hby at_171) ?_
              refine XS.icmpYes X383.here hx rfl (pc0 := 172) (pc' := 194) rfl (hb hby at_172) rfl (feq (by decide : ¬ ((2 : Int32) = (1 : Int32)))).2 (by decide) (by decide) ?_
              refine XS.iload X383.here hx rfl (hb hby at_194) rfl ?_
              refine XS.iconst X383.here hx rfl (hb hby at_196) ?_
              refine XS.icmpNo X383.here hx rfl (hb hby at_197) rfl (teq (by decide : (2 : Int32) = (2 : Int32))).2 ?_
              refine XS.iload X383.here hx rfl (hb hby at_200) rfl ?_
              refine XS.ifNo X383.here hx rfl (hb hby at_202) rfl ((if0 _ _).trans (feq (by decide : ¬ ((1 : Int32) = (0 : Int32)))).1) ?_
              refine XS.aload X383.here hx rfl (hb hby at_205) rfl rfl ?_
              refine XS.astore X383.here hx rfl (hb hby at_207) rfl rfl (l' := #[.val (.long q1), .second, .val (.long q2), .second, .val (.long q3), .second, .val (.long q4), .second, .val (.int p5), .val (.ref b1), .val (.ref b8), .val (.ref b15), .val (.ref b23), .val (.int 2), .val (.int 1), .val (.int 0), .val (.ref b23), .unset, .unset, .unset]) rfl ?_
              refine XS.goto X383.here hx rfl (pc0 := 209) (pc' := 223) rfl (hb hby at_209) (by decide) (by decide) ?_
              refine XS.iload X383.here hx rfl (hb hby at_223) rfl ?_
              refine XS.ifYes X383.here hx rfl (pc0 := 225) (pc' := 246) rfl (hb hby at_225) rfl ((if0 _ _).trans (teq (by decide : (0 : Int32) = (0 : Int32))).1) (by decide) (by decide) ?_
              refine XS.iload X383.here hx rfl (hb hby at_246) rfl ?_
              refine XS.ifYes X383.here hx rfl (pc0 := 248) (pc' := 266) rfl (hb hby at_248) rfl ((if0 _ _).trans (teq (by decide : (0 : Int32) = (0 : Int32))).1) (by decide) (by decide) ?_
              show Steps p.tables e below (T383.setTop (mkF m 266 #[.val (.long q1), .second, .val (.long q2), .second, .val (.long q3), .second, .val (.long q4), .second, .val (.int p5), .val (.ref b1), .val (.ref b8), .val (.ref b15), .val (.ref b23), .val (.int 2), .val (.int 1), .val (.int 0), .val (.ref b23), .unset, .unset, .unset] [])) _
              refine XS.aload X383.here hx rfl (hb hby at_266) rfl rfl ?_
              refine st392 _ ?_
              refine XS.astore X392.here hx rfl (hb hby at_271) rfl rfl (l' := #[.val (.long q1), .second, .val (.long q2), .second, .val (.long q3), .second, .val (.long q4), .second, .val (.int p5), .val (.ref b1), .val (.ref b8), .val (.ref b15), .val (.ref b23), .val (.int 2), .val (.int 1), .val (.int 0), .val (.ref b23), .val (.ref b23), .unset, .unset]) rfl ?_
              refine XS.aload X392.here hx rfl (hb hby at_273) rfl rfl ?_
              refine st395 _ ?_
              refine XS.astore X395.here hx rfl (hb hby at_278) rfl rfl (l' := #[.val (.long q1), .second, .val (.long q2), .second, .val (.long q3), .second, .val (.long q4), .second, .val (.int p5), .val (.ref b1), .val (.ref b8), .val (.ref b15), .val (.ref b23), .val (.int 2), .val (.int 1), .val (.int 0), .val (.ref b23), .val (.ref b23), .val (.ref b23), .unset]) rfl ?_
              refine XS.aload X395.here hx rfl (hb hby at_280) rfl rfl ?_
              refine st398 _ ?_
              refine XS.astore X398.here hx rfl (hb hby at_287) rfl rfl (l' := #[.val (.long q1), .second, .val (.long q2), .second, .val (.long q3), .second, .val (.long q4), .second, .val (.int p5), .val (.ref b1), .val (.ref b8), .val (.ref b15), .val (.ref b23), .val (.int 2), .val (.int 1), .val (.int 0), .val (.ref b23), .val (.ref b23), .val (.ref b23), .val (.ref b23)]) rfl ?_
              refine XS.aload X398.here hx rfl (hb hby at_289) rfl rfl ?_
              refine XS.aload X398.here hx rfl (hb hby at_291) rfl rfl ?_
              refine Jvm.RoadKit.acmp (g := (mkF m 293 #[.val (.long q1), .second, .val (.long q2), .second, .val (.long q3), .second, .val (.long q4), .second, .val (.int p5), .val (.ref b1), .val (.ref b8), .val (.ref b15), .val (.ref b23), .val (.int 2), .val (.int 1), .val (.int 0), .val (.ref b23), .val (.ref b23), .val (.ref b23), .val (.ref b23)] [(.ref b23), (.ref b23)])) X398 hx rfl rfl rfl (pc0 := 293) (pc' := 296) (same := true) rfl (hb hby at_293) rfl (decide_eq_true rfl) (by decide) (by decide) ?_
              refine XS.aload X398.here hx rfl (hb hby at_296) rfl rfl ?_
              refine XS.aload X398.here hx rfl (hb hby at_298) rfl rfl ?_
              refine Jvm.RoadKit.acmp (g := (mkF m 300 #[.val (.long q1), .second, .val (.long q2), .second, .val (.long q3), .second, .val (.long q4), .second, .val (.int p5), .val (.ref b1), .val (.ref b8), .val (.ref b15), .val (.ref b23), .val (.int 2), .val (.int 1), .val (.int 0), .val (.ref b23), .val (.ref b23), .val (.ref b23), .val (.ref b23)] [(.ref b23), (.ref b23)])) X398 hx rfl rfl rfl (pc0 := 300) (pc' := 303) (same := true) rfl (hb hby at_300) rfl (decide_eq_true rfl) (by decide) (by decide) ?_
              refine XS.aload X398.here hx rfl (hb hby at_303) rfl rfl ?_
              refine XS.aload X398.here hx rfl (hb hby at_305) rfl rfl ?_
              refine Jvm.RoadKit.acmp (g := (mkF m 307 #[.val (.long q1), .second, .val (.long q2), .second, .val (.long q3), .second, .val (.long q4), .second, .val (.int p5), .val (.ref b1), .val (.ref b8), .val (.ref b15), .val (.ref b23), .val (.int 2), .val (.int 1), .val (.int 0), .val (.ref b23), .val (.ref b23), .val (.ref b23), .val (.ref b23)] [(.ref b23), (.ref b23)])) X398 hx rfl rfl rfl (pc0 := 307) (pc' := 310) (same := true) rfl (hb hby at_307) rfl (decide_eq_true rfl) (by decide) (by decide) ?_
              refine XS.iconst X398.here hx rfl (hb hby at_310) ?_
              refine XS.goto X398.here hx rfl (pc0 := 311) (pc' := 315) rfl (hb hby at_311) (by decide) (by decide) ?_
              show Steps p.tables e below (T398.setTop (mkF m 315 #[.val (.long q1), .second, .val (.long q2), .second, .val (.long q3), .second, .val (.long q4), .second, .val (.int p5), .val (.ref b1), .val (.ref b8), .val (.ref b15), .val (.ref b23), .val (.int 2), .val (.int 1), .val (.int 0), .val (.ref b23), .val (.ref b23), .val (.ref b23), .val (.ref b23)] [(.int 1)])) _
              exact retN X398 hx (t := .boolean) hret (by simp) (hb hby at_315) hr
            ·
              show Q0 n0 _ T398.heap _
              rw [e398]
              exact ⟨rfl, N395⟩
          ·
            have hq399 : (p5 &&& (3 : Int32)) = (3 : Int32) := (own_geq (n := 3) (k := (3 : Int32)) (by decide) (by have q0 := own_and (x := p5) (k := (3 : Int32)) (n := 3) (by decide) (by decide); have q1 := own_nlt1 (n := 1) (k := (1 : Int32)) (by decide) hc317; have q2 := own_neq (n := 1) (k := (1 : Int32)) (by decide) hc336; have q3 := own_neq (n := 2) (k := (2 : Int32)) (by decide) hc377; omega))
            have pre400 : ∀ t, Steps p.tables e below (T370.setTop (mkF m 119 #[.val (.long q1), .second, .val (.long q2), .second, .val (.long q3), .second, .val (.long q4), .second, .val (.int p5), .val (.ref b1), .val (.ref b8), .val (.ref b15), .val (.ref b23), .val (.int 3), .val (.int 1), .val (.int 0), .unset, .unset, .unset, .unset] [(.int 2), (.int 3)])) t → Steps p.tables e below (s₁.setTop (entryFrame m #[(.long q1), (.long q2), (.long q3), (.long q4), (.int p5)] maxLocals)) t := fun t k => pre376 t (by rw [hq399]; exact k)
            have f401 := (f366.keep K372)
            have f402 := (f369.keep K372 (ninS (Ne.symm ne360) nin0))
            have f403 := ((((f14.ext E15).keep K18 (ninS ne368 nin0)).keep K25 nin0).keep K372 (ninS (Ne.symm ne360) nin0))
            have f404 := ((f19.keep K25).keep K372)
            have f405 := ((f20.keep K25 nin0).keep K372 (ninS (Ne.symm ne363) nin0))
            obtain ⟨_, T406, L406, X406, hQ406, st406⟩ := own_vb X370 hx hZ hown (y := yn5) (own_w hw 25 rfl) (own_w hw 26 rfl) (own_w hw 28 rfl) (own_w hw 27 rfl) (own_w hw 29 rfl) (own_w hw 2 rfl) rfl f401 (argsL := [(.ref b15)]) (rest := []) (rm5 l Z a0 hw [] b8 b15 q2 T370.heap n0 O370 g_b8 g_b15 (Ne.symm ne368) f401 f402 f403 f404 f405) (g := (mkF m 141 #[.val (.long q1), .second, .val (.long q2), .second, .val (.long q3), .second, .val (.long q4), .second, .val (.int p5), .val (.ref b1), .val (.ref b8), .val (.ref b15), .val (.ref b23), .val (.int 3), .val (.int 1), .val (.int 0), .unset, .unset, .unset, .unset] [(.ref b15), (.ref b8)])) rfl (by rw [hml]; rfl) rfl (hb hby at_141) (lenOf pd4 rfl) (W := 0) (c1 := 4) (s1 := 8)
            obtain ⟨rfl, Nq407, K408, f409, f410, f411⟩ := hQ406
            have N406 := Fr.app N370 Nq407
            have M406 : h0.size ≤ T406.heap.size := Nat.le_trans M370 K408.1
            have O406 := Old.keep O370 K408 (allS g_b8 all0)
            have f412 := (f404.keep K408)
            have f413 := (f405.keep K408 (ninS (Ne.symm ne368) nin0))
            have f414 := (((f21.keep K25 nin0).keep K372 (ninS (Ne.symm ne363) nin0)).keep K408 (ninS (Ne.symm ne368) nin0))
            have f415 := ((f26.keep K372).keep K408)
            obtain ⟨_, T416, L416, X416, hQ416, st416⟩ := own_vb X406 hx hZ hown (y := yn5) (own_w hw 25 rfl) (own_w hw 26 rfl) (own_w hw 28 rfl) (own_w hw 27 rfl) (own_w hw 29 rfl) (own_w hw 2 rfl) rfl f412 (argsL := [(.ref b23)]) (rest := []) (rm8 l Z a0 hw [] b15 b23 q3 T406.heap n0 O406 g_b15 g_b23 f412 f413 f414 f415) (g := (mkF m 154 #[.val (.long q1), .second, .val (.long q2), .second, .val (.long q3), .second, .val (.long q4), .second, .val (.int p5), .val (.ref b1), .val (.ref b8), .val (.ref b15), .val (.ref b23), .val (.int 3), .val (.int 1), .val (.int 0), .unset, .unset, .unset, .unset] [(.ref b23), (.ref b15)])) rfl (by rw [hml]; rfl) rfl (hb hby at_154) (lenOf pd4 rfl) (W := 0) (c1 := 4) (s1 := 8)
            obtain ⟨rfl, Nq417, K418, f419, f420, f421⟩ := hQ416
            have N416 := Fr.app N406 Nq417
            have M416 : h0.size ≤ T416.heap.size := Nat.le_trans M406 K418.1
            have O416 := Old.keep O406 K418 (allS g_b15 all0)
            have f422 := ((f373.keep K408).keep K418)
            have f423 := ((f374.keep K408 (ninS ne360 nin0)).keep K418 (ninS ne363 nin0))
            have f424 := (f409.keep K418)
            have f425 := (f410.keep K418 (ninS ne368 nin0))
            have f426 := (f415.keep K418)
            obtain ⟨_, T427, L427, X427, hQ427, st427⟩ := own_vb X416 hx hZ hown (y := yn3) (own_w hw 48 rfl) (own_w hw 49 rfl) (own_w hw 50 rfl) (own_w hw 36 rfl) (own_w hw 40 rfl) (own_w hw 2 rfl) rfl f422 (argsL := []) (rest := []) (rm9 l Z a0 hw [] b1 b8 b15 b23 T416.heap n0 O416 g_b1 g_b8 g_b15 g_b23 f422 f423 f424 f425 f419 f420 f426) (g := (mkF m 268 #[.val (.long q1), .second, .val (.long q2), .second, .val (.long q3), .second, .val (.long q4), .second, .val (.int p5), .val (.ref b1), .val (.ref b8), .val (.ref b15), .val (.ref b23), .val (.int 3), .val (.int 1), .val (.int 0), .val (.ref b23), .unset, .unset, .unset] [(.ref b1)])) rfl (by rw [hml]; rfl) rfl (hb hby at_268) (lenOf pd3 rfl) (W := 0) (c1 := 4) (s1 := 8)
            obtain ⟨rfl, Nq428, e429⟩ := hQ427
            have N427 := Fr.app N416 Nq428
            obtain ⟨_, T430, L430, X430, hQ430, st430⟩ := own_vb X427 hx hZ hown (y := yn3) (own_w hw 48 rfl) (own_w hw 49 rfl) (own_w hw 50 rfl) (own_w hw 36 rfl) (own_w hw 40 rfl) (own_w hw 2 rfl) e429 f422 (argsL := []) (rest := []) (rm9 l Z a0 hw [] b1 b8 b15 b23 T416.heap n0 O416 g_b1 g_b8 g_b15 g_b23 f422 f423 f424 f425 f419 f420 f426) (g := (mkF m 275 #[.val (.long q1), .second, .val (.long q2), .second, .val (.long q3), .second, .val (.long q4), .second, .val (.int p5), .val (.ref b1), .val (.ref b8), .val (.ref b15), .val (.ref b23), .val (.int 3), .val (.int 1), .val (.int 0), .val (.ref b23), .val (.ref b23), .unset, .unset] [(.ref b1)])) rfl (by rw [hml]; rfl) rfl (hb hby at_275) (lenOf pd3 rfl) (W := 0) (c1 := 4) (s1 := 8)
            obtain ⟨rfl, Nq431, e432⟩ := hQ430
            have N430 := Fr.app N427 Nq431
            obtain ⟨T433, X433, e433, st433⟩ := own_id X430 hx hZ hown (z := yn4) (y := yn4) (own_w hw 53 rfl) (own_w hw 33 rfl) (mvT hZ (own_w hw 34 rfl)) (own_w hw 43 rfl) (own_w hw 44 rfl) (own_w hw 45 rfl) (own_w hw 46 rfl) (own_w hw 47 rfl) e432 f426 (plainFor_of_name pn2) d5_0 d5_1 (g := (mkF m 282 #[.val (.long q1), .second, .val (.long q2), .second, .val (.long q3), .second, .val (.long q4), .second, .val (.int p5), .val (.ref b1), .val (.ref b8), .val (.ref b15), .val (.ref b23), .val (.int 3), .val (.int 1), .val (.int 0), .val (.ref b23), .val (.ref b23), .val (.ref b23), .unset] [(.ref b23)])) rfl (by rw [hml]; rfl) rfl (hb hby at_282) (lenOf pd3 rfl) (W := 0)
            obtain ⟨fs, hr, hrun, hended, hW, hsame⟩ := X433.leave (v := some (.int 1)) (fun h => by rw [hret] at h; cases h)
            refine ⟨_, _, pre400 _ ?_, hrun, hended, _, _, rfl, ?_, ⟨_, rfl⟩, hW, hsame.mono (by decide) (by decide)⟩
            ·
              show Steps p.tables e below (T370.setTop (mkF m 119 #[.val (.long q1), .second, .val (.long q2), .second, .val (.long q3), .second, .val (.long q4), .second, .val (.int p5), .val (.ref b1), .val (.ref b8), .val (.ref b15), .val (.ref b23), .val (.int 3), .val (.int 1), .val (.int 0), .unset, .unset, .unset, .unset] [(.int 2), (.int 3)])) _
              refine XS.icmpYes X370.here hx rfl (pc0 := 119) (pc' := 137) rfl (hb hby at_119) rfl (feq (by decide : ¬ ((3 : Int32) = (2 : Int32)))).2 (by decide) (by decide) ?_
              refine XS.aload X370.here hx rfl (hb hby at_137) rfl rfl ?_
              refine XS.aload X370.here hx rfl (hb hby at_139) rfl rfl ?_
              refine st406 _ ?_
              refine XS.iload X406.here hx rfl (hb hby at_144) rfl ?_
              refine XS.iconst X406.here hx rfl (hb hby at_146) ?_
              refine XS.icmpNo X406.here hx rfl (hb hby at_147) rfl (flt (by decide : ¬ ((3 : Int32) < (3 : Int32)))).1 ?_
              refine XS.aload X406.here hx rfl (hb hby at_150) rfl rfl ?_
              refine XS.aload X406.here hx rfl (hb hby at_152) rfl rfl ?_
              refine st416 _ ?_
              refine XS.iload X416.here hx rfl (hb hby at_157) rfl ?_
              refine XS.ifYes X416.here hx rfl (pc0 := 159) (pc' := 169) rfl (hb hby at_159) rfl ((if0 _ _).trans (feq (by decide : ¬ ((3 : Int32) = (0 : Int32)))).2) (by decide) (by decide) ?_
              refine XS.iload X416.here hx rfl (hb hby at_169) rfl ?_
              refine XS.iconst X416.here hx rfl (hb hby at_171) ?_
              refine XS.icmpYes X416.here hx rfl (pc0 := 172) (pc' := 194) rfl (hb hby at_172) rfl (feq (by decide : ¬ ((3 : Int32) = (1 : Int32)))).2 (by decide) (by decide) ?_
              refine XS.iload X416.here hx rfl (hb hby at_194) rfl ?_
              refine XS.iconst X416.here hx rfl (hb hby at_196) ?_
              refine XS.icmpYes X416.here hx rfl (pc0 := 197) (pc' := 219) rfl (hb hby at_197) rfl (feq (by decide : ¬ ((3 : Int32) = (2 : Int32)))).2 (by decide) (by decide) ?_
              refine XS.aload X416.here hx rfl (hb hby at_219) rfl rfl ?_
              refine XS.astore X416.here hx rfl (hb hby at_221) rfl rfl (l' := #[.val (.long q1), .second, .val (.long q2), .second, .val (.long q3), .second, .val (.long q4), .second, .val (.int p5), .val (.ref b1), .val (.ref b8), .val (.ref b15), .val (.ref b23), .val (.int 3), .val (.int 1), .val (.int 0), .val (.ref b23), .unset, .unset, .unset]) rfl ?_
              refine XS.iload X416.here hx rfl (hb hby at_223) rfl ?_
              refine XS.ifYes X416.here hx rfl (pc0 := 225) (pc' := 246) rfl (hb hby at_225) rfl ((if0 _ _).trans (teq (by decide : (0 : Int32) = (0 : Int32))).1) (by decide) (by decide) ?_
              refine XS.iload X416.here hx rfl (hb hby at_246) rfl ?_
              refine XS.ifYes X416.here hx rfl (pc0 := 248) (pc' := 266) rfl (hb hby at_248) rfl ((if0 _ _).trans (teq (by decide : (0 : Int32) = (0 : Int32))).1) (by decide) (by decide) ?_
              refine XS.aload X416.here hx rfl (hb hby at_266) rfl rfl ?_
              refine st427 _ ?_
              refine XS.astore X427.here hx rfl (hb hby at_271) rfl rfl (l' := #[.val (.long q1), .second, .val (.long q2), .second, .val (.long q3), .second, .val (.long q4), .second, .val (.int p5), .val (.ref b1), .val (.ref b8), .val (.ref b15), .val (.ref b23), .val (.int 3), .val (.int 1), .val (.int 0), .val (.ref b23), .val (.ref b23), .unset, .unset]) rfl ?_
              show Steps p.tables e below (T427.setTop (mkF m 273 #[.val (.long q1), .second, .val (.long q2), .second, .val (.long q3), .second, .val (.long q4), .second, .val (.int p5), .val (.ref b1), .val (.ref b8), .val (.ref b15), .val (.ref b23), .val (.int 3), .val (.int 1), .val (.int 0), .val (.ref b23), .val (.ref b23), .unset, .unset] [])) _
              refine XS.aload X427.here hx rfl (hb hby at_273) rfl rfl ?_
              refine st430 _ ?_
              refine XS.astore X430.here hx rfl (hb hby at_278) rfl rfl (l' := #[.val (.long q1), .second, .val (.long q2), .second, .val (.long q3), .second, .val (.long q4), .second, .val (.int p5), .val (.ref b1), .val (.ref b8), .val (.ref b15), .val (.ref b23), .val (.int 3), .val (.int 1), .val (.int 0), .val (.ref b23), .val (.ref b23), .val (.ref b23), .unset]) rfl ?_
              refine XS.aload X430.here hx rfl (hb hby at_280) rfl rfl ?_
              refine st433 _ ?_
              refine XS.astore X433.here hx rfl (hb hby at_287) rfl rfl (l' := #[.val (.long q1), .second, .val (.long q2), .second, .val (.long q3), .second, .val (.long q4), .second, .val (.int p5), .val (.ref b1), .val (.ref b8), .val (.ref b15), .val (.ref b23), .val (.int 3), .val (.int 1), .val (.int 0), .val (.ref b23), .val (.ref b23), .val (.ref b23), .val (.ref b23)]) rfl ?_
              refine XS.aload X433.here hx rfl (hb hby at_289) rfl rfl ?_
              refine XS.aload X433.here hx rfl (hb hby at_291) rfl rfl ?_
              refine Jvm.RoadKit.acmp (g := (mkF m 293 #[.val (.long q1), .second, .val (.long q2), .second, .val (.long q3), .second, .val (.long q4), .second, .val (.int p5), .val (.ref b1), .val (.ref b8), .val (.ref b15), .val (.ref b23), .val (.int 3), .val (.int 1), .val (.int 0), .val (.ref b23), .val (.ref b23), .val (.ref b23), .val (.ref b23)] [(.ref b23), (.ref b23)])) X433 hx rfl rfl rfl (pc0 := 293) (pc' := 296) (same := true) rfl (hb hby at_293) rfl (decide_eq_true rfl) (by decide) (by decide) ?_
              refine XS.aload X433.here hx rfl (hb hby at_296) rfl rfl ?_
              refine XS.aload X433.here hx rfl (hb hby at_298) rfl rfl ?_
              refine Jvm.RoadKit.acmp (g := (mkF m 300 #[.val (.long q1), .second, .val (.long q2), .second, .val (.long q3), .second, .val (.long q4), .second, .val (.int p5), .val (.ref b1), .val (.ref b8), .val (.ref b15), .val (.ref b23), .val (.int 3), .val (.int 1), .val (.int 0), .val (.ref b23), .val (.ref b23), .val (.ref b23), .val (.ref b23)] [(.ref b23), (.ref b23)])) X433 hx rfl rfl rfl (pc0 := 300) (pc' := 303) (same := true) rfl (hb hby at_300) rfl (decide_eq_true rfl) (by decide) (by decide) ?_
              refine XS.aload X433.here hx rfl (hb hby at_303) rfl rfl ?_
              refine XS.aload X433.here hx rfl (hb hby at_305) rfl rfl ?_
              refine Jvm.RoadKit.acmp (g := (mkF m 307 #[.val (.long q1), .second, .val (.long q2), .second, .val (.long q3), .second, .val (.long q4), .second, .val (.int p5), .val (.ref b1), .val (.ref b8), .val (.ref b15), .val (.ref b23), .val (.int 3), .val (.int 1), .val (.int 0), .val (.ref b23), .val (.ref b23), .val (.ref b23), .val (.ref b23)] [(.ref b23), (.ref b23)])) X433 hx rfl rfl rfl (pc0 := 307) (pc' := 310) (same := true) rfl (hb hby at_307) rfl (decide_eq_true rfl) (by decide) (by decide) ?_
              refine XS.iconst X433.here hx rfl (hb hby at_310) ?_
              refine XS.goto X433.here hx rfl (pc0 := 311) (pc' := 315) rfl (hb hby at_311) (by decide) (by decide) ?_
              show Steps p.tables e below (T433.setTop (mkF m 315 #[.val (.long q1), .second, .val (.long q2), .second, .val (.long q3), .second, .val (.long q4), .second, .val (.int p5), .val (.ref b1), .val (.ref b8), .val (.ref b15), .val (.ref b23), .val (.int 3), .val (.int 1), .val (.int 0), .val (.ref b23), .val (.ref b23), .val (.ref b23), .val (.ref b23)] [(.int 1)])) _
              exact retN X433 hx (t := .boolean) hret (by simp) (hb hby at_315) hr
            ·
              show Q0 n0 _ T433.heap _
              rw [e433]
              exact ⟨rfl, N430⟩
    ·
      have hq434 : ((p5 >>> ((3 : Int32) &&& 31)) &&& (1 : Int32)) = (1 : Int32) := (own_geq (n := 1) (k := (1 : Int32)) (by decide) (by have q0 := own_and (x := (p5 >>> ((3 : Int32) &&& 31))) (k := (1 : Int32)) (n := 1) (by decide) (by decide); have q1 := own_neq (n := 0) (k := (0 : Int32)) (by decide) hc314; omega))
      have pre435 : ∀ t, Steps p.tables e below (T22.setTop (mkF m 66 #[.val (.long q1), .second, .val (.long q2), .second, .val (.long q3), .second, .val (.long q4), .second, .val (.int p5), .val (.ref b1), .val (.ref b8), .val (.ref b15), .val (.ref b23), .val (.int (p5 &&& (3 : Int32))), .val (.int 1), .unset, .unset, .unset, .unset, .unset] [(.int 1)])) t → Steps p.tables e below (s₁.setTop (entryFrame m #[(.long q1), (.long q2), (.long q3), (.long q4), (.int p5)] maxLocals)) t := fun t k => pre313 t (by rw [hq434]; exact k)
      have pre436 : ∀ t, Steps p.tables e below (T22.setTop (mkF m 79 #[.val (.long q1), .second, .val (.long q2), .second, .val (.long q3), .second, .val (.long q4), .second, .val (.int p5), .val (.ref b1), .val (.ref b8), .val (.ref b15), .val (.ref b23), .val (.int (p5 &&& (3 : Int32))), .val (.int 1), .val (.int 1), .unset, .unset, .unset, .unset] [(.int 1), (.int (p5 &&& (3 : Int32)))])) t → Steps p.tables e below (s₁.setTop (entryFrame m #[(.long q1), (.long q2), (.long q3), (.long q4), (.int p5)] maxLocals)) t := fun t k => by
        refine pre435 _ ?_
        show Steps p.tables e below (T22.setTop (mkF m 66 #[.val (.long q1), .second, .val (.long q2), .second, .val (.long q3), .second, .val (.long q4), .second, .val (.int p5), .val (.ref b1), .val (.ref b8), .val (.ref b15), .val (.ref b23), .val (.int (p5 &&& (3 : Int32))), .val (.int 1), .unset, .unset, .unset, .unset, .unset] [(.int 1)])) _
        refine XS.ifNo X22.here hx rfl (hb hby at_66) rfl ((if0 _ _).trans (feq (by decide : ¬ ((1 : Int32) = (0 : Int32)))).1) ?_
        refine XS.iconst X22.here hx rfl (hb hby at_69) ?_
        refine XS.goto X22.here hx rfl (pc0 := 70) (pc' := 74) rfl (hb hby at_70) (by decide) (by decide) ?_
        refine XS.istore X22.here hx rfl (hb hby at_74) rfl (l' := #[.val (.long q1), .second, .val (.long q2), .second, .val (.long q3), .second, .val (.long q4), .second, .val (.int p5), .val (.ref b1), .val (.ref b8), .val (.ref b15), .val (.ref b23), .val (.int (p5 &&& (3 : Int32))), .val (.int 1), .val (.int 1), .unset, .unset, .unset, .unset]) rfl ?_
        show Steps p.tables e below (T22.setTop (mkF m 76 #[.val (.long q1), .second, .val (.long q2), .second, .val (.long q3), .second, .val (.long q4), .second, .val (.int p5), .val (.ref b1), .val (.ref b8), .val (.ref b15), .val (.ref b23), .val (.int (p5 &&& (3 : Int32))), .val (.int 1), .val (.int 1), .unset, .unset, .unset, .unset] [])) _
        refine XS.iload X22.here hx rfl (hb hby at_76) rfl ?_
        refine XS.iconst X22.here hx rfl (hb hby at_78) ?_
        exact k
      by_cases hc437 : (p5 &&& (3 : Int32)) < (1 : Int32)
      ·
        have hq438 : (p5 &&& (3 : Int32)) = (0 : Int32) := (own_geq (n := 0) (k := (0 : Int32)) (by decide) (by have q0 := own_and (x := p5) (k := (3 : Int32)) (n := 3) (by decide) (by decide); have q1 := own_lt1 (n := 1) (k := (1 : Int32)) (by decide) hc437; omega))
        have pre439 : ∀ t, Steps p.tables e below (T22.setTop (mkF m 79 #[.val (.long q1), .second, .val (.long q2), .second, .val (.long q3), .second, .val (.long q4), .second, .val (.int p5), .val (.ref b1), .val (.ref b8), .val (.ref b15), .val (.ref b23), .val (.int 0), .val (.int 1), .val (.int 1), .unset, .unset, .unset, .unset] [(.int 1), (.int 0)])) t → Steps p.tables e below (s₁.setTop (entryFrame m #[(.long q1), (.long q2), (.long q3), (.long q4), (.int p5)] maxLocals)) t := fun t k => pre436 t (by rw [hq438]; exact k)
        have f440 := (((((f5.ext E8).keep K11).ext E15).keep K18).keep K25)
        have lt441 : b1 < T2.heap.size := (Nat.lt_of_lt_of_le A1.lt K4.1)
        have ne442 : b1 ≠ b8 := Nat.ne_of_lt (Nat.lt_of_lt_of_le lt441 sz_b8)
        have lt443 : b1 < T9.heap.size := (Nat.lt_of_lt_of_le (Nat.lt_of_lt_of_le (Nat.lt_of_lt_of_le A1.lt K4.1) E8.1) K11.1)
        have ne444 : b1 ≠ b15 := Nat.ne_of_lt (Nat.lt_of_lt_of_le lt443 sz_b15)
        have f445 := (((((f6.ext E8).keep K11 (ninS ne442 nin0)).ext E15).keep K18 (ninS ne444 nin0)).keep K25 nin0)
        obtain ⟨_, T446, L446, X446, hQ446, st446⟩ := own_vb X22 hx hZ hown (y := yn3) (own_w hw 48 rfl) (own_w hw 49 rfl) (own_w hw 50 rfl) (own_w hw 36 rfl) (own_w hw 40 rfl) (own_w hw 2 rfl) rfl f440 (argsL := []) (rest := []) (rm4 l Z a0 hw [] b1 T22.heap n0 O22 g_b1 f440 f445) (g := (mkF m 268 #[.val (.long q1), .second, .val (.long q2), .second, .val (.long q3), .second, .val (.long q4), .second, .val (.int p5), .val (.ref b1), .val (.ref b8), .val (.ref b15), .val (.ref b23), .val (.int 0), .val (.int 1), .val (.int 1), .val (.ref b1), .unset, .unset, .unset] [(.ref b1)])) rfl (by rw [hml]; rfl) rfl (hb hby at_268) (lenOf pd3 rfl) (W := 0) (c1 := 4) (s1 := 8)
        obtain ⟨rfl, Nq447, e448⟩ := hQ446
        have N446 := Fr.app N22 Nq447
        obtain ⟨_, T449, L449, X449, hQ449, st449⟩ := own_vb X446 hx hZ hown (y := yn3) (own_w hw 48 rfl) (own_w hw 49 rfl) (own_w hw 50 rfl) (own_w hw 36 rfl) (own_w hw 40 rfl) (own_w hw 2 rfl) e448 f440 (argsL := []) (rest := []) (rm4 l Z a0 hw [] b1 T22.heap n0 O22 g_b1 f440 f445) (g := (mkF m 275 #[.val (.long q1), .second, .val (.long q2), .second, .val (.long q3), .second, .val (.long q4), .second, .val (.int p5), .val (.ref b1), .val (.ref b8), .val (.ref b15), .val (.ref b23), .val (.int 0), .val (.int 1), .val (.int 1), .val (.ref b1), .val (.ref b1), .unset, .unset] [(.ref b1)])) rfl (by rw [hml]; rfl) rfl (hb hby at_275) (lenOf pd3 rfl) (W := 0) (c1 := 4) (s1 := 8)
        obtain ⟨rfl, Nq450, e451⟩ := hQ449
        have N449 := Fr.app N446 Nq450
        obtain ⟨_, T452, L452, X452, hQ452, st452⟩ := own_ib X449 hx hZ hown (z := yn4) (y := yn3) (own_w hw 53 rfl) (own_w hw 33 rfl) (mvT hZ (own_w hw 34 rfl)) (own_w hw 35 rfl) (own_w hw 36 rfl) (own_w hw 37 rfl) (mvT hZ (own_w hw 38 rfl)) (own_w hw 39 rfl) (own_w hw 40 rfl) (own_w hw 2 rfl) e451 f440 (argsL := []) (rest := []) (rm4 l Z a0 hw [] b1 T22.heap n0 O22 g_b1 f440 f445) (g := (mkF m 282 #[.val (.long q1), .second, .val (.long q2), .second, .val (.long q3), .second, .val (.long q4), .second, .val (.int p5), .val (.ref b1), .val (.ref b8), .val (.ref b15), .val (.ref b23), .val (.int 0), .val (.int 1), .val (.int 1), .val (.ref b1), .val (.ref b1), .val (.ref b1), .unset] [(.ref b1)])) rfl (by rw [hml]; rfl) rfl (hb hby at_282) (lenOf pd3 rfl) (W := 0) (c1 := 4) (s1 := 8)
        obtain ⟨rfl, Nq453, e454⟩ := hQ452
        have N452 := Fr.app N449 Nq453
        obtain ⟨fs, hr, hrun, hended, hW, hsame⟩ := X452.leave (v := some (.int 1)) (fun h => by rw [hret] at h; cases h)
        refine ⟨_, _, pre439 _ ?_, hrun, hended, _, _, rfl, ?_, ⟨_, rfl⟩, hW, hsame.mono (by decide) (by decide)⟩
        ·
          show Steps p.tables e below (T22.setTop (mkF m 79 #[.val (.long q1), .second, .val (.long q2), .second, .val (.long q3), .second, .val (.long q4), .second, .val (.int p5), .val (.ref b1), .val (.ref b8), .val (.ref b15), .val (.ref b23), .val (.int 0), .val (.int 1), .val (.int 1), .unset, .unset, .unset, .unset] [(.int 1), (.int 0)])) _
          refine XS.icmpYes X22.here hx rfl (pc0 := 79) (pc' := 110) rfl (hb hby at_79) rfl (tlt (by decide : (0 : Int32) < (1 : Int32))).1 (by decide) (by decide) ?_
          refine XS.iload X22.here hx rfl (hb hby at_110) rfl ?_
          refine XS.iconst X22.here hx rfl (hb hby at_112) ?_
          refine XS.icmpYes X22.here hx rfl (pc0 := 113) (pc' := 144) rfl (hb hby at_113) rfl (tlt (by decide : (0 : Int32) < (2 : Int32))).1 (by decide) (by decide) ?_
          refine XS.iload X22.here hx rfl (hb hby at_144) rfl ?_
          refine XS.iconst X22.here hx rfl (hb hby at_146) ?_
          refine XS.icmpYes X22.here hx rfl (pc0 := 147) (pc' := 157) rfl (hb hby at_147) rfl (tlt (by decide : (0 : Int32) < (3 : Int32))).1 (by decide) (by decide) ?_
          refine XS.iload X22.here hx rfl (hb hby at_157) rfl ?_
          refine XS.ifNo X22.here hx rfl (hb hby at_159) rfl ((if0 _ _).trans (teq (by decide : (0 : Int32) = (0 : Int32))).2) ?_
          refine XS.aload X22.here hx rfl (hb hby at_162) rfl rfl ?_
          refine XS.astore X22.here hx rfl (hb hby at_164) rfl rfl (l' := #[.val (.long q1), .second, .val (.long q2), .second, .val (.long q3), .second, .val (.long q4), .second, .val (.int p5), .val (.ref b1), .val (.ref b8), .val (.ref b15), .val (.ref b23), .val (.int 0), .val (.int 1), .val (.int 1), .val (.ref b1), .unset, .unset, .unset]) rfl ?_
          refine XS.goto X22.here hx rfl (pc0 := 166) (pc' := 223) rfl (hb hby at_166) (by decide) (by decide) ?_
          refine XS.iload X22.here hx rfl (hb hby at_223) rfl ?_
          refine XS.ifNo X22.here hx rfl (hb hby at_225) rfl ((if0 _ _).trans (feq (by decide : ¬ ((1 : Int32) = (0 : Int32)))).1) ?_
          refine XS.iload X22.here hx rfl (hb hby at_228) rfl ?_
          refine XS.iconst X22.here hx rfl (hb hby at_230) ?_
          refine XS.icmpYes X22.here hx rfl (pc0 := 231) (pc' := 246) rfl (hb hby at_231) rfl (tlt (by decide : (0 : Int32) < (2 : Int32))).1 (by decide) (by decide) ?_
          refine XS.iload X22.here hx rfl (hb hby at_246) rfl ?_
          refine XS.ifNo X22.here hx rfl (hb hby at_248) rfl ((if0 _ _).trans (feq (by decide : ¬ ((1 : Int32) = (0 : Int32)))).1) ?_
          refine XS.iload X22.here hx rfl (hb hby at_251) rfl ?_
          refine XS.iconst X22.here hx rfl (hb hby at_253) ?_
          refine XS.icmpYes X22.here hx rfl (pc0 := 254) (pc' := 266) rfl (hb hby at_254) rfl (feq (by decide : ¬ ((0 : Int32) = (1 : Int32)))).2 (by decide) (by decide) ?_
          refine XS.aload X22.here hx rfl (hb hby at_266) rfl rfl ?_
          refine st446 _ ?_
          refine XS.astore X446.here hx rfl (hb hby at_271) rfl rfl (l' := #[.val (.long q1), .second, .val (.long q2), .second, .val (.long q3), .second, .val (.long q4), .second, .val (.int p5), .val (.ref b1), .val (.ref b8), .val (.ref b15), .val (.ref b23), .val (.int 0), .val (.int 1), .val (.int 1), .val (.ref b1), .val (.ref b1), .unset, .unset]) rfl ?_
          refine XS.aload X446.here hx rfl (hb hby at_273) rfl rfl ?_
          refine st449 _ ?_
          refine XS.astore X449.here hx rfl (hb hby at_278) rfl rfl (l' := #[.val (.long q1), .second, .val (.long q2), .second, .val (.long q3), .second, .val (.long q4), .second, .val (.int p5), .val (.ref b1), .val (.ref b8), .val (.ref b15), .val (.ref b23), .val (.int 0), .val (.int 1), .val (.int 1), .val (.ref b1), .val (.ref b1), .val (.ref b1), .unset]) rfl ?_
          refine XS.aload X449.here hx rfl (hb hby at_280) rfl rfl ?_
          refine st452 _ ?_
          refine XS.astore X452.here hx rfl (hb hby at_287) rfl rfl (l' := #[.val (.long q1), .second, .val (.long q2), .second, .val (.long q3), .second, .val (.long q4), .second, .val (.int p5), .val (.ref b1), .val (.ref b8), .val (.ref b15), .val (.ref b23), .val (.int 0), .val (.int 1), .val (.int 1), .val (.ref b1), .val (.ref b1), .val (.ref b1), .val (.ref b1)]) rfl ?_
          refine XS.aload X452.here hx rfl (hb hby at_289) rfl rfl ?_
          refine XS.aload X452.here hx rfl (hb hby at_291) rfl rfl ?_
          refine Jvm.RoadKit.acmp (g := (mkF m 293 #[.val (.long q1), .second, .val (.long q2), .second, .val (.long q3), .second, .val (.long q4), .second, .val (.int p5), .val (.ref b1), .val (.ref b8), .val (.ref b15), .val (.ref b23), .val (.int 0), .val (.int 1), .val (.int 1), .val (.ref b1), .val (.ref b1), .val (.ref b1), .val (.ref b1)] [(.ref b1), (.ref b1)])) X452 hx rfl rfl rfl (pc0 := 293) (pc' := 296) (same := true) rfl (hb hby at_293) rfl (decide_eq_true rfl) (by decide) (by decide) ?_
          refine XS.aload X452.here hx rfl (hb hby at_296) rfl rfl ?_
          refine XS.aload X452.here hx rfl (hb hby at_298) rfl rfl ?_
          refine Jvm.RoadKit.acmp (g := (mkF m 300 #[.val (.long q1), .second, .val (.long q2), .second, .val (.long q3), .second, .val (.long q4), .second, .val (.int p5), .val (.ref b1), .val (.ref b8), .val (.ref b15), .val (.ref b23), .val (.int 0), .val (.int 1), .val (.int 1), .val (.ref b1), .val (.ref b1), .val (.ref b1), .val (.ref b1)] [(.ref b1), (.ref b1)])) X452 hx rfl rfl rfl (pc0 := 300) (pc' := 303) (same := true) rfl (hb hby at_300) rfl (decide_eq_true rfl) (by decide) (by decide) ?_
          refine XS.aload X452.here hx rfl (hb hby at_303) rfl rfl ?_
          show Steps p.tables e below (T452.setTop (mkF m 305 #[.val (.long q1), .second, .val (.long q2), .second, .val (.long q3), .second, .val (.long q4), .second, .val (.int p5), .val (.ref b1), .val (.ref b8), .val (.ref b15), .val (.ref b23), .val (.int 0), .val (.int 1), .val (.int 1), .val (.ref b1), .val (.ref b1), .val (.ref b1), .val (.ref b1)] [(.ref b1)])) _
          refine XS.aload X452.here hx rfl (hb hby at_305) rfl rfl ?_
          refine Jvm.RoadKit.acmp (g := (mkF m 307 #[.val (.long q1), .second, .val (.long q2), .second, .val (.long q3), .second, .val (.long q4), .second, .val (.int p5), .val (.ref b1), .val (.ref b8), .val (.ref b15), .val (.ref b23), .val (.int 0), .val (.int 1), .val (.int 1), .val (.ref b1), .val (.ref b1), .val (.ref b1), .val (.ref b1)] [(.ref b1), (.ref b1)])) X452 hx rfl rfl rfl (pc0 := 307) (pc' := 310) (same := true) rfl (hb hby at_307) rfl (decide_eq_true rfl) (by decide) (by decide) ?_
          refine XS.iconst X452.here hx rfl (hb hby at_310) ?_
          refine XS.goto X452.here hx rfl (pc0 := 311) (pc' := 315) rfl (hb hby at_311) (by decide) (by decide) ?_
          show Steps p.tables e below (T452.setTop (mkF m 315 #[.val (.long q1), .second, .val (.long q2), .second, .val (.long q3), .second, .val (.long q4), .second, .val (.int p5), .val (.ref b1), .val (.ref b8), .val (.ref b15), .val (.ref b23), .val (.int 0), .val (.int 1), .val (.int 1), .val (.ref b1), .val (.ref b1), .val (.ref b1), .val (.ref b1)] [(.int 1)])) _
          exact retN X452 hx (t := .boolean) hret (by simp) (hb hby at_315) hr
        ·
          show Q0 n0 _ T452.heap _
          rw [e454]
          exact ⟨rfl, N452⟩
      ·
        have pre455 : ∀ t, Steps p.tables e below (T22.setTop (mkF m 85 #[.val (.long q1), .second, .val (.long q2), .second, .val (.long q3), .second, .val (.long q4), .second, .val (.int p5), .val (.ref b1), .val (.ref b8), .val (.ref b15), .val (.ref b23), .val (.int (p5 &&& (3 : Int32))), .val (.int 1), .val (.int 1), .unset, .unset, .unset, .unset] [(.int 1), (.int (p5 &&& (3 : Int32)))])) t → Steps p.tables e below (s₁.setTop (entryFrame m #[(.long q1), (.long q2), (.long q3), (.long q4), (.int p5)] maxLocals)) t := fun t k => by
          refine pre436 _ ?_
          show Steps p.tables e below (T22.setTop (mkF m 79 #[.val (.long q1), .second, .val (.long q2), .second, .val (.long q3), .second, .val (.long q4), .second, .val (.int p5), .val (.ref b1), .val (.ref b8), .val (.ref b15), .val (.ref b23), .val (.int (p5 &&& (3 : Int32))), .val (.int 1), .val (.int 1), .unset, .unset, .unset, .unset] [(.int 1), (.int (p5 &&& (3 : Int32)))])) _
          refine XS.icmpNo X22.here hx rfl (hb hby at_79) rfl (flt hc437).1 ?_
          refine XS.iload X22.here hx rfl (hb hby at_82) rfl ?_
          refine XS.iconst X22.here hx rfl (hb hby at_84) ?_
          exact k
        by_cases hc456 : (p5 &&& (3 : Int32)) = (1 : Int32)
        ·
          have pre457 : ∀ t, Steps p.tables e below (T22.setTop (mkF m 85 #[.val (.long q1), .second, .val (.long q2), .second, .val (.long q3), .second, .val (.long q4), .second, .val (.int p5), .val (.ref b1), .val (.ref b8), .val (.ref b15), .val (.ref b23), .val (.int 1), .val (.int 1), .val (.int 1), .unset, .unset, .unset, .unset] [(.int 1), (.int 1)])) t → Steps p.tables e below (s₁.setTop (entryFrame m #[(.long q1), (.long q2), (.long q3), (.long q4), (.int p5)] maxLocals)) t := fun t k => pre455 t (by rw [hc456]; exact k)
          have f458 := (((((f5.ext E8).keep K11).ext E15).keep K18).keep K25)
          have lt459 : b1 < T2.heap.size := (Nat.lt_of_lt_of_le A1.lt K4.1)
          have ne460 : b1 ≠ b8 := Nat.ne_of_lt (Nat.lt_of_lt_of_le lt459 sz_b8)
          have lt461 : b1 < T9.heap.size := (Nat.lt_of_lt_of_le (Nat.lt_of_lt_of_le (Nat.lt_of_lt_of_le A1.lt K4.1) E8.1) K11.1)
          have ne462 : b1 ≠ b15 := Nat.ne_of_lt (Nat.lt_of_lt_of_le lt461 sz_b15)
          have f463 := (((((f6.ext E8).keep K11 (ninS ne460 nin0)).ext E15).keep K18 (ninS ne462 nin0)).keep K25 nin0)
          have f464 := (((((f7.ext E8).keep K11 (ninS ne460 nin0)).ext E15).keep K18 (ninS ne462 nin0)).keep K25 nin0)
          obtain ⟨_, T465, L465, X465, hQ465, st465⟩ := own_vb X22 hx hZ hown (y := yn5) (own_w hw 25 rfl) (own_w hw 26 rfl) (own_w hw 28 rfl) (own_w hw 27 rfl) (own_w hw 29 rfl) (own_w hw 2 rfl) rfl f458 (argsL := [(.ref b23)]) (rest := []) (rm8 l Z a0 hw [] b1 b23 q1 T22.heap n0 O22 g_b1 g_b23 f458 f463 f464 f26) (g := (mkF m 97 #[.val (.long q1), .second, .val (.long q2), .second, .val (.long q3), .second, .val (.long q4), .second, .val (.int p5), .val (.ref b1), .val (.ref b8), .val (.ref b15), .val (.ref b23), .val (.int 1), .val (.int 1), .val (.int 1), .unset, .unset, .unset, .unset] [(.ref b23), (.ref b1)])) rfl (by rw [hml]; rfl) rfl (hb hby at_97) (lenOf pd4 rfl) (W := 0) (c1 := 4) (s1 := 8)
          obtain ⟨rfl, Nq466, K467, f468, f469, f470⟩ := hQ465
          have N465 := Fr.app N22 Nq466
          have M465 : h0.size ≤ T465.heap.size := Nat.le_trans M22 K467.1
          have O465 := Old.keep O22 K467 (allS g_b1 all0)
          obtain ⟨_, T471, L471, X471, hQ471, st471⟩ := own_vb X465 hx hZ hown (y := yn6) (own_w hw 54 rfl) (own_w hw 55 rfl) (own_w hw 57 rfl) (own_w hw 56 rfl) (own_w hw 58 rfl) (own_w hw 2 rfl) rfl f468 (argsL := []) (rest := []) (rm14 l Z a0 hw [] b1 b23 q1 T465.heap n0 O465 g_b1 g_b23 f468 f469 f470) (g := (mkF m 259 #[.val (.long q1), .second, .val (.long q2), .second, .val (.long q3), .second, .val (.long q4), .second, .val (.int p5), .val (.ref b1), .val (.ref b8), .val (.ref b15), .val (.ref b23), .val (.int 1), .val (.int 1), .val (.int 1), .val (.ref b23), .unset, .unset, .unset] [(.ref b1)])) rfl (by rw [hml]; rfl) rfl (hb hby at_259) (lenOf pd5 rfl) (W := 0) (c1 := 4) (s1 := 8)
          obtain ⟨rfl, Nq472, K473, f474, f475, f476⟩ := hQ471
          have N471 := Fr.app N465 Nq472
          have M471 : h0.size ≤ T471.heap.size := Nat.le_trans M465 K473.1
          have O471 := Old.keep O465 K473 (allS g_b1 all0)
          obtain ⟨_, T477, L477, X477, hQ477, st477⟩ := own_vb X471 hx hZ hown (y := yn3) (own_w hw 48 rfl) (own_w hw 49 rfl) (own_w hw 50 rfl) (own_w hw 36 rfl) (own_w hw 40 rfl) (own_w hw 2 rfl) rfl f474 (argsL := []) (rest := []) (rm4 l Z a0 hw [] b1 T471.heap n0 O471 g_b1 f474 f475) (g := (mkF m 268 #[.val (.long q1), .second, .val (.long q2), .second, .val (.long q3), .second, .val (.long q4), .second, .val (.int p5), .val (.ref b1), .val (.ref b8), .val (.ref b15), .val (.ref b23), .val (.int 1), .val (.int 1), .val (.int 1), .val (.ref b1), .unset, .unset, .unset] [(.ref b1)])) rfl (by rw [hml]; rfl) rfl (hb hby at_268) (lenOf pd3 rfl) (W := 0) (c1 := 4) (s1 := 8)
          obtain ⟨rfl, Nq478, e479⟩ := hQ477
          have N477 := Fr.app N471 Nq478
          obtain ⟨_, T480, L480, X480, hQ480, st480⟩ := own_vb X477 hx hZ hown (y := yn3) (own_w hw 48 rfl) (own_w hw 49 rfl) (own_w hw 50 rfl) (own_w hw 36 rfl) (own_w hw 40 rfl) (own_w hw 2 rfl) e479 f474 (argsL := []) (rest := []) (rm4 l Z a0 hw [] b1 T471.heap n0 O471 g_b1 f474 f475) (g := (mkF m 275 #[.val (.long q1), .second, .val (.long q2), .second, .val (.long q3), .second, .val (.long q4), .second, .val (.int p5), .val (.ref b1), .val (.ref b8), .val (.ref b15), .val (.ref b23), .val (.int 1), .val (.int 1), .val (.int 1), .val (.ref b1), .val (.ref b1), .unset, .unset] [(.ref b1)])) rfl (by rw [hml]; rfl) rfl (hb hby at_275) (lenOf pd3 rfl) (W := 0) (c1 := 4) (s1 := 8)
          obtain ⟨rfl, Nq481, e482⟩ := hQ480
          have N480 := Fr.app N477 Nq481
          obtain ⟨_, T483, L483, X483, hQ483, st483⟩ := own_ib X480 hx hZ hown (z := yn4) (y := yn3) (own_w hw 53 rfl) (own_w hw 33 rfl) (mvT hZ (own_w hw 34 rfl)) (own_w hw 35 rfl) (own_w hw 36 rfl) (own_w hw 37 rfl) (mvT hZ (own_w hw 38 rfl)) (own_w hw 39 rfl) (own_w hw 40 rfl) (own_w hw 2 rfl) e482 f474 (argsL := []) (rest := []) (rm4 l Z a0 hw [] b1 T471.heap n0 O471 g_b1 f474 f475) (g := (mkF m 282 #[.val (.long q1), .second, .val (.long q2), .second, .val (.long q3), .second, .val (.long q4), .second, .val (.int p5), .val (.ref b1), .val (.ref b8), .val (.ref b15), .val (.ref b23), .val (.int 1), .val (.int 1), .val (.int 1), .val (.ref b1), .val (.ref b1), .val (.ref b1), .unset] [(.ref b1)])) rfl (by rw [hml]; rfl) rfl (hb hby at_282) (lenOf pd3 rfl) (W := 0) (c1 := 4) (s1 := 8)
          obtain ⟨rfl, Nq484, e485⟩ := hQ483
          have N483 := Fr.app N480 Nq484
          obtain ⟨fs, hr, hrun, hended, hW, hsame⟩ := X483.leave (v := some (.int 1)) (fun h => by rw [hret] at h; cases h)
          refine ⟨_, _, pre457 _ ?_, hrun, hended, _, _, rfl, ?_, ⟨_, rfl⟩, hW, hsame.mono (by decide) (by decide)⟩
          ·
            show Steps p.tables e below (T22.setTop (mkF m 85 #[.val (.long q1), .second, .val (.long q2), .second, .val (.long q3), .second, .val (.long q4), .second, .val (.int p5), .val (.ref b1), .val (.ref b8), .val (.ref b15), .val (.ref b23), .val (.int 1), .val (.int 1), .val (.int 1), .unset, .unset, .unset, .unset] [(.int 1), (.int 1)])) _
            refine XS.icmpNo X22.here hx rfl (hb hby at_85) rfl (teq (by decide : (1 : Int32) = (1 : Int32))).2 ?_
            refine XS.iload X22.here hx rfl (hb hby at_88) rfl ?_
            refine XS.ifNo X22.here hx rfl (hb hby at_90) rfl ((if0 _ _).trans (feq (by decide : ¬ ((1 : Int32) = (0 : Int32)))).1) ?_
            refine XS.aload X22.here hx rfl (hb hby at_93) rfl rfl ?_
            refine XS.aload X22.here hx rfl (hb hby at_95) rfl rfl ?_
            refine st465 _ ?_
            refine XS.goto X465.here hx rfl (pc0 := 100) (pc' := 110) rfl (hb hby at_100) (by decide) (by decide) ?_
            refine XS.iload X465.here hx rfl (hb hby at_110) rfl ?_
            refine XS.iconst X465.here hx rfl (hb hby at_112) ?_
            refine XS.icmpYes X465.here hx rfl (pc0 := 113) (pc' := 144) rfl (hb hby at_113) rfl (tlt (by decide : (1 : Int32) < (2 : Int32))).1 (by decide) (by decide) ?_
            refine XS.iload X465.here hx rfl (hb hby at_144) rfl ?_
            refine XS.iconst X465.here hx rfl (hb hby at_146) ?_
            refine XS.icmpYes X465.here hx rfl (pc0 := 147) (pc' := 157) rfl (hb hby at_147) rfl (tlt (by decide : (1 : Int32) < (3 : Int32))).1 (by decide) (by decide) ?_
            refine XS.iload X465.here hx rfl (hb hby at_157) rfl ?_
            refine XS.ifYes X465.here hx rfl (pc0 := 159) (pc' := 169) rfl (hb hby at_159) rfl ((if0 _ _).trans (feq (by decide : ¬ ((1 : Int32) = (0 : Int32)))).2) (by decide) (by decide) ?_
            refine XS.iload X465.here hx rfl (hb hby at_169) rfl ?_
            refine XS.iconst X465.here hx rfl (hb hby at_171) ?_
            refine XS.icmpNo X465.here hx rfl (hb hby at_172) rfl (teq (by decide : (1 : Int32) = (1 : Int32))).2 ?_
            refine XS.iload X465.here hx rfl (hb hby at_175) rfl ?_
            refine XS.ifNo X465.here hx rfl (hb hby at_177) rfl ((if0 _ _).trans (feq (by decide : ¬ ((1 : Int32) = (0 : Int32)))).1) ?_
            refine XS.aload X465.here hx rfl (hb hby at_180) rfl rfl ?_
            refine XS.astore X465.here hx rfl (hb hby at_182) rfl rfl (l' := #[.val (.long q1), .second, .val (.long q2), .second, .val (.long q3), .second, .val (.long q4), .second, .val (.int p5), .val (.ref b1), .val (.ref b8), .val (.ref b15), .val (.ref b23), .val (.int 1), .val (.int 1), .val (.int 1), .val (.ref b23), .unset, .unset, .unset]) rfl ?_
            refine XS.goto X465.here hx rfl (pc0 := 184) (pc' := 223) rfl (hb hby at_184) (by decide) (by decide) ?_
            refine XS.iload X465.here hx rfl (hb hby at_223) rfl ?_
            refine XS.ifNo X465.here hx rfl (hb hby at_225) rfl ((if0 _ _).trans (feq (by decide : ¬ ((1 : Int32) = (0 : Int32)))).1) ?_
            refine XS.iload X465.here hx rfl (hb hby at_228) rfl ?_
            refine XS.iconst X465.here hx rfl (hb hby at_230) ?_
            refine XS.icmpYes X465.here hx rfl (pc0 := 231) (pc' := 246) rfl (hb hby at_231) rfl (tlt (by decide : (1 : Int32) < (2 : Int32))).1 (by decide) (by decide) ?_
            refine XS.iload X465.here hx rfl (hb hby at_246) rfl ?_
            refine XS.ifNo X465.here hx rfl (hb hby at_248) rfl ((if0 _ _).trans (feq (by decide : ¬ ((1 : Int32) = (0 : Int32)))).1) ?_
            refine XS.iload X465.here hx rfl (hb hby at_251) rfl ?_
            refine XS.iconst X465.here hx rfl (hb hby at_253) ?_
            refine XS.icmpNo X465.here hx rfl (hb hby at_254) rfl (teq (by decide : (1 : Int32) = (1 : Int32))).2 ?_
            refine XS.aload X465.here hx rfl (hb hby at_257) rfl rfl ?_
            refine st471 _ ?_
            show Steps p.tables e below (T471.setTop (mkF m 262 #[.val (.long q1), .second, .val (.long q2), .second, .val (.long q3), .second, .val (.long q4), .second, .val (.int p5), .val (.ref b1), .val (.ref b8), .val (.ref b15), .val (.ref b23), .val (.int 1), .val (.int 1), .val (.int 1), .val (.ref b23), .unset, .unset, .unset] [])) _
            refine XS.aload X471.here hx rfl (hb hby at_262) rfl rfl ?_
            refine XS.astore X471.here hx rfl (hb hby at_264) rfl rfl (l' := #[.val (.long q1), .second, .val (.long q2), .second, .val (.long q3), .second, .val (.long q4), .second, .val (.int p5), .val (.ref b1), .val (.ref b8), .val (.ref b15), .val (.ref b23), .val (.int 1), .val (.int 1), .val (.int 1), .val (.ref b1), .unset, .unset, .unset]) rfl ?_
            refine XS.aload X471.here hx rfl (hb hby at_266) rfl rfl ?_
            refine st477 _ ?_
            refine XS.astore X477.here hx rfl (hb hby at_271) rfl rfl (l' := #[.val (.long q1), .second, .val (.long q2), .second, .val (.long q3), .second, .val (.long q4), .second, .val (.int p5), .val (.ref b1), .val (.ref b8), .val (.ref b15), .val (.ref b23), .val (.int 1), .val (.int 1), .val (.int 1), .val (.ref b1), .val (.ref b1), .unset, .unset]) rfl ?_
            refine XS.aload X477.here hx rfl (hb hby at_273) rfl rfl ?_
            refine st480 _ ?_
            refine XS.astore X480.here hx rfl (hb hby at_278) rfl rfl (l' := #[.val (.long q1), .second, .val (.long q2), .second, .val (.long q3), .second, .val (.long q4), .second, .val (.int p5), .val (.ref b1), .val (.ref b8), .val (.ref b15), .val (.ref b23), .val (.int 1), .val (.int 1), .val (.int 1), .val (.ref b1), .val (.ref b1), .val (.ref b1), .unset]) rfl ?_
            refine XS.aload X480.here hx rfl (hb hby at_280) rfl rfl ?_
            refine st483 _ ?_
            refine XS.astore X483.here hx rfl (hb hby at_287) rfl rfl (l' := #[.val (.long q1), .second, .val (.long q2), .second, .val (.long q3), .second, .val (.long q4), .second, .val (.int p5), .val (.ref b1), .val (.ref b8), .val (.ref b15), .val (.ref b23), .val (.int 1), .val (.int 1), .val (.int 1), .val (.ref b1), .val (.ref b1), .val (.ref b1), .val (.ref b1)]) rfl ?_
            refine XS.aload X483.here hx rfl (hb hby at_289) rfl rfl ?_
            refine XS.aload X483.here hx rfl (hb hby at_291) rfl rfl ?_
            refine Jvm.RoadKit.acmp (g := (mkF m 293 #[.val (.long q1), .second, .val (.long q2), .second, .val (.long q3), .second, .val (.long q4), .second, .val (.int p5), .val (.ref b1), .val (.ref b8), .val (.ref b15), .val (.ref b23), .val (.int 1), .val (.int 1), .val (.int 1), .val (.ref b1), .val (.ref b1), .val (.ref b1), .val (.ref b1)] [(.ref b1), (.ref b1)])) X483 hx rfl rfl rfl (pc0 := 293) (pc' := 296) (same := true) rfl (hb hby at_293) rfl (decide_eq_true rfl) (by decide) (by decide) ?_
            refine XS.aload X483.here hx rfl (hb hby at_296) rfl rfl ?_
            refine XS.aload X483.here hx rfl (hb hby at_298) rfl rfl ?_
            refine Jvm.RoadKit.acmp (g := (mkF m 300 #[.val (.long q1), .second, .val (.long q2), .second, .val (.long q3), .second, .val (.long q4), .second, .val (.int p5), .val (.ref b1), .val (.ref b8), .val (.ref b15), .val (.ref b23), .val (.int 1), .val (.int 1), .val (.int 1), .val (.ref b1), .val (.ref b1), .val (.ref b1), .val (.ref b1)] [(.ref b1), (.ref b1)])) X483 hx rfl rfl rfl (pc0 := 300) (pc' := 303) (same := true) rfl (hb hby at_300) rfl (decide_eq_true rfl) (by decide) (by decide) ?_
            refine XS.aload X483.here hx rfl (hb hby at_303) rfl rfl ?_
            refine XS.aload X483.here hx rfl (hb hby at_305) rfl rfl ?_
            refine Jvm.RoadKit.acmp (g := (mkF m 307 #[.val (.long q1), .second, .val (.long q2), .second, .val (.long q3), .second, .val (.long q4), .second, .val (.int p5), .val (.ref b1), .val (.ref b8), .val (.ref b15), .val (.ref b23), .val (.int 1), .val (.int 1), .val (.int 1), .val (.ref b1), .val (.ref b1), .val (.ref b1), .val (.ref b1)] [(.ref b1), (.ref b1)])) X483 hx rfl rfl rfl (pc0 := 307) (pc' := 310) (same := true) rfl (hb hby at_307) rfl (decide_eq_true rfl) (by decide) (by decide) ?_
            refine XS.iconst X483.here hx rfl (hb hby at_310) ?_
            refine XS.goto X483.here hx rfl (pc0 := 311) (pc' := 315) rfl (hb hby at_311) (by decide) (by decide) ?_
            show Steps p.tables e below (T483.setTop (mkF m 315 #[.val (.long q1), .second, .val (.long q2), .second, .val (.long q3), .second, .val (.long q4), .second, .val (.int p5), .val (.ref b1), .val (.ref b8), .val (.ref b15), .val (.ref b23), .val (.int 1), .val (.int 1), .val (.int 1), .val (.ref b1), .val (.ref b1), .val (.ref b1), .val (.ref b1)] [(.int 1)])) _
            exact retN X483 hx (t := .boolean) hret (by simp) (hb hby at_315) hr
          ·
            show Q0 n0 _ T483.heap _
            rw [e485]
            exact ⟨rfl, N483⟩
        ·
          have lt486 : b1 < T2.heap.size := (Nat.lt_of_lt_of_le A1.lt K4.1)
          have ne487 : b1 ≠ b8 := Nat.ne_of_lt (Nat.lt_of_lt_of_le lt486 sz_b8)
          have f488 := (((((f5.ext E8).keep K11).ext E15).keep K18).keep K25)
          have lt489 : b1 < T9.heap.size := (Nat.lt_of_lt_of_le (Nat.lt_of_lt_of_le (Nat.lt_of_lt_of_le A1.lt K4.1) E8.1) K11.1)
          have ne490 : b1 ≠ b15 := Nat.ne_of_lt (Nat.lt_of_lt_of_le lt489 sz_b15)
          have f491 := (((((f6.ext E8).keep K11 (ninS ne487 nin0)).ext E15).keep K18 (ninS ne490 nin0)).keep K25 nin0)
          have f492 := (((((f7.ext E8).keep K11 (ninS ne487 nin0)).ext E15).keep K18 (ninS ne490 nin0)).keep K25 nin0)
          have f493 := (((f12.ext E15).keep K18).keep K25)
          have lt494 : b8 < T9.heap.size := (Nat.lt_of_lt_of_le A8.lt K11.1)
          have ne495 : b8 ≠ b15 := Nat.ne_of_lt (Nat.lt_of_lt_of_le lt494 sz_b15)
          have f496 := (((f13.ext E15).keep K18 (ninS ne495 nin0)).keep K25 nin0)
          obtain ⟨_, T497, L497, X497, hQ497, st497⟩ := own_vb X22 hx hZ hown (y := yn5) (own_w hw 25 rfl) (own_w hw 26 rfl) (own_w hw 28 rfl) (own_w hw 27 rfl) (own_w hw 29 rfl) (own_w hw 2 rfl) rfl f488 (argsL := [(.ref b8)]) (rest := []) (rm5 l Z a0 hw [] b1 b8 q1 T22.heap n0 O22 g_b1 g_b8 (Ne.symm ne487) f488 f491 f492 f493 f496) (g := (mkF m 107 #[.val (.long q1), .second, .val (.long q2), .second, .val (.long q3), .second, .val (.long q4), .second, .val (.int p5), .val (.ref b1), .val (.ref b8), .val (.ref b15), .val (.ref b23), .val (.int (p5 &&& (3 : Int32))), .val (.int 1), .val (.int 1), .unset, .unset, .unset, .unset] [(.ref b8), (.ref b1)])) rfl (by rw [hml]; rfl) rfl (hb hby at_107) (lenOf pd4 rfl) (W := 0) (c1 := 4) (s1 := 8)
          obtain ⟨rfl, Nq498, K499, f500, f501, f502⟩ := hQ497
          have N497 := Fr.app N22 Nq498
          have M497 : h0.size ≤ T497.heap.size := Nat.le_trans M22 K499.1
          have O497 := Old.keep O22 K499 (allS g_b1 all0)
          have pre503 : ∀ t, Steps p.tables e below (T497.setTop (mkF m 119 #[.val (.long q1), .second, .val (.long q2), .second, .val (.long q3), .second, .val (.long q4), .second, .val (.int p5), .val (.ref b1), .val (.ref b8), .val (.ref b15), .val (.ref b23), .val (.int (p5 &&& (3 : Int32))), .val (.int 1), .val (.int 1), .unset, .unset, .unset, .unset] [(.int 2), (.int (p5 &&& (3 : Int32)))])) t → Steps p.tables e below (s₁.setTop (entryFrame m #[(.long q1), (.long q2), (.long q3), (.long q4), (.int p5)] maxLocals)) t := fun t k => by
            refine pre455 _ ?_
            show Steps p.tables e below (T22.setTop (mkF m 85 #[.val (.long q1), .second, .val (.long q2), .second, .val (.long q3), .second, .val (.long q4), .second, .val (.int p5), .val (.ref b1), .val (.ref b8), .val (.ref b15), .val (.ref b23), .val (.int (p5 &&& (3 : Int32))), .val (.int 1), .val (.int 1), .unset, .unset, .unset, .unset] [(.int 1), (.int (p5 &&& (3 : Int32)))])) _
            refine XS.icmpYes X22.here hx rfl (pc0 := 85) (pc' := 103) rfl (hb hby at_85) rfl (feq hc456).2 (by decide) (by decide) ?_
            refine XS.aload X22.here hx rfl (hb hby at_103) rfl rfl ?_
            refine XS.aload X22.here hx rfl (hb hby at_105) rfl rfl ?_
            refine st497 _ ?_
            refine XS.iload X497.here hx rfl (hb hby at_110) rfl ?_
            refine XS.iconst X497.here hx rfl (hb hby at_112) ?_
            refine XS.icmpNo X497.here hx rfl (hb hby at_113) rfl (flt (own_gnlt1 (n := 2) (k := (2 : Int32)) (by decide) (by have q0 := own_and (x := p5) (k := (3 : Int32)) (n := 3) (by decide) (by decide); have q1 := own_nlt1 (n := 1) (k := (1 : Int32)) (by decide) hc437; have q2 := own_neq (n := 1) (k := (1 : Int32)) (by decide) hc456; omega))).1 ?_
            refine XS.iload X497.here hx rfl (hb hby at_116) rfl ?_
            refine XS.iconst X497.here hx rfl (hb hby at_118) ?_
            exact k
          by_cases hc504 : (p5 &&& (3 : Int32)) = (2 : Int32)
          ·
            have pre505 : ∀ t, Steps p.tables e below (T497.setTop (mkF m 119 #[.val (.long q1), .second, .val (.long q2), .second, .val (.long q3), .second, .val (.long q4), .second, .val (.int p5), .val (.ref b1), .val (.ref b8), .val (.ref b15), .val (.ref b23), .val (.int 2), .val (.int 1), .val (.int 1), .unset, .unset, .unset, .unset] [(.int 2), (.int 2)])) t → Steps p.tables e below (s₁.setTop (entryFrame m #[(.long q1), (.long q2), (.long q3), (.long q4), (.int p5)] maxLocals)) t := fun t k => pre503 t (by rw [hc504]; exact k)
            have f506 := (f493.keep K499)
            have f507 := (f496.keep K499 (ninS (Ne.symm ne487) nin0))
            have f508 := ((((f14.ext E15).keep K18 (ninS ne495 nin0)).keep K25 nin0).keep K499 (ninS (Ne.symm ne487) nin0))
            have f509 := (f26.keep K499)
            obtain ⟨_, T510, L510, X510, hQ510, st510⟩ := own_vb X497 hx hZ hown (y := yn5) (own_w hw 25 rfl) (own_w hw 26 rfl) (own_w hw 28 rfl) (own_w hw 27 rfl) (own_w hw 29 rfl) (own_w hw 2 rfl) rfl f506 (argsL := [(.ref b23)]) (rest := []) (rm8 l Z a0 hw [] b8 b23 q2 T497.heap n0 O497 g_b8 g_b23 f506 f507 f508 f509) (g := (mkF m 131 #[.val (.long q1), .second, .val (.long q2), .second, .val (.long q3), .second, .val (.long q4), .second, .val (.int p5), .val (.ref b1), .val (.ref b8), .val (.ref b15), .val (.ref b23), .val (.int 2), .val (.int 1), .val (.int 1), .unset, .unset, .unset, .unset] [(.ref b23), (.ref b8)])) rfl (by rw [hml]; rfl) rfl (hb hby at_131) (lenOf pd4 rfl) (W := 0) (c1 := 4) (s1 := 8)
            obtain ⟨rfl, Nq511, K512, f513, f514, f515⟩ := hQ510
            have N510 := Fr.app N497 Nq511
            have M510 : h0.size ≤ T510.heap.size := Nat.le_trans M497 K512.1
            have O510 := Old.keep O497 K512 (allS g_b8 all0)
            obtain ⟨_, T516, L516, X516, hQ516, st516⟩ := own_vb X510 hx hZ hown (y := yn6) (own_w hw 54 rfl) (own_w hw 55 rfl) (own_w hw 57 rfl) (own_w hw 56 rfl) (own_w hw 58 rfl) (own_w hw 2 rfl) rfl f513 (argsL := []) (rest := []) (rm14 l Z a0 hw [] b8 b23 q2 T510.heap n0 O510 g_b8 g_b23 f513 f514 f515) (g := (mkF m 236 #[.val (.long q1), .second, .val (.long q2), .second, .val (.long q3), .second, .val (.long q4), .second, .val (.int p5), .val (.ref b1), .val (.ref b8), .val (.ref b15), .val (.ref b23), .val (.int 2), .val (.int 1), .val (.int 1), .val (.ref b23), .unset, .unset, .unset] [(.ref b8)])) rfl (by rw [hml]; rfl) rfl (hb hby at_236) (lenOf pd5 rfl) (W := 0) (c1 := 4) (s1 := 8)
            obtain ⟨rfl, Nq517, K518, f519, f520, f521⟩ := hQ516
            have N516 := Fr.app N510 Nq517
            have M516 : h0.size ≤ T516.heap.size := Nat.le_trans M510 K518.1
            have O516 := Old.keep O510 K518 (allS g_b8 all0)
            have f522 := ((f500.keep K512).keep K518)
            have f523 := ((f501.keep K512 (ninS ne487 nin0)).keep K518 (ninS ne487 nin0))
            obtain ⟨_, T524, L524, X524, hQ524, st524⟩ := own_vb X516 hx hZ hown (y := yn3) (own_w hw 48 rfl) (own_w hw 49 rfl) (own_w hw 50 rfl) (own_w hw 36 rfl) (own_w hw 40 rfl) (own_w hw 2 rfl) rfl f522 (argsL := []) (rest := []) (rm6 l Z a0 hw [] b1 b8 T516.heap n0 O516 g_b1 g_b8 f522 f523 f519 f520) (g := (mkF m 268 #[.val (.long q1), .second, .val (.long q2), .second, .val (.long q3), .second, .val (.long q4), .second, .val (.int p5), .val (.ref b1), .val (.ref b8), .val (.ref b15), .val (.ref b23), .val (.int 2), .val (.int 1), .val (.int 1), .val (.ref b8), .unset, .unset, .unset] [(.ref b1)])) rfl (by rw [hml]; rfl) rfl (hb hby at_268) (lenOf pd3 rfl) (W := 0) (c1 := 4) (s1 := 8)
            obtain ⟨rfl, Nq525, e526⟩ := hQ524
            have N524 := Fr.app N516 Nq525
            obtain ⟨_, T527, L527, X527, hQ527, st527⟩ := own_vb X524 hx hZ hown (y := yn3) (own_w hw 48 rfl) (own_w hw 49 rfl) (own_w hw 50 rfl) (own_w hw 36 rfl) (own_w hw 40 rfl) (own_w hw 2 rfl) e526 f522 (argsL := []) (rest := []) (rm6 l Z a0 hw [] b1 b8 T516.heap n0 O516 g_b1 g_b8 f522 f523 f519 f520) (g := (mkF m 275 #[.val (.long q1), .second, .val (.long q2), .second, .val (.long q3), .second, .val (.long q4), .second, .val (.int p5), .val (.ref b1), .val (.ref b8), .val (.ref b15), .val (.ref b23), .val (.int 2), .val (.int 1), .val (.int 1), .val (.ref b8), .val (.ref b8), .unset, .unset] [(.ref b1)])) rfl (by rw [hml]; rfl) rfl (hb hby at_275) (lenOf pd3 rfl) (W := 0) (c1 := 4) (s1 := 8)
            obtain ⟨rfl, Nq528, e529⟩ := hQ527
            have N527 := Fr.app N524 Nq528
            obtain ⟨_, T530, L530, X530, hQ530, st530⟩ := own_ib X527 hx hZ hown (z := yn4) (y := yn3) (own_w hw 53 rfl) (own_w hw 33 rfl) (mvT hZ (own_w hw 34 rfl)) (own_w hw 35 rfl) (own_w hw 36 rfl) (own_w hw 37 rfl) (mvT hZ (own_w hw 38 rfl)) (own_w hw 39 rfl) (own_w hw 40 rfl) (own_w hw 2 rfl) e529 f519 (argsL := []) (rest := []) (rm4 l Z a0 hw [] b8 T516.heap n0 O516 g_b8 f519 f520) (g := (mkF m 282 #[.val (.long q1), .second, .val (.long q2), .second, .val (.long q3), .second, .val (.long q4), .second, .val (.int p5), .val (.ref b1), .val (.ref b8), .val (.ref b15), .val (.ref b23), .val (.int 2), .val (.int 1), .val (.int 1), .val (.ref b8), .val (.ref b8), .val (.ref b8), .unset] [(.ref b8)])) rfl (by rw [hml]; rfl) rfl (hb hby at_282) (lenOf pd3 rfl) (W := 0) (c1 := 4) (s1 := 8)
            obtain ⟨rfl, Nq531, e532⟩ := hQ530
            have N530 := Fr.app N527 Nq531
            obtain ⟨fs, hr, hrun, hended, hW, hsame⟩ := X530.leave (v := some (.int 1)) (fun h => by rw [hret] at h; cases h)
            refine ⟨_, _, pre505 _ ?_, hrun, hended, _, _, rfl, ?_, ⟨_, rfl⟩, hW, hsame.mono (by decide) (by decide)⟩
            ·
              show Steps p.tables e below (T497.setTop (mkF m 119 #[.val (.long q1), .second, .val (.long q2), .second, .val (.long q3), .second, .val (.long q4), .second, .val (.int p5), .val (.ref b1), .val (.ref b8), .val (.ref b15), .val (.ref b23), .val (.int 2), .val (.int 1), .val (.int 1), .unset, .unset, .unset, .unset] [(.int 2), (.int 2)])) _
              refine XS.icmpNo X497.here hx rfl (hb hby at_119) rfl (teq (by decide : (2 : Int32) = (2 : Int32))).2 ?_
              refine XS.iload X497.here hx rfl (hb hby at_122) rfl ?_
              refine XS.ifNo X497.here hx rfl (hb hby at_124) rfl ((if0 _ _).trans (feq (by decide : ¬ ((1 : Int32) = (0 : Int32)))).1) ?_
              refine XS.aload X497.here hx rfl (hb hby at_127) rfl rfl ?_
              refine XS.aload X497.here hx rfl (hb hby at_129) rfl rfl ?_
              refine st510 _ ?_
              refine XS.goto X510.here hx rfl (pc0 := 134) (pc' := 144) rfl (hb hby at_134) (by decide) (by decide) ?_
              refine XS.iload X510.here hx rfl (hb hby at_144) rfl ?_
              refine XS.iconst X510.here hx rfl (hb hby at_146) ?_
              refine XS.icmpYes X510.here hx rfl (pc0 := 147) (pc' := 157) rfl (hb hby at_147) rfl (tlt (by decide : (2 : Int32) < (3 : Int32))).1 (by decide) (by decide) ?_
              refine XS.iload X510.here hx rfl (hb hby at_157) rfl ?_
              refine XS.ifYes X510.here hx rfl (pc0 := 159) (pc' := 169) rfl (hb hby at_159) rfl ((if0 _ _).trans (feq (by decide : ¬ ((2 : Int32) = (0 : Int32)))).2) (by decide) (by decide) ?_
              refine XS.iload X510.here hx rfl (hb hby at_169) rfl ?_
              refine XS.iconst X510.here hx rfl (hb hby at_171) ?_
              refine XS.icmpYes X510.here hx rfl (pc0 := 172) (pc' := 194) rfl (hb hby at_172) rfl (feq (by decide : ¬ ((2 : Int32) = (1 : Int32)))).2 (by decide) (by decide) ?_
              refine XS.iload X510.here hx rfl (hb hby at_194) rfl ?_
              refine XS.iconst X510.here hx rfl (hb hby at_196) ?_
              refine XS.icmpNo X510.here hx rfl (hb hby at_197) rfl (teq (by decide : (2 : Int32) = (2 : Int32))).2 ?_
              refine XS.iload X510.here hx rfl (hb hby at_200) rfl ?_
              refine XS.ifNo X510.here hx rfl (hb hby at_202) rfl ((if0 _ _).trans (feq (by decide : ¬ ((1 : Int32) = (0 : Int32)))).1) ?_
              refine XS.aload X510.here hx rfl (hb hby at_205) rfl rfl ?_
              refine XS.astore X510.here hx rfl (hb hby at_207) rfl rfl (l' := #[.val (.long q1), .second, .val (.long q2), .second, .val (.long q3), .second, .val (.long q4), .second, .val (.int p5), .val (.ref b1), .val (.ref b8), .val (.ref b15), .val (.ref b23), .val (.int 2), .val (.int 1), .val (.int 1), .val (.ref b23), .unset, .unset, .unset]) rfl ?_
              refine XS.goto X510.here hx rfl (pc0 := 209) (pc' := 223) rfl (hb hby at_209) (by decide) (by decide) ?_
              refine XS.iload X510.here hx rfl (hb hby at_223) rfl ?_
              refine XS.ifNo X510.here hx rfl (hb hby at_225) rfl ((if0 _ _).trans (feq (by decide : ¬ ((1 : Int32) = (0 : Int32)))).1) ?_
              refine XS.iload X510.here hx rfl (hb hby at_228) rfl ?_
              show Steps p.tables e below (T510.setTop (mkF m 230 #[.val (.long q1), .second, .val (.long q2), .second, .val (.long q3), .second, .val (.long q4), .second, .val (.int p5), .val (.ref b1), .val (.ref b8), .val (.ref b15), .val (.ref b23), .val (.int 2), .val (.int 1), .val (.int 1), .val (.ref b23), .unset, .unset, .unset] [(.int 2)])) _
              refine XS.iconst X510.here hx rfl (hb hby at_230) ?_
              refine XS.icmpNo X510.here hx rfl (hb hby at_231) rfl (flt (by decide : ¬ ((2 : Int32) < (2 : Int32)))).1 ?_
              refine XS.aload X510.here hx rfl (hb hby at_234) rfl rfl ?_
              refine st516 _ ?_
              refine XS.aload X516.here hx rfl (hb hby at_239) rfl rfl ?_
              refine XS.astore X516.here hx rfl (hb hby at_241) rfl rfl (l' := #[.val (.long q1), .second, .val (.long q2), .second, .val (.long q3), .second, .val (.long q4), .second, .val (.int p5), .val (.ref b1), .val (.ref b8), .val (.ref b15), .val (.ref b23), .val (.int 2), .val (.int 1), .val (.int 1), .val (.ref b8), .unset, .unset, .unset]) rfl ?_
              refine XS.goto X516.here hx rfl (pc0 := 243) (pc' := 266) rfl (hb hby at_243) (by decide) (by decide) ?_
              refine XS.aload X516.here hx rfl (hb hby at_266) rfl rfl ?_
              refine st524 _ ?_
              refine XS.astore X524.here hx rfl (hb hby at_271) rfl rfl (l' := #[.val (.long q1), .second, .val (.long q2), .second, .val (.long q3), .second, .val (.long q4), .second, .val (.int p5), .val (.ref b1), .val (.ref b8), .val (.ref b15), .val (.ref b23), .val (.int 2), .val (.int 1), .val (.int 1), .val (.ref b8), .val (.ref b8), .unset, .unset]) rfl ?_
              refine XS.aload X524.here hx rfl (hb hby at_273) rfl rfl ?_
              refine st527 _ ?_
              refine XS.astore X527.here hx rfl (hb hby at_278) rfl rfl (l' := #[.val (.long q1), .second, .val (.long q2), .second, .val (.long q3), .second, .val (.long q4), .second, .val (.int p5), .val (.ref b1), .val (.ref b8), .val (.ref b15), .val (.ref b23), .val (.int 2), .val (.int 1), .val (.int 1), .val (.ref b8), .val (.ref b8), .val (.ref b8), .unset]) rfl ?_
              refine XS.aload X527.here hx rfl (hb hby at_280) rfl rfl ?_
              refine st530 _ ?_
              refine XS.astore X530.here hx rfl (hb hby at_287) rfl rfl (l' := #[.val (.long q1), .second, .val (.long q2), .second, .val (.long q3), .second, .val (.long q4), .second, .val (.int p5), .val (.ref b1), .val (.ref b8), .val (.ref b15), .val (.ref b23), .val (.int 2), .val (.int 1), .val (.int 1), .val (.ref b8), .val (.ref b8), .val (.ref b8), .val (.ref b8)]) rfl ?_
              refine XS.aload X530.here hx rfl (hb hby at_289) rfl rfl ?_
              refine XS.aload X530.here hx rfl (hb hby at_291) rfl rfl ?_
              refine Jvm.RoadKit.acmp (g := (mkF m 293 #[.val (.long q1), .second, .val (.long q2), .second, .val (.long q3), .second, .val (.long q4), .second, .val (.int p5), .val (.ref b1), .val (.ref b8), .val (.ref b15), .val (.ref b23), .val (.int 2), .val (.int 1), .val (.int 1), .val (.ref b8), .val (.ref b8), .val (.ref b8), .val (.ref b8)] [(.ref b8), (.ref b8)])) X530 hx rfl rfl rfl (pc0 := 293) (pc' := 296) (same := true) rfl (hb hby at_293) rfl (decide_eq_true rfl) (by decide) (by decide) ?_
              refine XS.aload X530.here hx rfl (hb hby at_296) rfl rfl ?_
              refine XS.aload X530.here hx rfl (hb hby at_298) rfl rfl ?_
              refine Jvm.RoadKit.acmp (g := (mkF m 300 #[.val (.long q1), .second, .val (.long q2), .second, .val (.long q3), .second, .val (.long q4), .second, .val (.int p5), .val (.ref b1), .val (.ref b8), .val (.ref b15), .val (.ref b23), .val (.int 2), .val (.int 1), .val (.int 1), .val (.ref b8), .val (.ref b8), .val (.ref b8), .val (.ref b8)] [(.ref b8), (.ref b8)])) X530 hx rfl rfl rfl (pc0 := 300) (pc' := 303) (same := true) rfl (hb hby at_300) rfl (decide_eq_true rfl) (by decide) (by decide) ?_
              refine XS.aload X530.here hx rfl (hb hby at_303) rfl rfl ?_
              refine XS.aload X530.here hx rfl (hb hby at_305) rfl rfl ?_
              refine Jvm.RoadKit.acmp (g := (mkF m 307 #[.val (.long q1), .second, .val (.long q2), .second, .val (.long q3), .second, .val (.long q4), .second, .val (.int p5), .val (.ref b1), .val (.ref b8), .val (.ref b15), .val (.ref b23), .val (.int 2), .val (.int 1), .val (.int 1), .val (.ref b8), .val (.ref b8), .val (.ref b8), .val (.ref b8)] [(.ref b8), (.ref b8)])) X530 hx rfl rfl rfl (pc0 := 307) (pc' := 310) (same := true) rfl (hb hby at_307) rfl (decide_eq_true rfl) (by decide) (by decide) ?_
              refine XS.iconst X530.here hx rfl (hb hby at_310) ?_
              refine XS.goto X530.here hx rfl (pc0 := 311) (pc' := 315) rfl (hb hby at_311) (by decide) (by decide) ?_
              show Steps p.tables e below (T530.setTop (mkF m 315 #[.val (.long q1), .second, .val (.long q2), .second, .val (.long q3), .second, .val (.long q4), .second, .val (.int p5), .val (.ref b1), .val (.ref b8), .val (.ref b15), .val (.ref b23), .val (.int 2), .val (.int 1), .val (.int 1), .val (.ref b8), .val (.ref b8), .val (.ref b8), .val (.ref b8)] [(.int 1)])) _
              exact retN X530 hx (t := .boolean) hret (by simp) (hb hby at_315) hr
            ·
              show Q0 n0 _ T530.heap _
              rw [e532]
              exact ⟨rfl, N530⟩
          ·
            have hq533 : (p5 &&& (3 : Int32)) = (3 : Int32) := (own_geq (n := 3) (k := (3 : Int32)) (by decide) (by have q0 := own_and (x := p5) (k := (3 : Int32)) (n := 3) (by decide) (by decide); have q1 := own_nlt1 (n := 1) (k := (1 : Int32)) (by decide) hc437; have q2 := own_neq (n := 1) (k := (1 : Int32)) (by decide) hc456; have q3 := own_neq (n := 2) (k := (2 : Int32)) (by decide) hc504; omega))
            have pre534 : ∀ t, Steps p.tables e below (T497.setTop (mkF m 119 #[.val (.long q1), .second, .val (.long q2), .second, .val (.long q3), .second, .val (.long q4), .second, .val (.int p5), .val (.ref b1), .val (.ref b8), .val (.ref b15), .val (.ref b23), .val (.int 3), .val (.int 1), .val (.int 1), .unset, .unset, .unset, .unset] [(.int 2), (.int 3)])) t → Steps p.tables e below (s₁.setTop (entryFrame m #[(.long q1), (.long q2), (.long q3), (.long q4), (.int p5)] maxLocals)) t := fun t k => pre503 t (by rw [hq533]; exact k)
            have f535 := (f493.keep K499)
            have f536 := (f496.keep K499 (ninS (Ne.symm ne487) nin0))
            have f537 := ((((f14.ext E15).keep K18 (ninS ne495 nin0)).keep K25 nin0).keep K499 (ninS (Ne.symm ne487) nin0))
            have f538 := ((f19.keep K25).keep K499)
            have f539 := ((f20.keep K25 nin0).keep K499 (ninS (Ne.symm ne490) nin0))
            obtain ⟨_, T540, L540, X540, hQ540, st540⟩ := own_vb X497 hx hZ hown (y := yn5) (own_w hw 25 rfl) (own_w hw 26 rfl) (own_w hw 28 rfl) (own_w hw 27 rfl) (own_w hw 29 rfl) (own_w hw 2 rfl) rfl f535 (argsL := [(.ref b15)]) (rest := []) (rm5 l Z a0 hw [] b8 b15 q2 T497.heap n0 O497 g_b8 g_b15 (Ne.symm ne495) f535 f536 f537 f538 f539) (g := (mkF m 141 #[.val (.long q1), .second, .val (.long q2), .second, .val (.long q3), .second, .val (.long q4), .second, .val (.int p5), .val (.ref b1), .val (.ref b8), .val (.ref b15), .val (.ref b23), .val (.int 3), .val (.int 1), .val (.int 1), .unset, .unset, .unset, .unset] [(.ref b15), (.ref b8)])) rfl (by rw [hml]; rfl) rfl (hb hby at_141) (lenOf pd4 rfl) (W := 0) (c1 := 4) (s1 := 8)
            obtain ⟨rfl, Nq541, K542, f543, f544, f545⟩ := hQ540
            have N540 := Fr.app N497 Nq541
            have M540 : h0.size ≤ T540.heap.size := Nat.le_trans M497 K542.1
            have O540 := Old.keep O497 K542 (allS g_b8 all0)
            have f546 := (f538.keep K542)
            have f547 := (f539.keep K542 (ninS (Ne.symm ne495) nin0))
            have f548 := (((f21.keep K25 nin0).keep K499 (ninS (Ne.symm ne490) nin0)).keep K542 (ninS (Ne.symm ne495) nin0))
            have f549 := ((f26.keep K499).keep K542)
            obtain ⟨_, T550, L550, X550, hQ550, st550⟩ := own_vb X540 hx hZ hown (y := yn5) (own_w hw 25 rfl) (own_w hw 26 rfl) (own_w hw 28 rfl) (own_w hw 27 rfl) (own_w hw 29 rfl) (own_w hw 2 rfl) rfl f546 (argsL := [(.ref b23)]) (rest := []) (rm8 l Z a0 hw [] b15 b23 q3 T540.heap n0 O540 g_b15 g_b23 f546 f547 f548 f549) (g := (mkF m 154 #[.val (.long q1), .second, .val (.long q2), .second, .val (.long q3), .second, .val (.long q4), .second, .val (.int p5), .val (.ref b1), .val (.ref b8), .val (.ref b15), .val (.ref b23), .val (.int 3), .val (.int 1), .val (.int 1), .unset, .unset, .unset, .unset] [(.ref b23), (.ref b15)])) rfl (by rw [hml]; rfl) rfl (hb hby at_154) (lenOf pd4 rfl) (W := 0) (c1 := 4) (s1 := 8)
            obtain ⟨rfl, Nq551, K552, f553, f554, f555⟩ := hQ550
            have N550 := Fr.app N540 Nq551
            have M550 : h0.size ≤ T550.heap.size := Nat.le_trans M540 K552.1
            have O550 := Old.keep O540 K552 (allS g_b15 all0)
            have f556 := (f543.keep K552)
            have f557 := (f544.keep K552 (ninS ne495 nin0))
            have f558 := (f545.keep K552 (ninS ne495 nin0))
            obtain ⟨_, T559, L559, X559, hQ559, st559⟩ := own_vb X550 hx hZ hown (y := yn6) (own_w hw 54 rfl) (own_w hw 55 rfl) (own_w hw 57 rfl) (own_w hw 56 rfl) (own_w hw 58 rfl) (own_w hw 2 rfl) rfl f556 (argsL := []) (rest := []) (rm11 l Z a0 hw [] b8 b15 b23 q2 T550.heap n0 O550 g_b8 g_b15 g_b23 f556 f557 f558) (g := (mkF m 236 #[.val (.long q1), .second, .val (.long q2), .second, .val (.long q3), .second, .val (.long q4), .second, .val (.int p5), .val (.ref b1), .val (.ref b8), .val (.ref b15), .val (.ref b23), .val (.int 3), .val (.int 1), .val (.int 1), .val (.ref b23), .unset, .unset, .unset] [(.ref b8)])) rfl (by rw [hml]; rfl) rfl (hb hby at_236) (lenOf pd5 rfl) (W := 0) (c1 := 4) (s1 := 8)
            obtain ⟨rfl, Nq560, K561, f562, f563, f564⟩ := hQ559
            have N559 := Fr.app N550 Nq560
            have M559 : h0.size ≤ T559.heap.size := Nat.le_trans M550 K561.1
            have O559 := Old.keep O550 K561 (allS g_b8 all0)
            have f565 := (((f500.keep K542).keep K552).keep K561)
            have f566 := (((f501.keep K542 (ninS ne487 nin0)).keep K552 (ninS ne490 nin0)).keep K561 (ninS ne487 nin0))
            obtain ⟨_, T567, L567, X567, hQ567, st567⟩ := own_vb X559 hx hZ hown (y := yn3) (own_w hw 48 rfl) (own_w hw 49 rfl) (own_w hw 50 rfl) (own_w hw 36 rfl) (own_w hw 40 rfl) (own_w hw 2 rfl) rfl f565 (argsL := []) (rest := []) (rm6 l Z a0 hw [] b1 b8 T559.heap n0 O559 g_b1 g_b8 f565 f566 f562 f563) (g := (mkF m 268 #[.val (.long q1), .second, .val (.long q2), .second, .val (.long q3), .second, .val (.long q4), .second, .val (.int p5), .val (.ref b1), .val (.ref b8), .val (.ref b15), .val (.ref b23), .val (.int 3), .val (.int 1), .val (.int 1), .val (.ref b8), .unset, .unset, .unset] [(.ref b1)])) rfl (by rw [hml]; rfl) rfl (hb hby at_268) (lenOf pd3 rfl) (W := 0) (c1 := 4) (s1 := 8)
            obtain ⟨rfl, Nq568, e569⟩ := hQ567
            have N567 := Fr.app N559 Nq568
            obtain ⟨_, T570, L570, X570, hQ570, st570⟩ := own_vb X567 hx hZ hown (y := yn3) (own_w hw 48 rfl) (own_w hw 49 rfl) (own_w hw 50 rfl) (own_w hw 36 rfl) (own_w hw 40 rfl) (own_w hw 2 rfl) e569 f565 (argsL := []) (rest := []) (rm6 l Z a0 hw [] b1 b8 T559.heap n0 O559 g_b1 g_b8 f565 f566 f562 f563) (g := (mkF m 275 #[.val (.long q1), .second, .val (.long q2), .second, .val (.long q3), .second, .val (.long q4), .second, .val (.int p5), .val (.ref b1), .val (.ref b8), .val (.ref b15), .val (.ref b23), .val (.int 3), .val (.int 1), .val (.int 1), .val (.ref b8), .val (.ref b8), .unset, .unset] [(.ref b1)])) rfl (by rw [hml]; rfl) rfl (hb hby at_275) (lenOf pd3 rfl) (W := 0) (c1 := 4) (s1 := 8)
            obtain ⟨rfl, Nq571, e572⟩ := hQ570
            have N570 := Fr.app N567 Nq571
            obtain ⟨_, T573, L573, X573, hQ573, st573⟩ := own_ib X570 hx hZ hown (z := yn4) (y := yn3) (own_w hw 53 rfl) (own_w hw 33 rfl) (mvT hZ (own_w hw 34 rfl)) (own_w hw 35 rfl) (own_w hw 36 rfl) (own_w hw 37 rfl) (mvT hZ (own_w hw 38 rfl)) (own_w hw 39 rfl) (own_w hw 40 rfl) (own_w hw 2 rfl) e572 f562 (argsL := []) (rest := []) (rm4 l Z a0 hw [] b8 T559.heap n0 O559 g_b8 f562 f563) (g := (mkF m 282 #[.val (.long q1), .second, .val (.long q2), .second, .val (.long q3), .second, .val (.long q4), .second, .val (.int p5), .val (.ref b1), .val (.ref b8), .val (.ref b15), .val (.ref b23), .val (.int 3), .val (.int 1), .val (.int 1), .val (.ref b8), .val (.ref b8), .val (.ref b8), .unset] [(.ref b8)])) rfl (by rw [hml]; rfl) rfl (hb hby at_282) (lenOf pd3 rfl) (W := 0) (c1 := 4) (s1 := 8)
            obtain ⟨rfl, Nq574, e575⟩ := hQ573
            have N573 := Fr.app N570 Nq574
            obtain ⟨fs, hr, hrun, hended, hW, hsame⟩ := X573.leave (v := some (.int 1)) (fun h => by rw [hret] at h; cases h)
            refine ⟨_, _, pre534 _ ?_, hrun, hended, _, _, rfl, ?_, ⟨_, rfl⟩, hW, hsame.mono (by decide) (by decide)⟩
            ·
              show Steps p.tables e below (T497.setTop (mkF m 119 #[.val (.long q1), .second, .val (.long q2), .second, .val (.long q3), .second, .val (.long q4), .second, .val (.int p5), .val (.ref b1), .val (.ref b8), .val (.ref b15), .val (.ref b23), .val (.int 3), .val (.int 1), .val (.int 1), .unset, .unset, .unset, .unset] [(.int 2), (.int 3)])) _
              refine XS.icmpYes X497.here hx rfl (pc0 := 119) (pc' := 137) rfl (hb hby at_119) rfl (feq (by decide : ¬ ((3 : Int32) = (2 : Int32)))).2 (by decide) (by decide) ?_
              refine XS.aload X497.here hx rfl (hb hby at_137) rfl rfl ?_
              refine XS.aload X497.here hx rfl (hb hby at_139) rfl rfl ?_
              refine st540 _ ?_
              refine XS.iload X540.here hx rfl (hb hby at_144) rfl ?_
              refine XS.iconst X540.here hx rfl (hb hby at_146) ?_
              refine XS.icmpNo X540.here hx rfl (hb hby at_147) rfl (flt (by decide : ¬ ((3 : Int32) < (3 : Int32)))).1 ?_
              refine XS.aload X540.here hx rfl (hb hby at_150) rfl rfl ?_
              refine XS.aload X540.here hx rfl (hb hby at_152) rfl rfl ?_
              refine st550 _ ?_
              refine XS.iload X550.here hx rfl (hb hby at_157) rfl ?_
              refine XS.ifYes X550.here hx rfl (pc0 := 159) (pc' := 169) rfl (hb hby at_159) rfl ((if0 _ _).trans (feq (by decide : ¬ ((3 : Int32) = (0 : Int32)))).2) (by decide) (by decide) ?_
              refine XS.iload X550.here hx rfl (hb hby at_169) rfl ?_
              refine XS.iconst X550.here hx rfl (hb hby at_171) ?_
              refine XS.icmpYes X550.here hx rfl (pc0 := 172) (pc' := 194) rfl (hb hby at_172) rfl (feq (by decide : ¬ ((3 : Int32) = (1 : Int32)))).2 (by decide) (by decide) ?_
              refine XS.iload X550.here hx rfl (hb hby at_194) rfl ?_
              refine XS.iconst X550.here hx rfl (hb hby at_196) ?_
              refine XS.icmpYes X550.here hx rfl (pc0 := 197) (pc' := 219) rfl (hb hby at_197) rfl (feq (by decide : ¬ ((3 : Int32) = (2 : Int32)))).2 (by decide) (by decide) ?_
              refine XS.aload X550.here hx rfl (hb hby at_219) rfl rfl ?_
              refine XS.astore X550.here hx rfl (hb hby at_221) rfl rfl (l' := #[.val (.long q1), .second, .val (.long q2), .second, .val (.long q3), .second, .val (.long q4), .second, .val (.int p5), .val (.ref b1), .val (.ref b8), .val (.ref b15), .val (.ref b23), .val (.int 3), .val (.int 1), .val (.int 1), .val (.ref b23), .unset, .unset, .unset]) rfl ?_
              refine XS.iload X550.here hx rfl (hb hby at_223) rfl ?_
              refine XS.ifNo X550.here hx rfl (hb hby at_225) rfl ((if0 _ _).trans (feq (by decide : ¬ ((1 : Int32) = (0 : Int32)))).1) ?_
              refine XS.iload X550.here hx rfl (hb hby at_228) rfl ?_
              refine XS.iconst X550.here hx rfl (hb hby at_230) ?_
              refine XS.icmpNo X550.here hx rfl (hb hby at_231) rfl (flt (by decide : ¬ ((3 : Int32) < (2 : Int32)))).1 ?_
              refine XS.aload X550.here hx rfl (hb hby at_234) rfl rfl ?_
              show Steps p.tables e below (T550.setTop (mkF m 236 #[.val (.long q1), .second, .val (.long q2), .second, .val (.long q3), .second, .val (.long q4), .second, .val (.int p5), .val (.ref b1), .val (.ref b8), .val (.ref b15), .val (.ref b23), .val (.int 3), .val (.int 1), .val (.int 1), .val (.ref b23), .unset, .unset, .unset] [(.ref b8)])) _
              refine st559 _ ?_
              refine XS.aload X559.here hx rfl (hb hby at_239) rfl rfl ?_
              refine XS.astore X559.here hx rfl (hb hby at_241) rfl rfl (l' := #[.val (.long q1), .second, .val (.long q2), .second, .val (.long q3), .second, .val (.long q4), .second, .val (.int p5), .val (.ref b1), .val (.ref b8), .val (.ref b15), .val (.ref b23), .val (.int 3), .val (.int 1), .val (.int 1), .val (.ref b8), .unset, .unset, .unset]) rfl ?_
              refine XS.goto X559.here hx rfl (pc0 := 243) (pc' := 266) rfl (hb hby at_243) (by decide) (by decide) ?_
              refine XS.aload X559.here hx rfl (hb hby at_266) rfl rfl ?_
              refine st567 _ ?_
              refine XS.astore X567.here hx rfl (hb hby at_271) rfl rfl (l' := #[.val (.long q1), .second, .val (.long q2), .second, .val (.long q3), .second, .val (.long q4), .second, .val (.int p5), .val (.ref b1), .val (.ref b8), .val (.ref b15), .val (.ref b23), .val (.int 3), .val (.int 1), .val (.int 1), .val (.ref b8), .val (.ref b8), .unset, .unset]) rfl ?_
              refine XS.aload X567.here hx rfl (hb hby at_273) rfl rfl ?_
              refine st570 _ ?_
              refine XS.astore X570.here hx rfl (hb hby at_278) rfl rfl (l' := #[.val (.long q1), .second, .val (.long q2), .second, .val (.long q3), .second, .val (.long q4), .second, .val (.int p5), .val (.ref b1), .val (.ref b8), .val (.ref b15), .val (.ref b23), .val (.int 3), .val (.int 1), .val (.int 1), .val (.ref b8), .val (.ref b8), .val (.ref b8), .unset]) rfl ?_
              refine XS.aload X570.here hx rfl (hb hby at_280) rfl rfl ?_
              refine st573 _ ?_
              refine XS.astore X573.here hx rfl (hb hby at_287) rfl rfl (l' := #[.val (.long q1), .second, .val (.long q2), .second, .val (.long q3), .second, .val (.long q4), .second, .val (.int p5), .val (.ref b1), .val (.ref b8), .val (.ref b15), .val (.ref b23), .val (.int 3), .val (.int 1), .val (.int 1), .val (.ref b8), .val (.ref b8), .val (.ref b8), .val (.ref b8)]) rfl ?_
              refine XS.aload X573.here hx rfl (hb hby at_289) rfl rfl ?_
              refine XS.aload X573.here hx rfl (hb hby at_291) rfl rfl ?_
              refine Jvm.RoadKit.acmp (g := (mkF m 293 #[.val (.long q1), .second, .val (.long q2), .second, .val (.long q3), .second, .val (.long q4), .second, .val (.int p5), .val (.ref b1), .val (.ref b8), .val (.ref b15), .val (.ref b23), .val (.int 3), .val (.int 1), .val (.int 1), .val (.ref b8), .val (.ref b8), .val (.ref b8), .val (.ref b8)] [(.ref b8), (.ref b8)])) X573 hx rfl rfl rfl (pc0 := 293) (pc' := 296) (same := true) rfl (hb hby at_293) rfl (decide_eq_true rfl) (by decide) (by decide) ?_
              refine XS.aload X573.here hx rfl (hb hby at_296) rfl rfl ?_
              refine XS.aload X573.here hx rfl (hb hby at_298) rfl rfl ?_
              refine Jvm.RoadKit.acmp (g := (mkF m 300 #[.val (.long q1), .second, .val (.long q2), .second, .val (.long q3), .second, .val (.long q4), .second, .val (.int p5), .val (.ref b1), .val (.ref b8), .val (.ref b15), .val (.ref b23), .val (.int 3), .val (.int 1), .val (.int 1), .val (.ref b8), .val (.ref b8), .val (.ref b8), .val (.ref b8)] [(.ref b8), (.ref b8)])) X573 hx rfl rfl rfl (pc0 := 300) (pc' := 303) (same := true) rfl (hb hby at_300) rfl (decide_eq_true rfl) (by decide) (by decide) ?_
              refine XS.aload X573.here hx rfl (hb hby at_303) rfl rfl ?_
              refine XS.aload X573.here hx rfl (hb hby at_305) rfl rfl ?_
              refine Jvm.RoadKit.acmp (g := (mkF m 307 #[.val (.long q1), .second, .val (.long q2), .second, .val (.long q3), .second, .val (.long q4), .second, .val (.int p5), .val (.ref b1), .val (.ref b8), .val (.ref b15), .val (.ref b23), .val (.int 3), .val (.int 1), .val (.int 1), .val (.ref b8), .val (.ref b8), .val (.ref b8), .val (.ref b8)] [(.ref b8), (.ref b8)])) X573 hx rfl rfl rfl (pc0 := 307) (pc' := 310) (same := true) rfl (hb hby at_307) rfl (decide_eq_true rfl) (by decide) (by decide) ?_
              refine XS.iconst X573.here hx rfl (hb hby at_310) ?_
              refine XS.goto X573.here hx rfl (pc0 := 311) (pc' := 315) rfl (hb hby at_311) (by decide) (by decide) ?_
              show Steps p.tables e below (T573.setTop (mkF m 315 #[.val (.long q1), .second, .val (.long q2), .second, .val (.long q3), .second, .val (.long q4), .second, .val (.int p5), .val (.ref b1), .val (.ref b8), .val (.ref b15), .val (.ref b23), .val (.int 3), .val (.int 1), .val (.int 1), .val (.ref b8), .val (.ref b8), .val (.ref b8), .val (.ref b8)] [(.int 1)])) _
              exact retN X573 hx (t := .boolean) hret (by simp) (hb hby at_315) hr
            ·
              show Q0 n0 _ T573.heap _
              rw [e575]
              exact ⟨rfl, N573⟩
set_option maxRecDepth 65536 in
set_option maxHeartbeats 40000000 in
theorem comes_1 {Post : Tables → Env → Array Value → State → Outcome → State → Prop} (hpost : ∀ tb e args s v u, (limb_1_1.after args s (.returned v) u = true ∧ limb_1_2.after args s (.returned v) u = true ∧ True) → FrameEnd s (.returned v) u (Jvm.fieldLocs frame_1_writes args s ++ Jvm.arrayLocs frame_1_arrays args s ++ Jvm.staticLocs frame_1_statics s) 16 128 → Post tb e args s (.returned v) u) :
    ArmFor flags0 classFile x code maxLocals ret World_1 tables_1 room_1 Calls_1 rest_1 Pre_1 Post := by
  intro l hfl _ _ p e ha hc hk s m args below hf hA hF happ hP
  obtain ⟨hcalls, hrest, hpre⟩ := hP
  obtain ⟨-, -, -, hnamed, -, -, -, hat⟩ := (Spec.applies_iff hf).mp happ
  obtain ⟨hg, hn⟩ := and_e (Cond.before_iff.mp (show (Jvm.Cond.and given_1 narrow_1).before args s = true from hpre))
  obtain ⟨hcount, hk0⟩ := and_e hg
  obtain ⟨hi0, hk1⟩ := and_e hk0
  obtain ⟨hi1, hk2⟩ := and_e hk1
  obtain ⟨hi2, hk3⟩ := and_e hk2
  obtain ⟨hi3, hk4⟩ := and_e hk3
  have hi4 := hk4
  obtain ⟨w_a0, w_a1, w_a2, w_a3, w_a4, rfl⟩ : ∃ w_a0 w_a1 w_a2 w_a3 w_a4 : Value, args = #[w_a0, w_a1, w_a2, w_a3, w_a4] := by
    have hs : args.size = 5 := by simpa [Cond.value, given_1] using hcount
    obtain ⟨L⟩ := args
    match L, hs with
    | [w_a0, w_a1, w_a2, w_a3, w_a4], _ => exact ⟨w_a0, w_a1, w_a2, w_a3, w_a4, rfl⟩
  have hw := fun d (hd : d ∈ tables_1) => atoms_spec (ws := Jvm.Cond.code x code maxLocals ret :: tables_1) hat d (List.mem_cons_of_mem _ hd)
  have hfit : Fit s := fun {y c} hc i hi => by
    obtain ⟨ha, rfl⟩ := Array.getElem?_eq_some_iff.mp hc
    have q := List.all_eq_true.mp ((Array.all_eq_true_iff_forall_mem.mp hF) _ (Array.getElem_mem ha)) i (List.mem_range.mpr hi)
    simpa [Array.getElem?_eq_getElem hi] using q
  obtain ⟨i0, ei0⟩ := isL_v hi0
  obtain rfl : w_a0 = (.long i0) := Option.some.inj ei0
  obtain ⟨i1, ei1⟩ := isL_v hi1
  obtain rfl : w_a1 = (.long i1) := Option.some.inj ei1
  obtain ⟨i2, ei2⟩ := isL_v hi2
  obtain rfl : w_a2 = (.long i2) := Option.some.inj ei2
  obtain ⟨i3, ei3⟩ := isL_v hi3
  obtain rfl : w_a3 = (.long i3) := Option.some.inj ei3
  obtain ⟨i4, ei4⟩ := is_v hi4
  obtain rfl : w_a4 = (.int i4) := Option.some.inj ei4
  obtain ⟨n, o, h1, h2, h3, _, L, rfl, ⟨rfl, N⟩, hq⟩ := rm0 l s _ hw tables_1 i0 i1 i2 i3 i4 s.heap s.heap.size (Old.start s) p e ha hc hk s m _ below hf ((Spec.applies_iff_loose hf).mp happ).1 ⟨rfl, State.Warmed39.refl s, rfl⟩ trivial
  refine ⟨n, _, h1, h2, h3, hpost _ _ _ _ _ _ ⟨Cond.after_iff.mpr rfl, Cond.after_iff.mpr (eq_i res_at (Term.int_eval (1)) rfl), trivial⟩ ⟨hq.1, hq.2.1, (hq.2.2.sift fun y hy => Or.inr (N y hy)).mono (by decide) (by decide)⟩⟩
theorem main_1_1 : Claimed_1_1 := comes_1 fun _ _ _ _ _ _ h hF => ⟨h.1, hF⟩
theorem main_1_2 : Claimed_1_2 := comes_1 fun _ _ _ _ _ _ h hF => ⟨h.2.1, hF⟩
end Jvm.Pilot.@@N@@
namespace Jvm.Pilot.@@N@@
open Jvm Jvm.ClassFile Sem Op Lib Jvm.Free Jvm.Stand Jvm.Pilot.@@N@@.Jvm.D
/-! MADE BY PROGRAM (witnessworld.py) out of the Statement's table words and the real class files: 12 classes; the members and pool entries that the words name. The judged class is class 1, her method 1. -/
namespace start1
open Jvm.ClassFile
def u (s : String) : CpInfo := .utf8 (stringToUtf16 s)
/-- a pool by its gaps: so many unusable entries, then the entry; so many at the end -/
def gap : Nat → List CpInfo → List CpInfo
  | 0, r => r
  | n + 1, r => .unusable :: gap n r
def poolList (es : List (Nat × CpInfo)) (last : Nat) : List CpInfo := es.foldr (fun e r => gap e.1 (e.2 :: r)) (gap last [])
def pool (es : List (Nat × CpInfo)) (last : Nat) : Array CpInfo := ⟨poolList es last⟩
def fileOf (pool : Array CpInfo) (this : Nat) (attrs : Array Attribute := #[]) (ms : Array MethodInfo := #[]) (fl : Nat := 33) (sup : Nat := 0) (ifs : Array Nat := #[]) (fds : Array FieldInfo := #[]) : ClassFile where
  minorVersion := 0
  majorVersion := 65
  constantPool := pool
  accessFlags := fl
  thisClass := this
  superClass := sup
  interfaces := ifs
  fields := fds
  methods := ms
  attributes := attrs
def plain (name : String) (sup : Option ClassId) : Class where
  name := name
  kind := .ordinary
  loader := none
  accessFlags := 33
  super := sup
  interfaces := #[]
  cf := none
  fields := #[]
  methods := #[]
  instanceTypes := #[]
  staticTypes := #[]
  resolved := #[]
  callSites := []
  init := .initialized
  statics := none
  mirror := none

def pool0 : Array CpInfo := pool [(5, u "<init>"), (0, u "()V"), (1, .class_ 10), (1, u "java/lang/Object")] 113

def k0c0 : Code := { maxStack := 0, maxLocals := 1, code := object_method_1_code, exceptionTable := #[], attributes := #[] }
def k0m0 : Method := { name := "<init>", desc := "()V", sig := { parameters := [], returnType := none }, accessFlags := 1, code := some k0c0 }
/-- java/lang/Object -/
def k0 : Class := { plain "java/lang/Object" none with
  accessFlags := 33
  interfaces := #[]
  cf := some (fileOf pool0 8 #[] #[{ accessFlags := 1, nameIndex := 5, descriptorIndex := 6, attributes := #[] }] 33 0 #[] #[])
  fields := #[]
  methods := #[k0m0]
  instanceTypes := #[]
  staticTypes := #[]
  resolved := Array.replicate 124 none
  statics := none }

def pool1 : Array CpInfo := pool [(2, .class_ 4), (1, u "java/lang/Object"), (0, u "<init>"), (0, u "()V"), (0, .class_ 8), (0, u "com/example/horn1/horn1/term/Var"), (0, .methodref 7 10), (0, .nameAndType 5 11), (0, u "(J)V"), (0, .methodref 13 14), (0, .class_ 15), (0, .nameAndType 16 17), (0, u "com/example/horn1/horn1/term/Int"), (0, u "of"), (0, u "(J)Lcom/example/horn1/horn1/term/Int;"), (0, .methodref 7 19), (0, .nameAndType 20 21), (0, u "bind"), (0, u "(Lcom/example/horn1/horn1/term/Term;)V"), (0, .methodref 7 23), (0, .nameAndType 24 6), (0, u "unbind"), (0, .methodref 7 26), (0, .nameAndType 27 28), (0, u "deref"), (0, u "()Lcom/example/horn1/horn1/term/Term;"), (0, .interfaceMethodref 30 26), (0, .class_ 31), (0, u "com/example/horn1/horn1/term/Term"), (0, .class_ 33), (0, u "com/example/horn1/horn1/term/VarDerefPinLaw"), (2, u "law"), (0, u "(JJJJI)Z")] 3

def k1m0 : Method := { name := "<init>", desc := "()V", sig := { parameters := [], returnType := none }, accessFlags := 1, code := none }
def k1c1 : Code := { maxStack := 4, maxLocals := 20, code := code, exceptionTable := #[], attributes := #[] }
def k1m1 : Method := { name := "law", desc := "(JJJJI)Z", sig := { parameters := [.long, .long, .long, .long, .int], returnType := some .boolean }, accessFlags := 9, code := some k1c1 }
/-- com/example/horn1/horn1/term/VarDerefPinLaw -/
def k1 : Class := { plain "com/example/horn1/horn1/term/VarDerefPinLaw" (some 0) with
  accessFlags := 49
  interfaces := #[]
  cf := some (fileOf pool1 32 #[] #[{ accessFlags := 1, nameIndex := 5, descriptorIndex := 6, attributes := #[] }, { accessFlags := 9, nameIndex := 36, descriptorIndex := 37, attributes := #[] }] 49 2 #[] #[])
  fields := #[]
  methods := #[k1m0, k1m1]
  instanceTypes := #[]
  staticTypes := #[]
  resolved := Array.replicate 41 none
  statics := none }

def pool2 : Array CpInfo := pool [(1, .class_ 2), (0, u "com/example/horn1/horn1/term/Term"), (0, .class_ 4), (0, u "java/lang/Object"), (0, u "deref"), (0, u "()Lcom/example/horn1/horn1/term/Term;")] 15

def k2c0 : Code := { maxStack := 1, maxLocals := 1, code := prog_92_method_1_code, exceptionTable := #[], attributes := #[] }
def k2m0 : Method := { name := "deref", desc := "()Lcom/example/horn1/horn1/term/Term;", sig := { parameters := [], returnType := some (.object "com/example/horn1/horn1/term/Term") }, accessFlags := 1, code := some k2c0 }
/-- com/example/horn1/horn1/term/Term -/
def k2 : Class := { plain "com/example/horn1/horn1/term/Term" (some 0) with
  accessFlags := 1537
  interfaces := #[]
  cf := some (fileOf pool2 1 #[] #[{ accessFlags := 1, nameIndex := 5, descriptorIndex := 6, attributes := #[] }] 1537 3 #[] #[])
  fields := #[]
  methods := #[k2m0]
  instanceTypes := #[]
  staticTypes := #[]
  resolved := Array.replicate 22 none
  statics := none }

def pool3 : Array CpInfo := pool [(2, .class_ 4), (1, u "com/example/horn1/horn1/term/Var"), (0, u "OUTSIDE"), (0, u "Ljava/util/concurrent/atomic/AtomicLong;"), (8, u "<init>"), (0, u "(J)V"), (0, .methodref 18 19), (0, .class_ 20), (0, .nameAndType 15 21), (0, u "java/lang/Object"), (0, u "()V"), (0, .fieldref 2 23), (0, .nameAndType 24 25), (0, u "serial"), (0, u "J"), (0, .fieldref 2 27), (0, .nameAndType 28 29), (0, u "binding"), (0, u "Lcom/example/horn1/horn1/term/Term;"), (7, .interfaceMethodref 38 39), (0, .class_ 40), (0, .nameAndType 41 42), (0, u "com/example/horn1/horn1/term/Term"), (0, u "deref"), (0, u "()Lcom/example/horn1/horn1/term/Term;"), (8, u "bind"), (0, u "(Lcom/example/horn1/horn1/term/Term;)V"), (1, u "unbind")] 3

def k3m0 : Method := { name := "<init>", desc := "()V", sig := { parameters := [], returnType := none }, accessFlags := 1, code := none }
def k3c1 : Code := { maxStack := 3, maxLocals := 3, code := prog_93_method_2_code, exceptionTable := #[], attributes := #[] }
def k3m1 : Method := { name := "<init>", desc := "(J)V", sig := { parameters := [.long], returnType := none }, accessFlags := 1, code := some k3c1 }
def k3c2 : Code := { maxStack := 3, maxLocals := 2, code := prog_93_method_4_code, exceptionTable := #[], attributes := #[] }
def k3m2 : Method := { name := "bind", desc := "(Lcom/example/horn1/horn1/term/Term;)V", sig := { parameters := [(.object "com/example/horn1/horn1/term/Term")], returnType := none }, accessFlags := 1, code := some k3c2 }
def k3c3 : Code := { maxStack := 2, maxLocals := 1, code := prog_93_method_5_code, exceptionTable := #[], attributes := #[] }
def k3m3 : Method := { name := "unbind", desc := "()V", sig := { parameters := [], returnType := none }, accessFlags := 1, code := some k3c3 }
def k3c4 : Code := { maxStack := 1, maxLocals := 3, code := prog_93_method_6_code, exceptionTable := #[], attributes := #[] }
def k3m4 : Method := { name := "deref", desc := "()Lcom/example/horn1/horn1/term/Term;", sig := { parameters := [], returnType := some (.object "com/example/horn1/horn1/term/Term") }, accessFlags := 1, code := some k3c4 }
/-- com/example/horn1/horn1/term/Var -/
def k3 : Class := { plain "com/example/horn1/horn1/term/Var" (some 0) with
  accessFlags := 49
  interfaces := #[2]
  cf := some (fileOf pool3 2 #[] #[{ accessFlags := 1, nameIndex := 15, descriptorIndex := 21, attributes := #[] }, { accessFlags := 1, nameIndex := 15, descriptorIndex := 16, attributes := #[] }, { accessFlags := 1, nameIndex := 51, descriptorIndex := 52, attributes := #[] }, { accessFlags := 1, nameIndex := 54, descriptorIndex := 21, attributes := #[] }, { accessFlags := 1, nameIndex := 41, descriptorIndex := 42, attributes := #[] }] 49 18 #[38] #[{ accessFlags := 26, nameIndex := 5, descriptorIndex := 6, attributes := #[] }, { accessFlags := 18, nameIndex := 24, descriptorIndex := 25, attributes := #[] }, { accessFlags := 2, nameIndex := 28, descriptorIndex := 29, attributes := #[] }])
  fields := #[{ name := "OUTSIDE", type := (.object "java/util/concurrent/atomic/AtomicLong"), accessFlags := 26, slot := 0, constantValue := 0 }, { name := "serial", type := .long, accessFlags := 18, slot := 0, constantValue := 0 }, { name := "binding", type := (.object "com/example/horn1/horn1/term/Term"), accessFlags := 2, slot := 1, constantValue := 0 }]
  methods := #[k3m0, k3m1, k3m2, k3m3, k3m4]
  instanceTypes := #[.long, (.object "com/example/horn1/horn1/term/Term")]
  staticTypes := #[(.object "java/util/concurrent/atomic/AtomicLong")]
  resolved := Array.replicate 58 none
  statics := none }

def pool4 : Array CpInfo := pool [(1, .class_ 2), (0, u "java/lang/Comparable"), (0, .class_ 4), (0, u "java/lang/Object")] 7

/-- java/lang/Comparable -/
def k4 : Class := { plain "java/lang/Comparable" (some 0) with
  accessFlags := 1537
  interfaces := #[]
  cf := some (fileOf pool4 1 #[] #[] 1537 3 #[] #[])
  fields := #[]
  methods := #[]
  instanceTypes := #[]
  staticTypes := #[]
  resolved := Array.replicate 12 none
  statics := none }

def pool5 : Array CpInfo := pool [(1, .methodref 2 3), (0, .class_ 4), (0, .nameAndType 5 6), (0, u "java/lang/Object"), (0, u "<init>"), (0, u "()V"), (0, .fieldref 8 9), (0, .class_ 10), (0, .nameAndType 11 12), (0, u "com/example/horn1/horn1/term/Int"), (0, u "small"), (0, u "J"), (0, .fieldref 8 14), (0, .nameAndType 15 16), (0, u "big"), (0, u "Ljava/math/BigInteger;"), (0, .methodref 8 18), (0, .nameAndType 5 19), (0, u "(JLjava/math/BigInteger;)V"), (104, .class_ 125), (0, u "com/example/horn1/horn1/term/Term"), (0, .class_ 127), (0, u "java/lang/Comparable"), (0, u "EXACT_IN_DOUBLE"), (3, u "of"), (0, u "(J)Lcom/example/horn1/horn1/term/Int;")] 29

def k5c0 : Code := { maxStack := 3, maxLocals := 4, code := prog_89_method_1_code, exceptionTable := #[], attributes := #[] }
def k5m0 : Method := { name := "<init>", desc := "(JLjava/math/BigInteger;)V", sig := { parameters := [.long, (.object "java/math/BigInteger")], returnType := none }, accessFlags := 2, code := some k5c0 }
def k5c1 : Code := { maxStack := 5, maxLocals := 2, code := prog_89_method_2_code, exceptionTable := #[], attributes := #[] }
def k5m1 : Method := { name := "of", desc := "(J)Lcom/example/horn1/horn1/term/Int;", sig := { parameters := [.long], returnType := some (.object "com/example/horn1/horn1/term/Int") }, accessFlags := 9, code := some k5c1 }
/-- com/example/horn1/horn1/term/Int -/
def k5 : Class := { plain "com/example/horn1/horn1/term/Int" (some 0) with
  accessFlags := 49
  interfaces := #[2, 4]
  cf := some (fileOf pool5 8 #[] #[{ accessFlags := 2, nameIndex := 5, descriptorIndex := 19, attributes := #[] }, { accessFlags := 9, nameIndex := 132, descriptorIndex := 133, attributes := #[] }] 49 2 #[124, 126] #[{ accessFlags := 26, nameIndex := 128, descriptorIndex := 12, attributes := #[] }, { accessFlags := 18, nameIndex := 11, descriptorIndex := 12, attributes := #[] }, { accessFlags := 18, nameIndex := 15, descriptorIndex := 16, attributes := #[] }])
  fields := #[{ name := "EXACT_IN_DOUBLE", type := .long, accessFlags := 26, slot := 0, constantValue := 0 }, { name := "small", type := .long, accessFlags := 18, slot := 0, constantValue := 0 }, { name := "big", type := (.object "java/math/BigInteger"), accessFlags := 18, slot := 1, constantValue := 0 }]
  methods := #[k5m0, k5m1]
  instanceTypes := #[.long, (.object "java/math/BigInteger")]
  staticTypes := #[.long]
  resolved := Array.replicate 163 none
  statics := none }

def pool6 : Array CpInfo := pool [(1, u "java/lang/Cloneable"), (0, .class_ 1), (0, u "java/lang/Object"), (0, .class_ 3)] 3

/-- java/lang/Cloneable -/
def k6 : Class := { plain "java/lang/Cloneable" (some 0) with
  accessFlags := 1537
  interfaces := #[]
  cf := some (fileOf pool6 2 #[] #[] 1537 4 #[] #[])
  fields := #[]
  methods := #[]
  instanceTypes := #[]
  staticTypes := #[]
  resolved := Array.replicate 8 none
  statics := none }

def pool7 : Array CpInfo := pool [(1, u "java/io/Serializable"), (0, .class_ 1), (0, u "java/lang/Object"), (0, .class_ 3)] 3

/-- java/io/Serializable -/
def k7 : Class := { plain "java/io/Serializable" (some 0) with
  accessFlags := 1537
  interfaces := #[]
  cf := some (fileOf pool7 2 #[] #[] 1537 4 #[] #[])
  fields := #[]
  methods := #[]
  instanceTypes := #[]
  staticTypes := #[]
  resolved := Array.replicate 8 none
  statics := none }

/-- the primitive byte -/
def k8 : Class := { plain "byte" none with kind := .primitive 'B', accessFlags := 0x411 }
/-- [B -/
def k9 : Class := { plain "[B" (some 0) with kind := .array 8 .byte, interfaces := #[6, 7], accessFlags := 1041 }

/-- the primitive int -/
def k10 : Class := { plain "int" none with kind := .primitive 'I', accessFlags := 0x411 }
/-- [I -/
def k11 : Class := { plain "[I" (some 0) with kind := .array 10 .int, interfaces := #[6, 7], accessFlags := 1041 }

def heap : Heap := #[]
def classes : Array Class := #[k0, k1, k2, k3, k4, k5, k6, k7, k8, k9, k10, k11]
def interned : List (Array UInt16 × Addr) := []
def slotsUsed : Nat := 0
def theMethod : MethodId := ⟨1, 1⟩
def args0 : Array Value := #[.long 5, .long 5, .long 5, .long 5, .int 5]
def aboutOver (below : List Frame) : State where
  vm := { classes := classes, interned := interned.toArray }
  heap := heap
  slotsUsed := slotsUsed
  threads := #[{ frames := .invoking theMethod args0 :: below }]
def below0 : List Frame := [.native { method := ⟨0, 0⟩, args := #[] }]
def about1 : State := aboutOver below0
def p0 : Program := .bare "" "" ""
def e0 : Env := launch0.env 0 0 0
theorem w_frames : about1.frames = Frame.invoking theMethod args0 :: below0 := rfl
set_option maxRecDepth 65536 in
theorem w_args : argsFit about1.vm theMethod args0 = true := by decide +kernel
set_option maxRecDepth 65536 in
theorem w_heap : heapFits about1 = true := by decide +kernel
set_option maxRecDepth 65536 in
theorem w_runnable : about1.curStatus? = some .runnable := by decide +kernel
set_option maxRecDepth 65536 in
theorem w_alone : about1.alone = true := by decide +kernel
set_option maxRecDepth 65536 in
theorem w_named : about1.methodNamed? x = some theMethod := by decide +kernel
set_option maxRecDepth 65536 in
theorem w_hears : about1.hears theMethod below0 = true := by decide +kernel
set_option maxRecDepth 65536 in
theorem w_ripe : about1.ripe theMethod args0 below0 = true := by decide +kernel
theorem w_running : about1.status = .running := rfl
set_option maxRecDepth 65536 in
theorem w_room : about1.hasRoom e0.platform room_1 = true :=
  launch0.hasRoom_least _ room_1 (by decide +kernel) (by decide +kernel) (by decide +kernel) (by decide +kernel) (by decide +kernel) (by decide +kernel)
theorem allAtoms_all (ts : List Jvm.Cond) (a : Array Jvm.Value) (st : Jvm.State) : (allAtoms ts).before a st = ts.all (fun c => c.before a st) := by
  induction ts with
  | nil => rfl
  | cons c t ih =>
    show (Jvm.Cond.and c (allAtoms t)).before a st = _
    rw [Jvm.Cond.before_and, ih, List.all_cons]
def words1 : List Jvm.Cond := Jvm.Cond.code x code maxLocals ret :: tables_1
/-- a 'code' word, met by the world's own term for the bytes: nothing is compared byte by byte -/
theorem code_word {y : MethodName} {bytes : ByteArray} {mx : Nat} {rt : Option FieldType} {a : Array Value} {s : State} {m : MethodId} {meth : Method} {c : Code} (h1 : s.methodNamed? y = some m) (h2 : s.vm.method? m = some meth) (h3 : meth.code = some c) (h4 : c.code = bytes)
    (h5 : (c.maxLocals == mx && c.exceptionTable.isEmpty && decide (c.maxStack ≤ mostOperands) && decide (meth.sig.returnType = rt) && !meth.locks && decide (parseMethodDescriptor y.desc = some meth.sig)) = true) : (Jvm.Cond.code y bytes mx rt).before a s = true := by
  simp only [Bool.and_eq_true, beq_iff_eq, Bool.not_eq_true', decide_eq_true_eq] at h5
  obtain ⟨⟨⟨⟨⟨g1, g2⟩, g3⟩, g4⟩, g5⟩, g6⟩ := h5
  simp [Cond.before, Cond.holds, Cond.value, h1, h2, h3, h4, g1, g2, g3, g4, g5, g6]
def isCode : Jvm.Cond → Bool
  | .code _ _ _ _ => true
  | _ => false
theorem all_split {L : List Jvm.Cond} {P : Jvm.Cond → Bool} (h1 : L.all (fun c => isCode c || P c) = true) (h2 : ∀ c ∈ L.filter isCode, P c = true) : L.all P = true := by
  refine List.all_eq_true.mpr fun c hc => ?_
  have h := List.all_eq_true.mp h1 c hc
  rcases Bool.eq_false_or_eq_true (isCode c) with hi | hi
  · exact h2 c (List.mem_filter.mpr ⟨hc, hi⟩)
  · simpa [hi] using h
set_option maxRecDepth 65536 in
theorem w_c0 : (Jvm.Cond.code x code maxLocals ret).before args0 about1 = true := code_word (m := ⟨1, 1⟩) (meth := k1m1) (c := k1c1) (by decide +kernel) rfl rfl rfl (by decide +kernel)
set_option maxRecDepth 65536 in
theorem w_c1 : (Jvm.Cond.code ({ cls := "com/example/horn1/horn1/term/Var", name := "<init>", desc := "(J)V" } : Jvm.MethodName) prog_93_method_2_code (3 : Nat) (Option.none : Option Jvm.ClassFile.FieldType)).before args0 about1 = true := code_word (m := ⟨3, 1⟩) (meth := k3m1) (c := k3c1) (by decide +kernel) rfl rfl rfl (by decide +kernel)
set_option maxRecDepth 65536 in
theorem w_c2 : (Jvm.Cond.code ({ cls := "java/lang/Object", name := "<init>", desc := "()V" } : Jvm.MethodName) object_method_1_code (1 : Nat) (Option.none : Option Jvm.ClassFile.FieldType)).before args0 about1 = true := code_word (m := ⟨0, 0⟩) (meth := k0m0) (c := k0c0) (by decide +kernel) rfl rfl rfl (by decide +kernel)
set_option maxRecDepth 65536 in
theorem w_c3 : (Jvm.Cond.code ({ cls := "com/example/horn1/horn1/term/Int", name := "of", desc := "(J)Lcom/example/horn1/horn1/term/Int;" } : Jvm.MethodName) prog_89_method_2_code (2 : Nat) (Option.some (Jvm.ClassFile.FieldType.object "com/example/horn1/horn1/term/Int"))).before args0 about1 = true := code_word (m := ⟨5, 1⟩) (meth := k5m1) (c := k5c1) (by decide +kernel) rfl rfl rfl (by decide +kernel)
set_option maxRecDepth 65536 in
theorem w_c4 : (Jvm.Cond.code ({ cls := "com/example/horn1/horn1/term/Int", name := "<init>", desc := "(JLjava/math/BigInteger;)V" } : Jvm.MethodName) prog_89_method_1_code (4 : Nat) (Option.none : Option Jvm.ClassFile.FieldType)).before args0 about1 = true := code_word (m := ⟨5, 0⟩) (meth := k5m0) (c := k5c0) (by decide +kernel) rfl rfl rfl (by decide +kernel)
set_option maxRecDepth 65536 in
theorem w_c5 : (Jvm.Cond.code ({ cls := "com/example/horn1/horn1/term/Var", name := "bind", desc := "(Lcom/example/horn1/horn1/term/Term;)V" } : Jvm.MethodName) prog_93_method_4_code (2 : Nat) (Option.none : Option Jvm.ClassFile.FieldType)).before args0 about1 = true := code_word (m := ⟨3, 2⟩) (meth := k3m2) (c := k3c2) (by decide +kernel) rfl rfl rfl (by decide +kernel)
set_option maxRecDepth 65536 in
theorem w_c6 : (Jvm.Cond.code ({ cls := "com/example/horn1/horn1/term/Var", name := "deref", desc := "()Lcom/example/horn1/horn1/term/Term;" } : Jvm.MethodName) prog_93_method_6_code (3 : Nat) (Option.some (Jvm.ClassFile.FieldType.object "com/example/horn1/horn1/term/Term"))).before args0 about1 = true := code_word (m := ⟨3, 4⟩) (meth := k3m4) (c := k3c4) (by decide +kernel) rfl rfl rfl (by decide +kernel)
set_option maxRecDepth 65536 in
theorem w_c7 : (Jvm.Cond.code ({ cls := "com/example/horn1/horn1/term/Term", name := "deref", desc := "()Lcom/example/horn1/horn1/term/Term;" } : Jvm.MethodName) prog_92_method_1_code (1 : Nat) (Option.some (Jvm.ClassFile.FieldType.object "com/example/horn1/horn1/term/Term"))).before args0 about1 = true := code_word (m := ⟨2, 0⟩) (meth := k2m0) (c := k2c0) (by decide +kernel) rfl rfl rfl (by decide +kernel)
set_option maxRecDepth 65536 in
theorem w_c8 : (Jvm.Cond.code ({ cls := "com/example/horn1/horn1/term/Var", name := "unbind", desc := "()V" } : Jvm.MethodName) prog_93_method_5_code (1 : Nat) (Option.none : Option Jvm.ClassFile.FieldType)).before args0 about1 = true := code_word (m := ⟨3, 3⟩) (meth := k3m3) (c := k3c3) (by decide +kernel) rfl rfl rfl (by decide +kernel)
def codes1 : List Jvm.Cond := [Jvm.Cond.code x code maxLocals ret, Jvm.Cond.code ({ cls := "com/example/horn1/horn1/term/Var", name := "<init>", desc := "(J)V" } : Jvm.MethodName) prog_93_method_2_code (3 : Nat) (Option.none : Option Jvm.ClassFile.FieldType), Jvm.Cond.code ({ cls := "java/lang/Object", name := "<init>", desc := "()V" } : Jvm.MethodName) object_method_1_code (1 : Nat) (Option.none : Option Jvm.ClassFile.FieldType), Jvm.Cond.code ({ cls := "com/example/horn1/horn1/term/Int", name := "of", desc := "(J)Lcom/example/horn1/horn1/term/Int;" } : Jvm.MethodName) prog_89_method_2_code (2 : Nat) (Option.some (Jvm.ClassFile.FieldType.object "com/example/horn1/horn1/term/Int")), Jvm.Cond.code ({ cls := "com/example/horn1/horn1/term/Int", name := "<init>", desc := "(JLjava/math/BigInteger;)V" } : Jvm.MethodName) prog_89_method_1_code (4 : Nat) (Option.none : Option Jvm.ClassFile.FieldType), Jvm.Cond.code ({ cls := "com/example/horn1/horn1/term/Var", name := "bind", desc := "(Lcom/example/horn1/horn1/term/Term;)V" } : Jvm.MethodName) prog_93_method_4_code (2 : Nat) (Option.none : Option Jvm.ClassFile.FieldType), Jvm.Cond.code ({ cls := "com/example/horn1/horn1/term/Var", name := "deref", desc := "()Lcom/example/horn1/horn1/term/Term;" } : Jvm.MethodName) prog_93_method_6_code (3 : Nat) (Option.some (Jvm.ClassFile.FieldType.object "com/example/horn1/horn1/term/Term")), Jvm.Cond.code ({ cls := "com/example/horn1/horn1/term/Term", name := "deref", desc := "()Lcom/example/horn1/horn1/term/Term;" } : Jvm.MethodName) prog_92_method_1_code (1 : Nat) (Option.some (Jvm.ClassFile.FieldType.object "com/example/horn1/horn1/term/Term")), Jvm.Cond.code ({ cls := "com/example/horn1/horn1/term/Var", name := "unbind", desc := "()V" } : Jvm.MethodName) prog_93_method_5_code (1 : Nat) (Option.none : Option Jvm.ClassFile.FieldType)]
set_option maxRecDepth 65536 in
theorem codes_eq : words1.filter isCode = codes1 := rfl
theorem w_codes : ∀ c ∈ words1.filter isCode, c.before args0 about1 = true := by
  rw [codes_eq]
  intro c hc
  simp only [codes1, List.mem_cons, List.not_mem_nil, or_false] at hc
  rcases hc with rfl | rfl | rfl | rfl | rfl | rfl | rfl | rfl | rfl
  · exact w_c0
  · exact w_c1
  · exact w_c2
  · exact w_c3
  · exact w_c4
  · exact w_c5
  · exact w_c6
  · exact w_c7
  · exact w_c8
set_option maxRecDepth 65536 in
theorem w_t1 : (words1.take 24).all (fun c => isCode c || c.before args0 about1) = true := by decide +kernel
set_option maxRecDepth 65536 in
theorem w_t2 : ((words1.drop 24).take 24).all (fun c => isCode c || c.before args0 about1) = true := by decide +kernel
set_option maxRecDepth 65536 in
theorem w_t3 : ((words1.drop 24).drop 24).all (fun c => isCode c || c.before args0 about1) = true := by decide +kernel
theorem w_tables : (allAtoms (Jvm.Cond.code x code maxLocals ret :: tables_1)).before args0 about1 = true := by
  rw [allAtoms_all]
  show words1.all (fun c => c.before args0 about1) = true
  refine all_split ?_ w_codes
  rw [← List.take_append_drop 24 words1, List.all_append, w_t1, ← List.take_append_drop 24 (words1.drop 24), List.all_append, w_t2, w_t3]
  rfl
set_option maxRecDepth 65536 in
theorem w_case : (Jvm.Cond.and given_1 narrow_1).before args0 about1 = true := by decide +kernel
theorem w_applies : (headSpec (Jvm.Cond.code x code maxLocals ret :: tables_1) room_1).applies x e0.platform about1 = true :=
  (Spec.applies_iff w_frames).mpr ⟨w_running, w_runnable, w_alone, w_named, w_hears, w_ripe, w_room, w_tables⟩
theorem atStart : AtStart classFile x code maxLocals ret World_1 tables_1 room_1 Calls_1 rest_1 Pre_1 launch0 p0 e0 about1 theMethod args0 below0 :=
  ⟨lists_1, trivial, launch0.admits_env _ _ _, launch0.least_env, fairChoices_fair.cas, fairChoices_fair.clock, w_frames, w_args, w_heap, w_applies, trivial, trivial, w_case⟩
end start1
theorem witness_1 : WitnessClaimed_1 := ⟨start1.p0, start1.e0, start1.about1, start1.theMethod, start1.args0, start1.below0, start1.atStart⟩
end Jvm.Pilot.@@N@@
