import JvmDerived
import JvmDerived.Pilot.@@N@@Statement
import JvmDerived.Pilot.@@N@@Code
set_option linter.unusedVariables false
set_option linter.unusedSimpArgs false
namespace Jvm.RoadKit
open Sem ClassFile Op Lib Jvm.Stand Jvm.Free Jvm.LawKit
section New
variable {p : Program} {l : Launch} {e : Env} {R : Room} {s : State} {m : MethodId} {args : Array Value} {below : List Frame} {meth : Method} {c : Code} {T : State} {locs : List Loc} {cells slots : Nat}
theorem retI (X : Stand p l e R s m args below meth c T locs cells slots) (hx : p.tables.exec = Jvm.exec) {pc : Nat} {Ls : Array Slot} {z : Int32} {rest : List Value} (hret : meth.sig.returnType = some .int) (hd : decode c.code pc = .ok (.ireturn, 1)) {fs : List Frame}
    (hl : ∀ (f : JFrame) (acts : List Action), f.method = m → f.locked = none → f.entered = [] → (doReturn e (T.setTop f) acts (some (.int z))).1 = T.setFrames fs) : Steps p.tables e below (T.setTop (mkF m pc Ls (.int z :: rest))) (T.setFrames fs) := by
  have hm' : T.vm.method? m = some meth := X.method'
  have hn : narrow .int (.int z) = .int z := rfl
  show Steps p.tables e below (T.setTop { method := m, pc := pc, locals := Ls, stack := _ :: rest, locked := none }) _
  jvm_step X.here [X.here.top, hx, hd, hm', hret, hn]
  first | (intro acts; rw [hl _ acts rfl rfl rfl]) | rw [hl _ _ rfl rfl rfl]
  exact Steps.refl _
end New
end Jvm.RoadKit
namespace Jvm.Pilot.@@N@@
open Jvm Jvm.ClassFile Sem Op Lib Jvm.Free Jvm.Stand Jvm.LawKit Jvm.RoadKit Bundle Jvm.Pilot.@@N@@.Jvm.D
theorem own_bd {p : Program} {l : Launch} {x : MethodName} {cd : List Jvm.Cond} {R : Room} {code : ByteArray} {maxL : Nat} {ret : Option FieldType} {e : Env} {s : State} {m : MethodId} {args : Array Value} {below : List Frame} {meth : Method} {c : Code} {s₁ : State} {h0 : Heap} (Bd : BodyLoose p l x (head1 cd R) code maxL ret e s m args below meth c s₁) (hh : s.heap = h0) (n0 : Nat) :
    p.tables.exec = Jvm.exec ∧ c.code = code ∧ s.vm.findClass x.cls = some m.cls ∧ meth.sig.returnType = ret ∧ meth.locks = false ∧ Stand p l e R s m args below meth c s₁ [] 0 0 ∧ s₁.heap = h0 ∧ Fr n0 [] :=
  ⟨Bd.exec, Bd.bytes, findClass_of_methodNamed Bd.named, Bd.returns, BodyLoose.notSynchronized Bd, Stand.of_body Bd, by rw [← hh, Bd.state]; rfl, Fr.nil n0⟩
theorem own_ct (s₁ : State) {p : Program} {e : Env} {below : List Frame} {f g : JFrame} (h : f = g) : ∀ t, Steps p.tables e below (s₁.setTop g) t → Steps p.tables e below (s₁.setTop f) t := fun t k => castTop h k
theorem own_w {a0 : Array Value} {Z : State} (hw : ∀ d ∈ tables_1, d.before a0 Z = true) {d : Jvm.Cond} (i : Nat) (h : tables_1[i]? = some d) : d.before a0 Z = true := hw d (List.mem_of_getElem? h)
section Calls
variable {p : Program} {l : Launch} {e : Env} {R : Room} {s : State} {m : MethodId} {args : Array Value} {below : List Frame} {meth : Method} {c : Code} {T : State} {locs : List Loc} {cells slots : Nat} {Z : State} {a0 : Array Value} {h : Heap}
variable {own C : String} {index : Nat} {y z : MethodName} {bytes : ByteArray} {maxL : Nat} {ret : Option FieldType} {rm : Room} {a : Addr} {Q : Option Value → Heap → List Loc → Prop} {argsL rest : List Value} {g : JFrame}
theorem own_vb (X : Stand p l e R s m args below meth c T locs cells slots) (hx : p.tables.exec = Jvm.exec) (hZ : Z.Warmed39 s.vm) (hown : s.vm.findClass own = some m.cls)
    (w1 : (Cond.methodLink own index y).before a0 Z = true) (w2 : (Cond.declares y).before a0 Z = true) (w3 : (Cond.selects C y y).before a0 Z = true) (w4 : (Cond.instanceMethod y).before a0 Z = true) (wc : (Cond.code y bytes maxL ret).before a0 Z = true) (wz : (Cond.initialized y.cls).before a0 Z = true)
    (eT : T.heap = h) (E : Exa Z h a C)
    (hM : MetFree l y (head1 [Cond.code y bytes maxL ret] rm) (fun a' U => a' = (Value.ref a :: argsL).toArray ∧ Z.Warmed39 U.vm ∧ U.heap = h) (fun _ _ _ _ _ => True) (fun _ U o U' => ∃ v L, o = .returned v ∧ Q v U'.heap L ∧ FrameEnd U o U' L rm.cells rm.slots))
    (hg : g.method = m) (hml : g.locals.size = c.maxLocals) (hs : g.stack = argsL.reverse ++ .ref a :: rest) (hd : decode c.code g.pc = .ok (.invokevirtual index, 3)) (hlen : ∀ sig, parseMethodDescriptor y.desc = some sig → argsL.length = sig.parameters.length)
    {W : Nat} {c1 s1 : Nat} (h1 : cells + rm.cells = c1 := by rfl) (h2 : slots + rm.slots = s1 := by rfl) (hW : 2 * g.monitorRoom + (rest.map fun v => v.category).sum ≤ W := by show 2 * 0 + _ ≤ _; exact Nat.le_of_eq rfl) (hf : rm.frames + 1 ≤ R.frames := by decide) (hl : W + (maxL + 11) + rm.locals ≤ R.locals := by decide) (hc : c1 ≤ R.cells := by decide) (hsl : s1 ≤ R.slots := by decide) (hy : y.cls ≠ "java/lang/invoke/MethodHandle" ∧ y.cls ≠ "java/lang/invoke/VarHandle" := by decide) :
    ∃ v T' L, Stand p l e R s m args below meth c T' (locs ++ L) c1 s1 ∧ Q v T'.heap L ∧ ∀ target, Steps p.tables e below (T'.setTop { g with pc := g.pc + 3, stack := v.toList ++ rest }) target → Steps p.tables e below (T.setTop g) target := by
  subst h1 h2
  obtain ⟨cB, kB, q1, q2, q3⟩ := isOf hZ eT E
  obtain ⟨v, _, ⟨T', L', k', n'⟩, -, X', ⟨L, hQ, l1, y1, z1⟩, st⟩ := X.virtualBack hx (y := y) (z := y) hown (mvT hZ w1) (mvT hZ w2) (notFace_of_selects (args := #[]) (mvT hZ w3)) (mvT hZ w3) (mvT hZ w4) hy (backOf (W := W) hM hZ wc wz hf hl) q1 q3 hg hml (Steps.refl _) hlen hs hW hd (fun _ _ => ⟨rfl, eT, hc, hsl⟩)
  dsimp only [Pt.U, Pt.locs, Pt.cells, Pt.slots] at X' l1 y1 z1 st hQ
  subst l1 y1 z1
  exact ⟨v, T', L, X', hQ, fun t k => st.trans k⟩
theorem own_vu {owner : String} (X : Stand p l e R s m args below meth c T locs cells slots) (hx : p.tables.exec = Jvm.exec) (hZ : Z.Warmed39 s.vm) (hown : s.vm.findClass own = some m.cls)
    (w1 : (Cond.methodLink own index z).before a0 Z = true) (w2 : (Cond.sameMethod z.cls owner z.name z.desc).before a0 Z = true) (w2' : (Cond.declares ⟨owner, z.name, z.desc⟩).before a0 Z = true) (w3 : (Cond.selects C z y).before a0 Z = true) (w4 : (Cond.instanceMethod y).before a0 Z = true) (wc : (Cond.code y bytes maxL ret).before a0 Z = true) (wz : (Cond.initialized y.cls).before a0 Z = true)
    (eT : T.heap = h) (E : Exa Z h a C)
    (hM : MetFree l y (head1 [Cond.code y bytes maxL ret] rm) (fun a' U => a' = (Value.ref a :: argsL).toArray ∧ Z.Warmed39 U.vm ∧ U.heap = h) (fun _ _ _ _ _ => True) (fun _ U o U' => ∃ v L, o = .returned v ∧ Q v U'.heap L ∧ FrameEnd U o U' L rm.cells rm.slots))
    (hg : g.method = m) (hml : g.locals.size = c.maxLocals) (hs : g.stack = argsL.reverse ++ .ref a :: rest) (hd : decode c.code g.pc = .ok (.invokevirtual index, 3)) (hlen : ∀ sig, parseMethodDescriptor z.desc = some sig → argsL.length = sig.parameters.length)
    {W : Nat} {c1 s1 : Nat} (h1 : cells + rm.cells = c1 := by rfl) (h2 : slots + rm.slots = s1 := by rfl) (hW : 2 * g.monitorRoom + (rest.map fun v => v.category).sum ≤ W := by show 2 * 0 + _ ≤ _; exact Nat.le_of_eq rfl) (hf : rm.frames + 1 ≤ R.frames := by decide) (hl : W + (maxL + 11) + rm.locals ≤ R.locals := by decide) (hc : c1 ≤ R.cells := by decide) (hsl : s1 ≤ R.slots := by decide) (hy : owner ≠ "java/lang/invoke/MethodHandle" ∧ owner ≠ "java/lang/invoke/VarHandle" := by decide) :
    ∃ v T' L, Stand p l e R s m args below meth c T' (locs ++ L) c1 s1 ∧ Q v T'.heap L ∧ ∀ target, Steps p.tables e below (T'.setTop { g with pc := g.pc + 3, stack := v.toList ++ rest }) target → Steps p.tables e below (T.setTop g) target := by
  subst h1 h2
  obtain ⟨cB, kB, q1, q2, q3⟩ := isOf hZ eT E
  obtain ⟨v, _, ⟨T', L', k', n'⟩, -, X', ⟨L, hQ, l1, y1, z1⟩, st⟩ := X.virtualBackUp hx (x := z) (y := y) (owner := owner) hown (mvT hZ w1) (mvT hZ w2) (mvT hZ w2') hy (mvT hZ w3) (mvT hZ w4) (backOf (W := W) hM hZ wc wz hf hl) q1 q3 hg hml (Steps.refl _) hlen hs hW hd (fun _ _ => ⟨rfl, eT, hc, hsl⟩)
  dsimp only [Pt.U, Pt.locs, Pt.cells, Pt.slots] at X' l1 y1 z1 st hQ
  subst l1 y1 z1
  exact ⟨v, T', L, X', hQ, fun t k => st.trans k⟩
theorem own_sb (X : Stand p l e R s m args below meth c T locs cells slots) (hx : p.tables.exec = Jvm.exec) (hZ : Z.Warmed39 s.vm) (hown : s.vm.findClass own = some m.cls)
    (w1 : (Cond.methodLink own index y).before a0 Z = true) (w4 : (Cond.instanceMethod y).before a0 Z = true) (wc : (Cond.code y bytes maxL none).before a0 Z = true) (wz : (Cond.initialized y.cls).before a0 Z = true)
    (eT : T.heap = h)
    (hM : MetFree l y (head1 [Cond.code y bytes maxL none] rm) (fun a' U => a' = (Value.ref a :: argsL).toArray ∧ Z.Warmed39 U.vm ∧ U.heap = h) (fun _ _ _ _ _ => True) (fun _ U o U' => ∃ v L, o = .returned v ∧ Q v U'.heap L ∧ FrameEnd U o U' L rm.cells rm.slots))
    (hg : g.method = m) (hml : g.locals.size = c.maxLocals) (hs : g.stack = argsL.reverse ++ .ref a :: rest) (hd : decode c.code g.pc = .ok (.invokespecial index, 3)) (hlen : ∀ sig, parseMethodDescriptor y.desc = some sig → argsL.length = sig.parameters.length)
    {W : Nat} {c1 s1 : Nat} (hn : y.name = "<init>" := by rfl) (h1 : cells + rm.cells = c1 := by rfl) (h2 : slots + rm.slots = s1 := by rfl) (hW : 2 * g.monitorRoom + (rest.map fun v => v.category).sum ≤ W := by show 2 * 0 + _ ≤ _; exact Nat.le_of_eq rfl) (hf : rm.frames + 1 ≤ R.frames := by decide) (hl : W + (maxL + 11) + rm.locals ≤ R.locals := by decide) (hc : c1 ≤ R.cells := by decide) (hsl : s1 ≤ R.slots := by decide) (hy : y.cls ≠ "java/lang/invoke/MethodHandle" ∧ y.cls ≠ "java/lang/invoke/VarHandle" := by decide) :
    ∃ v T' L, Stand p l e R s m args below meth c T' (locs ++ L) c1 s1 ∧ Q v T'.heap L ∧ ∀ target, Steps p.tables e below (T'.setTop { g with pc := g.pc + 3, stack := v.toList ++ rest }) target → Steps p.tables e below (T.setTop g) target := by
  subst h1 h2
  obtain ⟨v, _, ⟨T', L', k', n'⟩, -, X', ⟨L, hQ, l1, y1, z1⟩, st⟩ := X.specialBack hx (y := y) hn hown (mvT hZ w1) (mvT hZ w4) (mvT hZ wc) hy (backOf (W := W) hM hZ wc wz hf hl) hg hml (Steps.refl _) hlen hs hW hd (fun _ _ => ⟨rfl, eT, hc, hsl⟩)
  dsimp only [Pt.U, Pt.locs, Pt.cells, Pt.slots] at X' l1 y1 z1 st hQ
  subst l1 y1 z1
  exact ⟨v, T', L, X', hQ, fun t k => st.trans k⟩
theorem own_cs (X : Stand p l e R s m args below meth c T locs cells slots) (hx : p.tables.exec = Jvm.exec) (hZ : Z.Warmed39 s.vm) (hown : s.vm.findClass own = some m.cls)
    (w1 : (Cond.methodLink own index y).before a0 Z = true) (w4 : (Cond.static y).before a0 Z = true) (wc : (Cond.code y bytes maxL ret).before a0 Z = true) (wz : (Cond.initialized y.cls).before a0 Z = true)
    (eT : T.heap = h)
    (hM : MetFree l y (head1 [Cond.code y bytes maxL ret] rm) (fun a' U => a' = argsL.toArray ∧ Z.Warmed39 U.vm ∧ U.heap = h) (fun _ _ _ _ _ => True) (fun _ U o U' => ∃ v L, o = .returned v ∧ Q v U'.heap L ∧ FrameEnd U o U' L rm.cells rm.slots))
    (hg : g.method = m) (hml : g.locals.size = c.maxLocals) (hs : g.stack = argsL.reverse ++ rest) (hd : decode c.code g.pc = .ok (.invokestatic index, 3)) (hlen : ∀ sig, parseMethodDescriptor y.desc = some sig → argsL.length = sig.parameters.length)
    {W : Nat} {c1 s1 : Nat} (h1 : cells + rm.cells = c1 := by rfl) (h2 : slots + rm.slots = s1 := by rfl) (hW : 2 * g.monitorRoom + (rest.map fun v => v.category).sum ≤ W := by show 2 * 0 + _ ≤ _; exact Nat.le_of_eq rfl) (hf : rm.frames + 1 ≤ R.frames := by decide) (hl : W + (maxL + 11) + rm.locals ≤ R.locals := by decide) (hc : c1 ≤ R.cells := by decide) (hsl : s1 ≤ R.slots := by decide) (hy : y.cls ≠ "java/lang/invoke/MethodHandle" ∧ y.cls ≠ "java/lang/invoke/VarHandle" := by decide) :
    ∃ v T' L, Stand p l e R s m args below meth c T' (locs ++ L) c1 s1 ∧ Q v T'.heap L ∧ ∀ target, Steps p.tables e below (T'.setTop { g with pc := g.pc + 3, stack := v.toList ++ rest }) target → Steps p.tables e below (T.setTop g) target := by
  subst h1 h2
  obtain ⟨v, _, ⟨T', L', k', n'⟩, -, X', ⟨L, hQ, l1, y1, z1⟩, st⟩ := Jvm.LawKit.callS X hx (y := y) hown (mvT hZ w1) (mvT hZ w4) (mvT hZ wz) (mvT hZ wc) hy (backOf (W := W) hM hZ wc wz hf hl) hg hml hlen hs hW hd (fun _ _ => ⟨rfl, eT, hc, hsl⟩)
  dsimp only [Pt.U, Pt.locs, Pt.cells, Pt.slots] at X' l1 y1 z1 st hQ
  subst l1 y1 z1
  exact ⟨v, T', L, X', hQ, st⟩
theorem own_pb (X : Stand p l e R s m args below meth c T locs cells slots) (hx : p.tables.exec = Jvm.exec) (hZ : Z.Warmed39 s.vm) (hown : s.vm.findClass own = some m.cls)
    (w1 : (Cond.methodLink own index y).before a0 Z = true) (w4 : (Cond.instanceMethod y).before a0 Z = true) (w3 : (Cond.selects y.cls y y).before args s = true) (wp : (Cond.privateMethod y).before a0 Z = true) (wc : (Cond.code y bytes maxL ret).before a0 Z = true) (wz : (Cond.initialized y.cls).before a0 Z = true)
    (eT : T.heap = h) (E : Exa Z h a C)
    (hM : MetFree l y (head1 [Cond.code y bytes maxL ret] rm) (fun a' U => a' = (Value.ref a :: argsL).toArray ∧ Z.Warmed39 U.vm ∧ U.heap = h) (fun _ _ _ _ _ => True) (fun _ U o U' => ∃ v L, o = .returned v ∧ Q v U'.heap L ∧ FrameEnd U o U' L rm.cells rm.slots))
    (hg : g.method = m) (hml : g.locals.size = c.maxLocals) (hs : g.stack = argsL.reverse ++ .ref a :: rest) (hd : decode c.code g.pc = .ok (.invokevirtual index, 3)) (hlen : ∀ sig, parseMethodDescriptor y.desc = some sig → argsL.length = sig.parameters.length)
    {W : Nat} {c1 s1 : Nat} (h1 : cells + rm.cells = c1 := by rfl) (h2 : slots + rm.slots = s1 := by rfl) (hW : 2 * g.monitorRoom + (rest.map fun v => v.category).sum ≤ W := by show 2 * 0 + _ ≤ _; exact Nat.le_of_eq rfl) (hf : rm.frames + 1 ≤ R.frames := by decide) (hl : W + (maxL + 11) + rm.locals ≤ R.locals := by decide) (hc : c1 ≤ R.cells := by decide) (hsl : s1 ≤ R.slots := by decide) (hy : y.cls ≠ "java/lang/invoke/MethodHandle" ∧ y.cls ≠ "java/lang/invoke/VarHandle" := by decide) :
    ∃ v T' L, Stand p l e R s m args below meth c T' (locs ++ L) c1 s1 ∧ Q v T'.heap L ∧ ∀ target, Steps p.tables e below (T'.setTop { g with pc := g.pc + 3, stack := v.toList ++ rest }) target → Steps p.tables e below (T.setTop g) target := by
  subst h1 h2
  obtain ⟨cq, q1, q2⟩ := E.cell
  obtain ⟨v, _, ⟨T', L', k', n'⟩, -, X', ⟨L, hQ, l1, y1, z1⟩, st⟩ := X.privateBack hx (y := y) hown (mvT hZ w1) (mvT hZ w4) w3 (Cond.privateMethod_at (mvP hZ wp (args := #[]))) (mvT hZ wc) hy (backOf (W := W) hM hZ wc wz hf hl) hg hml (Steps.refl _) (a := a) (by rw [eT]; exact q1) q2 hlen hs hW hd (fun _ _ => ⟨rfl, eT, hc, hsl⟩)
  dsimp only [Pt.U, Pt.locs, Pt.cells, Pt.slots] at X' l1 y1 z1 st hQ
  subst l1 y1 z1
  exact ⟨v, T', L, X', hQ, fun t k => st.trans k⟩
theorem own_sr (X : Stand p l e R s m args below meth c T locs cells slots) (hx : p.tables.exec = Jvm.exec) (hZ : Z.Warmed39 s.vm) (hown : s.vm.findClass own = some m.cls)
    (w1 : (Cond.methodRef own index y).before a0 Z = true) (w4 : (Cond.instanceMethod y).before a0 Z = true) (wc : (Cond.code y bytes maxL none).before a0 Z = true) (wz : (Cond.initialized y.cls).before a0 Z = true)
    (eT : T.heap = h)
    (hM : MetFree l y (head1 [Cond.code y bytes maxL none] rm) (fun a' U => a' = (Value.ref a :: argsL).toArray ∧ Z.Warmed39 U.vm ∧ U.heap = h) (fun _ _ _ _ _ => True) (fun _ U o U' => ∃ v L, o = .returned v ∧ Q v U'.heap L ∧ FrameEnd U o U' L rm.cells rm.slots))
    (hg : g.method = m) (hml : g.locals.size = c.maxLocals) (hs : g.stack = argsL.reverse ++ .ref a :: rest) (hd : decode c.code g.pc = .ok (.invokespecial index, 3)) (hlen : ∀ sig, parseMethodDescriptor y.desc = some sig → argsL.length = sig.parameters.length)
    {W : Nat} {c1 s1 : Nat} (hn : y.name = "<init>" := by rfl) (h1 : cells + rm.cells = c1 := by rfl) (h2 : slots + rm.slots = s1 := by rfl) (hW : 2 * g.monitorRoom + (rest.map fun v => v.category).sum ≤ W := by show 2 * 0 + _ ≤ _; exact Nat.le_of_eq rfl) (hf : rm.frames + 1 ≤ R.frames := by decide) (hl : W + (maxL + 11) + rm.locals ≤ R.locals := by decide) (hc : c1 ≤ R.cells := by decide) (hsl : s1 ≤ R.slots := by decide) (hy : y.cls ≠ "java/lang/invoke/MethodHandle" ∧ y.cls ≠ "java/lang/invoke/VarHandle" := by decide) :
    ∃ v T' L, Stand p l e R s m args below meth c T' (locs ++ L) c1 s1 ∧ Q v T'.heap L ∧ ∀ target, Steps p.tables e below (T'.setTop { g with pc := g.pc + 3, stack := v.toList ++ rest }) target → Steps p.tables e below (T.setTop g) target := by
  subst h1 h2
  have hZT : Z.Warmed39 T.vm := wtrans hZ X.warmed
  obtain ⟨oz, mz, nz, -⟩ := Cond.instanceMethod_spec w4
  have r1 : (Cond.methodRef own index y).before a0 (Z.setVm T.vm) = true := Cond.methodRef_warmed39 hZT nz hy w1
  have fT : (Z.setVm T.vm).vm.findClass own = some m.cls := by show T.vm.findClass own = _; rw [X.warmed.alike.findClass]; exact hown
  obtain ⟨m1, c', hm1, hready, hfind, hnames⟩ := Cond.methodRef_named e fT r1
  obtain ⟨obj, methO, hnO, hmO, hstO, habO⟩ := Cond.instanceMethod_spec (mvT (args := args) hZ w4)
  obtain ⟨methO', cO, hmO', hcO, hbO, hlO, -, hlockO, -, hsigO⟩ := Cond.code_spec hnO (mvT (args := args) hZ wc)
  cases hmO.symm.trans hmO'
  have nT : (Z.setVm T.vm).methodNamed? y = some obj := X.named hnO
  obtain rfl : m1 = obj := (Option.some.inj ((State.methodFound?_of_named nT hy).symm.trans hm1)).symm
  have cT : (Z.setVm T.vm).vm.findClass y.cls = some m1.cls := findClass_of_methodNamed nT
  obtain rfl : c' = m1.cls := (Option.some.inj (cT.symm.trans hfind)).symm
  obtain ⟨kO, hkO, hnameO⟩ := className_of_methodNamed nT
  obtain ⟨hnameMO, hdescO⟩ := name_of_methodNamed hnO hmO
  have hmT : T.vm.method? m1 = some methO := by rw [X.warmed.alike.method?]; exact hmO
  have hfound : lookupSpecial T.vm m1.cls "<init>" methO.desc = .method m1 := by
    rw [X.warmed.alike.lookupSpecial, hdescO, ← hn]; exact lookupSpecial_of_named hnO hmO hstO
  have hstep : ∀ target, (∀ acts, Steps p.tables e below (doInvoke e (T.setTop { g with stack := rest }) acts m1 (.ref a :: argsL).toArray).1 target) → Steps p.tables e below (T.setTop g) target := by
    intro target hrest
    subst hg
    jvm_step X.here [hx, hd, invokespecial.wp_init (e := e) (s := T) (k := kO) (meth := methO) (m := m1) (a := a) (args := argsL) (rest := rest) (f := g) X.here.top hnames hready hkO hmT (by rw [hnameMO]; exact hn) hstO habO hfound (hlen _ hsigO) hs]
    exact hrest
  obtain ⟨v, ⟨T', L', k', n'⟩, X', ⟨L, hQ, l1, y1, z1⟩, st⟩ := backOf (len := 3) (W := W) (p := p) (e := e) (below := below) (args := args) (R := R) hM hZ wc wz hf hl m meth c ⟨T, locs, cells, slots⟩ { g with stack := rest } (.invokespecial index) m1 (.ref a :: argsL).toArray X hg hml hd hW (X.named hnO) ⟨rfl, eT, hc, hsl⟩
  dsimp only [Pt.U, Pt.locs, Pt.cells, Pt.slots] at X' l1 y1 z1 st hQ
  subst l1 y1 z1
  exact ⟨v, T', L, X', hQ, fun t k => (hstep _ fun acts => by rw [doInvoke_state]; exact Steps.refl _).trans (st.trans k)⟩
theorem own_ib {count : Nat} (X : Stand p l e R s m args below meth c T locs cells slots) (hx : p.tables.exec = Jvm.exec) (hZ : Z.Warmed39 s.vm) (hown : s.vm.findClass own = some m.cls)
    (w1 : (Cond.methodLink own index z).before a0 Z = true) (w2 : (Cond.declares z).before a0 Z = true) (w5 : (Cond.interfaceMethod z.cls z.cls z.name z.desc).before args s = true) (w3 : (Cond.selects C z y).before a0 Z = true) (w4 : (Cond.instanceMethod y).before a0 Z = true) (w6 : (Cond.publicMethod y).before a0 Z = true) (w7 : (Cond.unhidden C z.name z.desc).before args s = true) (w8 : (Cond.castable C z.cls).before a0 Z = true) (wc : (Cond.code y bytes maxL ret).before a0 Z = true) (wz : (Cond.initialized y.cls).before a0 Z = true)
    (eT : T.heap = h) (E : Exa Z h a C)
    (hM : MetFree l y (head1 [Cond.code y bytes maxL ret] rm) (fun a' U => a' = (Value.ref a :: argsL).toArray ∧ Z.Warmed39 U.vm ∧ U.heap = h) (fun _ _ _ _ _ => True) (fun _ U o U' => ∃ v L, o = .returned v ∧ Q v U'.heap L ∧ FrameEnd U o U' L rm.cells rm.slots))
    (hg : g.method = m) (hml : g.locals.size = c.maxLocals) (hs : g.stack = argsL.reverse ++ .ref a :: rest) (hd : decode c.code g.pc = .ok (.invokeinterface index count, 5)) (hlen : ∀ sig, parseMethodDescriptor z.desc = some sig → argsL.length = sig.parameters.length)
    {W : Nat} {c1 s1 : Nat} (h1 : cells + rm.cells = c1 := by rfl) (h2 : slots + rm.slots = s1 := by rfl) (hW : 2 * g.monitorRoom + (rest.map fun v => v.category).sum ≤ W := by show 2 * 0 + _ ≤ _; exact Nat.le_of_eq rfl) (hf : rm.frames + 1 ≤ R.frames := by decide) (hl : W + (maxL + 11) + rm.locals ≤ R.locals := by decide) (hc : c1 ≤ R.cells := by decide) (hsl : s1 ≤ R.slots := by decide) (hy : z.cls ≠ "java/lang/invoke/MethodHandle" ∧ z.cls ≠ "java/lang/invoke/VarHandle" := by decide) :
    ∃ v T' L, Stand p l e R s m args below meth c T' (locs ++ L) c1 s1 ∧ Q v T'.heap L ∧ ∀ target, Steps p.tables e below (T'.setTop { g with pc := g.pc + 5, stack := v.toList ++ rest }) target → Steps p.tables e below (T.setTop g) target := by
  subst h1 h2
  obtain ⟨cB, kB, q1, q2, q3⟩ := isOf hZ eT E
  obtain ⟨v, _, ⟨T', L', k', n'⟩, -, X', ⟨L, hQ, l1, y1, z1⟩, st⟩ := X.interfaceBack hx (xi := z) (y := y) hown (mvT hZ w1) (mvT hZ w2) w5 (mvT hZ w3) (mvT hZ w4) (mvT hZ w6) w7 (mvT hZ w8) hy (backOf (W := W) hM hZ wc wz hf hl) q1 q2 q3 hg hml (Steps.refl _) hlen hs hW hd (fun _ _ => ⟨rfl, eT, hc, hsl⟩)
  dsimp only [Pt.U, Pt.locs, Pt.cells, Pt.slots] at X' l1 y1 z1 st hQ
  subst l1 y1 z1
  exact ⟨v, T', L, X', hQ, fun t k => st.trans k⟩
end Calls
theorem own_oz {Z : State} {n0 : Nat} {h : Heap} (O : Old Z n0 h) : n0 ≤ h.size := by
  rw [← O.1]; exact O.2.1
theorem own_lsw {tb : Tables} [Ours tb] {e : Env} {below : List Frame} {T target : State} {m : MethodId} {c : Code} {g : JFrame} (h : At T m c below) (hx : tb.exec = Jvm.exec) (hg : g.method = m) {dflt : Int} {prs : Array (Int × Int)} {len : Nat} {o : Int} {pc0 pc' : Nat} (hpc : g.pc = pc0) (hd : decode c.code g.pc = .ok (.lookupswitch dflt prs, len)) {i : Int32} {rest : List Value} (hs : g.stack = .int i :: rest)
    (hsort : (prs.toList.zip (prs.toList.drop 1)).all (fun (a, next) => a.1 < next.1) = true) (hoff : lookupswitch.offset prs.toList dflt i.toInt = o) (ho : 0 ≤ (pc0 : Int) + o) (hp : ((pc0 : Int) + o).toNat = pc')
    (hr : Steps tb e below (T.setTop { g with pc := pc', stack := rest }) target) : Steps tb e below (T.setTop g) target := by
  subst hg hpc hp
  jvm_step h [h.top, hx, hd, hs, hoff, ho, lookupswitch.wp_chain]
  exact ⟨by simpa using hsort, hr⟩
section Nums
variable {x k : Int32} {n : Int}
theorem own_lt1 (hk : k.toInt = n) (h : x < k) : x.toInt < n := by rw [← hk]; exact Int32.lt_iff_toInt_lt.mp h
theorem own_lt2 (hk : k.toInt = n) (h : k < x) : n < x.toInt := by rw [← hk]; exact Int32.lt_iff_toInt_lt.mp h
theorem own_nlt1 (hk : k.toInt = n) (h : ¬ x < k) : n ≤ x.toInt := by rw [Int32.lt_iff_toInt_lt, hk] at h; omega
theorem own_nlt2 (hk : k.toInt = n) (h : ¬ k < x) : x.toInt ≤ n := by rw [Int32.lt_iff_toInt_lt, hk] at h; omega
theorem own_eq (hk : k.toInt = n) (h : x = k) : x.toInt = n := by rw [← hk, h]
theorem own_neq (hk : k.toInt = n) (h : ¬ x = k) : x.toInt ≠ n := fun q => h (Int32.toInt_inj.mp (by rw [hk, q]))
theorem own_glt1 (hk : k.toInt = n) (h : x.toInt < n) : x < k := Int32.lt_iff_toInt_lt.mpr (by rw [hk]; exact h)
theorem own_glt2 (hk : k.toInt = n) (h : n < x.toInt) : k < x := Int32.lt_iff_toInt_lt.mpr (by rw [hk]; exact h)
theorem own_gnlt1 (hk : k.toInt = n) (h : n ≤ x.toInt) : ¬ x < k := fun q => by have := own_lt1 hk q; omega
theorem own_gnlt2 (hk : k.toInt = n) (h : x.toInt ≤ n) : ¬ k < x := fun q => by have := own_lt2 hk q; omega
theorem own_geq (hk : k.toInt = n) (h : x.toInt = n) : x = k := Int32.toInt_inj.mp (by rw [hk, h])
theorem own_gneq (hk : k.toInt = n) (h : x.toInt ≠ n) : ¬ x = k := fun q => h (own_eq hk q)
theorem own_and (hk : k.toInt = n) (h0 : 0 ≤ n) : 0 ≤ (x &&& k).toInt ∧ (x &&& k).toInt ≤ n := by have := c_and x k (by rw [hk]; exact h0); rw [hk] at this; exact this
theorem own_and2 (hk : k.toInt = n) (h0 : 0 ≤ n) : 0 ≤ (k &&& x).toInt ∧ (k &&& x).toInt ≤ n := by have := c_and' k x (by rw [hk]; exact h0); rw [hk] at this; exact this
theorem own_rem (hk : k.toInt = n) (h0 : 0 < n) (hx : 0 ≤ x.toInt) : 0 ≤ (x % k).toInt ∧ (x % k).toInt < n ∧ (x % k).toInt ≤ x.toInt := by
  have := (c_iremV x k).1 hx (by rw [hk]; exact h0); rw [hk] at this; exact ⟨this.1, this.2.1, this.2.2.1⟩
theorem own_add {lo hi : Int} (hk : k.toInt = n) (hx : lo ≤ x.toInt ∧ x.toInt ≤ hi) (h1 : -2147483648 ≤ lo + n) (h2 : hi + n < 2147483648) : lo + n ≤ (x + k).toInt ∧ (x + k).toInt ≤ hi + n := by
  have := c_iadd x k; have := rng32 (x + k); rw [hk] at *; omega
theorem own_add2 {lo hi : Int} (hk : k.toInt = n) (hx : lo ≤ x.toInt ∧ x.toInt ≤ hi) (h1 : -2147483648 ≤ lo + n) (h2 : hi + n < 2147483648) : lo + n ≤ (k + x).toInt ∧ (k + x).toInt ≤ hi + n := by
  have := c_iadd k x; have := rng32 (k + x); rw [hk] at *; omega
end Nums
theorem own_len {Z : State} {args : Array Value} {t : Term} {a : Addr} {c : Cell} {ty : FieldType} {n : Int32} (A : Arr Z Z.heap a c ty) (ev : t.eval args Z none [] Z = some (.ref a)) (h : (Term.length t).eval args Z none [] Z = some (.int n)) : c.slots.size < 2 ^ 31 ∧ c.slots.size.toInt32 = n := by
  have q := A.fin (Vm.Alike.refl _)
  by_cases z : c.slots.size < 2 ^ 31
  · rw [len_f ev q z] at h; exact ⟨z, Value.int.inj (Option.some.inj h)⟩
  · simp [Term.eval, ev, q, z] at h
theorem own_selp {s : State} {args : Array Value} {y z : MethodName} {C : String} (w : (Cond.selects C z z).before args s = true) (hc : z.cls = y.cls) (hp : s.PrivateAt y) (hi : (Cond.instanceMethod y).before args s = true) (hy : y.cls ≠ "java/lang/invoke/MethodHandle" ∧ y.cls ≠ "java/lang/invoke/VarHandle") : (Cond.selects y.cls y y).before args s = true := by
  obtain ⟨c2, r2, m2, -, -, q3, -, kP, hkP, hkPi⟩ := Cond.selects_spec w
  exact selects_self_of_private (by rw [← hc]; exact findClass_of_methodNamed q3) hkP hkPi hp hi hy
theorem own_max64 (x : Int64) : ¬ (9223372036854775807 : Int64) < x := fun h => by have := rng64 x; rw [Int64.lt_iff_toInt_lt, show (9223372036854775807 : Int64).toInt = 9223372036854775807 by decide] at h; omega
theorem own_min64 (x : Int64) : ¬ x < (-9223372036854775808 : Int64) := fun h => by have := rng64 x; rw [Int64.lt_iff_toInt_lt, show (-9223372036854775808 : Int64).toInt = -9223372036854775808 by decide] at h; omega
theorem own_root {Z : State} {a0 : Array Value} {O K : String} {n : Nat} (w : (Cond.noSuperclass O).before a0 Z = true) (wk : (Cond.instantiable K n).before a0 Z = true) (hn : O ≠ K) : NS Z O K := by
  obtain ⟨c, k, h1, h2, h3, -, -⟩ := Cond.noSuperclass_spec w
  obtain ⟨t, kt, g1, -⟩ := Cond.instantiable_spec wk
  have ne := ids_ne h1 g1 hn
  refine ⟨c, t, h1, g1, fun fuel => ?_⟩
  cases fuel with
  | zero => rfl
  | succ f => simp [Vm.isSubclassAux, ne, h2, h3]
theorem own_no {Z : State} {a0 : Array Value} {C S K : String} {n : Nat} (w : (Cond.superclass C S).before a0 Z = true) (wk : (Cond.instantiable K n).before a0 Z = true) (q : NS Z C K) (hn : C ≠ K) : ∃ c t, Z.vm.findClass C = some c ∧ Z.vm.findClass K = some t ∧ Z.vm.assignable c t = false := by
  obtain ⟨c, t, h0, g0, n3⟩ := q
  obtain ⟨p, k, kp, h1, h2, h3, h4, h5, -, h7⟩ := Cond.superclass_spec h0 w
  obtain ⟨t', k', g1, g2, g3, g4, -⟩ := Cond.instantiable_spec wk
  cases g0.symm.trans g1
  have ne := ids_ne h0 g0 hn
  have g5 : k'.isInterface = false := by simp only [Bool.or_eq_false_iff] at g4; exact g4.1
  refine ⟨c, t, h0, g0, ?_⟩
  show Z.vm.assignableAux (255 + 1) c t = false
  simp [Vm.assignableAux, ne, h2, g2, h5, g3, g5, Vm.isSubclass, n3]
theorem own_sub {x k : Int32} {n lo hi : Int} (hk : k.toInt = n) (hx : lo ≤ x.toInt ∧ x.toInt ≤ hi) (h1 : -2147483648 ≤ lo - n) (h2 : hi - n < 2147483648) : lo - n ≤ (x - k).toInt ∧ (x - k).toInt ≤ hi - n := by
  have := c_isub x k; have := rng32 (x - k); rw [hk] at *; omega
theorem own_dbl {x : Int32} {lo hi : Int} (hx : lo ≤ x.toInt ∧ x.toInt ≤ hi) (h1 : -1073741824 ≤ lo) (h2 : hi < 1073741824) : 2 * lo ≤ ((2 : Int32) * x).toInt ∧ ((2 : Int32) * x).toInt ≤ 2 * hi := by
  have := c_imul 2 x; have := rng32 (2 * x); rw [show (2 : Int32).toInt = 2 by decide] at *; omega
theorem own_nz {x : Int32} (h : 0 ≤ x.toInt ∧ x.toInt ≤ 1) : nar .boolean x = x := by
  have q : x = 0 ∨ x = 1 := by
    rcases (by omega : x.toInt = 0 ∨ x.toInt = 1) with q | q
    · exact Or.inl (own_geq (by decide) q)
    · exact Or.inr (own_geq (by decide) q)
  rcases q with rfl | rfl <;> decide
theorem own_fz {x : Int32} (h : 0 ≤ x.toInt ∧ x.toInt ≤ 1) : fits .boolean (.int x) = true := by
  have q : x = 0 ∨ x = 1 := by
    rcases (by omega : x.toInt = 0 ∨ x.toInt = 1) with q | q
    · exact Or.inl (own_geq (by decide) q)
    · exact Or.inr (own_geq (by decide) q)
  rcases q with rfl | rfl <;> decide
theorem own_nb8 (x : Int32) : nar .byte (x.toInt8.toInt32) = x.toInt8.toInt32 := by
  show (x.toInt8.toInt32).toInt8.toInt32 = x.toInt8.toInt32
  simp
theorem own_ldcF {p : Program} {l : Launch} {e : Env} {R : Room} {s : State} {m : MethodId} {args : Array Value} {below : List Frame} {meth : Method} {c : Code} {T : State} {locs : List Loc} {cells slots : Nat} {Z : State} {a0 : Array Value} {own : String} {index : Nat} {b : UInt32} {g : JFrame}
    (X : Stand p l e R s m args below meth c T locs cells slots) (hx : p.tables.exec = Jvm.exec) (hZ : Z.Warmed39 s.vm) (hown : s.vm.findClass own = some m.cls) (w : (Cond.constantFloat own index b).before a0 Z = true) (hg : g.method = m) (hd : decode c.code g.pc = .ok (.ldc index, 2)) :
    ∀ target, Steps p.tables e below (T.setTop { g with pc := g.pc + 2, stack := .float b :: g.stack }) target → Steps p.tables e below (T.setTop g) target := by
  obtain ⟨k, cf, h1, h2, h3⟩ := Cond.constantFloat_spec hown (mvT (args := args) hZ w)
  exact X.ldcFloat hx h1 h2 h3 hg hd
theorem own_eqR {Z : State} {args : Array Value} {a b : Term} {idx : List Nat} {w : Addr} (hb : b.eval args Z none idx Z = some (.ref w)) (h : (Cond.eq a b).value args Z none Z idx = some true) : a.eval args Z none idx Z = some (.ref w) := by
  simp only [Cond.value, hb] at h
  cases ht : a.eval args Z none idx Z with
  | none => simp [ht] at h
  | some x => cases x <;> simp [ht] at h ⊢; exact h
abbrev yn0 : MethodName := ⟨"com/example/horn1/horn1/engine/ClauseList", "size", "()I"⟩
abbrev yn1 : MethodName := ⟨"com/example/horn1/horn1/engine/Clause", "isLive", "()Z"⟩
abbrev yn2 : MethodName := ⟨"com/example/horn1/horn1/engine/Clause", "remove", "(J)V"⟩
abbrev yn3 : MethodName := ⟨"java/lang/Math", "max", "(II)I"⟩
abbrev yn4 : MethodName := ⟨"com/example/horn1/horn1/engine/ClauseList", "move", "()V"⟩
abbrev yn5 : MethodName := ⟨"com/example/horn1/horn1/engine/ClauseList", "addLast", "(Lcom/example/horn1/horn1/engine/Clause;)V"⟩
abbrev yn6 : MethodName := ⟨"com/example/horn1/horn1/engine/ClauseList", "addFirst", "(Lcom/example/horn1/horn1/engine/Clause;)V"⟩
abbrev yn7 : MethodName := ⟨"com/example/horn1/horn1/engine/ClauseList", "remove", "(Lcom/example/horn1/horn1/engine/Clause;J)V"⟩
abbrev yn8 : MethodName := ⟨"com/example/horn1/horn1/engine/ClauseList", "removeAll", "(J)V"⟩
abbrev yn9 : MethodName := ⟨"com/example/horn1/horn1/engine/ClauseListSizePinLaw", "step", "(Lcom/example/horn1/horn1/engine/ClauseList;[Lcom/example/horn1/horn1/engine/Template;[Lcom/example/horn1/horn1/engine/Clause;[Z[I[II)Z"⟩
abbrev yn10 : MethodName := ⟨"com/example/horn1/horn1/engine/Clause", "<init>", "([Lcom/example/horn1/horn1/engine/Template;[Lcom/example/horn1/horn1/engine/Template;[Lcom/example/horn1/horn1/engine/Predicate;Lcom/example/horn1/horn1/engine/Template;I)V"⟩
abbrev yn11 : MethodName := ⟨"com/example/horn1/horn1/engine/ClauseList", "<init>", "()V"⟩
def GW (Z : State) (w1 : Addr) (kw1 : ClassId) : Prop :=
  (Sta Z Z.heap "com/example/horn1/horn1/engine/ClauseList" "NONE" "[Lcom/example/horn1/horn1/engine/Clause;" (.ref w1))
  ∧ (Arv Z Z.heap w1 kw1 (.object "com/example/horn1/horn1/engine/Clause") (0 : Int32) [] .null)
section Y
variable {p : Program} {l : Launch} {e : Env} {R : Room} {s : State} {m : MethodId} {args : Array Value} {below : List Frame} {meth : Method} {c : Code} {T : State} {locs : List Loc} {cells slots : Nat} {Z : State} {a0 : Array Value} {h : Heap} {code : ByteArray} {pc : Nat} {L : Array Slot} {S : List Value} {t : State}
theorem yg (X : Stand p l e R s m args below meth c T locs cells slots) (hx : p.tables.exec = Jvm.exec) (hZ : Z.Warmed39 s.vm) {own R0 n d : String} {index : Nat} (hown : s.vm.findClass own = some m.cls) (hby : c.code = code) (w : (Cond.fieldLink own index R0 n d).before a0 Z = true) (eT : T.heap = h) {a : Addr} {v : Value} (F : Fld Z h a R0 n d v) (pc : Nat) (L : Array Slot) (rest : List Value) (hd : decode code pc = .ok (.getfield index, 3)) :
    ∃ T', Stand p l e R s m args below meth c T' locs cells slots ∧ T'.heap = h ∧ ∀ t, Steps p.tables e below (T'.setTop (mkF m (pc + 3) L (v :: rest))) t → Steps p.tables e below (T.setTop (mkF m pc L (.ref a :: rest))) t :=
  getF X hx hZ hown (host := "") (Or.inl w) Via.refl eT F (g := mkF m pc L (.ref a :: rest)) rfl rfl (hb hby hd)
theorem yag (X : Stand p l e R s m args below meth c T locs cells slots) (hx : p.tables.exec = Jvm.exec) (hZ : Z.Warmed39 s.vm) {own R0 n d : String} {index : Nat} (hown : s.vm.findClass own = some m.cls) (hby : c.code = code) (w : (Cond.fieldLink own index R0 n d).before a0 Z = true) (eT : T.heap = h) {a : Addr} {v : Value} (F : Fld Z h a R0 n d v) (pc : Nat) (L : Array Slot) (rest : List Value) {k : Fin 4} (hd0 : decode code pc = .ok (.aload_n k, 1)) (hd : decode code (pc + 1) = .ok (.getfield index, 3)) (hl : L[k.val]? = some (.val (.ref a))) :
    ∃ T', Stand p l e R s m args below meth c T' locs cells slots ∧ T'.heap = h ∧ ∀ t, Steps p.tables e below (T'.setTop (mkF m (pc + 1 + 3) L (v :: rest))) t → Steps p.tables e below (T.setTop (mkF m pc L rest)) t := by
  obtain ⟨T', X', e', st⟩ := yg X hx hZ hown hby w eT F (pc + 1) L rest hd
  exact ⟨T', X', e', fun t k => XS.aloadN X.here hx rfl (hb hby hd0) hl rfl (st t k)⟩
theorem yp (X : Stand p l e R s m args below meth c T locs cells slots) (hx : p.tables.exec = Jvm.exec) (hZ : Z.Warmed39 s.vm) {own R0 n d C : String} {index kk : Nat} {ty : FieldType} (hown : s.vm.findClass own = some m.cls) (hby : c.code = code) (w : (Cond.fieldLink own index R0 n d).before a0 Z = true) (eT : T.heap = h) {a : Addr} {v old : Value} (F : Fld Z h a R0 n d old) (E : Exa Z h a C) (Ly : (Cond.lays C R0 n d).before a0 Z = true) (wi : (Cond.instantiable C kk).before a0 Z = true)
    (hty : parseFieldDescriptor d = some ty) (hn : narrow ty v = v) (hf : fits ty v = true) (pc : Nat) (L : Array Slot) (rest : List Value) (hd : decode code pc = .ok (.putfield index, 3)) :
    ∃ T' h', Stand p l e R s m args below meth c T' (locs ++ [⟨a, RoadKit.slotOf Z R0 n d⟩]) cells slots ∧ T'.heap = h' ∧ Wr h h' a (RoadKit.slotOf Z R0 n d) v ∧ ∀ t, Steps p.tables e below (T'.setTop (mkF m (pc + 3) L rest)) t → Steps p.tables e below (T.setTop (mkF m pc L (v :: .ref a :: rest))) t :=
  putF X hx hZ hown (host := "") (Or.inl w) Via.refl eT F E (Or.inl Ly) wi hty hn hf (g := mkF m pc L (v :: .ref a :: rest)) rfl rfl (hb hby hd)
theorem yan (X : Stand p l e R s m args below meth c T locs cells slots) (hx : p.tables.exec = Jvm.exec) (hby : c.code = code) {k : Fin 4} {v : Value} (hd : decode code pc = .ok (.aload_n k, 1)) (hl : L[k.val]? = some (.val v)) (hv : v.isRef = true) (hr : Steps p.tables e below (T.setTop (mkF m (pc + 1) L (v :: S))) t) : Steps p.tables e below (T.setTop (mkF m pc L S)) t := XS.aloadN X.here hx rfl (hb hby hd) hl hv hr
theorem yal (X : Stand p l e R s m args below meth c T locs cells slots) (hx : p.tables.exec = Jvm.exec) (hby : c.code = code) {k : Nat} {v : Value} (hd : decode code pc = .ok (.aload k, 2)) (hl : L[k]? = some (.val v)) (hv : v.isRef = true) (hr : Steps p.tables e below (T.setTop (mkF m (pc + 2) L (v :: S))) t) : Steps p.tables e below (T.setTop (mkF m pc L S)) t := XS.aload X.here hx rfl (hb hby hd) hl hv hr
theorem yin (X : Stand p l e R s m args below meth c T locs cells slots) (hx : p.tables.exec = Jvm.exec) (hby : c.code = code) {k : Fin 4} {v : Int32} (hd : decode code pc = .ok (.iload_n k, 1)) (hl : L[k.val]? = some (.val (.int v))) (hr : Steps p.tables e below (T.setTop (mkF m (pc + 1) L (.int v :: S))) t) : Steps p.tables e below (T.setTop (mkF m pc L S)) t := XS.iloadN X.here hx rfl (hb hby hd) hl hr
theorem yil (X : Stand p l e R s m args below meth c T locs cells slots) (hx : p.tables.exec = Jvm.exec) (hby : c.code = code) {k : Nat} {v : Int32} (hd : decode code pc = .ok (.iload k, 2)) (hl : L[k]? = some (.val (.int v))) (hr : Steps p.tables e below (T.setTop (mkF m (pc + 2) L (.int v :: S))) t) : Steps p.tables e below (T.setTop (mkF m pc L S)) t := XS.iload X.here hx rfl (hb hby hd) hl hr
theorem yad (X : Stand p l e R s m args below meth c T locs cells slots) (hx : p.tables.exec = Jvm.exec) (hby : c.code = code) {x y : Int32} (hd : decode code pc = .ok (.iadd, 1)) (hr : Steps p.tables e below (T.setTop (mkF m (pc + 1) L (.int (x + y) :: S))) t) : Steps p.tables e below (T.setTop (mkF m pc L (.int y :: .int x :: S))) t := XS.iadd X.here hx rfl (hb hby hd) rfl hr
theorem ysu (X : Stand p l e R s m args below meth c T locs cells slots) (hx : p.tables.exec = Jvm.exec) (hby : c.code = code) {x y : Int32} (hd : decode code pc = .ok (.isub, 1)) (hr : Steps p.tables e below (T.setTop (mkF m (pc + 1) L (.int (x - y) :: S))) t) : Steps p.tables e below (T.setTop (mkF m pc L (.int y :: .int x :: S))) t := XS.isub X.here hx rfl (hb hby hd) rfl hr
theorem yis (X : Stand p l e R s m args below meth c T locs cells slots) (hx : p.tables.exec = Jvm.exec) (hby : c.code = code) {k : Nat} {x : Int32} {l' : Array Slot} (hd : decode code pc = .ok (.istore k, 2)) (hl : storeLocals L k (.int x) = some l') (hr : Steps p.tables e below (T.setTop (mkF m (pc + 2) l' S)) t) : Steps p.tables e below (T.setTop (mkF m pc L (.int x :: S))) t := XS.istore X.here hx rfl (hb hby hd) rfl hl hr
theorem yit (X : Stand p l e R s m args below meth c T locs cells slots) (hx : p.tables.exec = Jvm.exec) (hby : c.code = code) {k : Fin 4} {x : Int32} {l' : Array Slot} (hd : decode code pc = .ok (.istore_n k, 1)) (hl : storeLocals L k.val (.int x) = some l') (hr : Steps p.tables e below (T.setTop (mkF m (pc + 1) l' S)) t) : Steps p.tables e below (T.setTop (mkF m pc L (.int x :: S))) t := XS.istoreN X.here hx rfl (hb hby hd) rfl hl hr
theorem ygo (X : Stand p l e R s m args below meth c T locs cells slots) (hx : p.tables.exec = Jvm.exec) (hby : c.code = code) {o : Int} (pc0 pc' : Nat) (hpc : pc = pc0) (hd : decode code pc = .ok (.goto o, 3)) (ho : 0 ≤ (pc0 : Int) + o ∧ ((pc0 : Int) + o).toNat = pc') (hr : Steps p.tables e below (T.setTop (mkF m pc' L S)) t) : Steps p.tables e below (T.setTop (mkF m pc L S)) t := XS.goto X.here hx rfl (pc0 := pc0) (pc' := pc') hpc (hb hby hd) ho.1 ho.2 hr
theorem yye (X : Stand p l e R s m args below meth c T locs cells slots) (hx : p.tables.exec = Jvm.exec) (hby : c.code = code) {cd : ClassFile.Cond} {x y : Int32} {o : Int} (pc0 pc' : Nat) (hpc : pc = pc0) (hd : decode code pc = .ok (.if_icmp cd o, 3)) (hc : if_icmp.holds cd x y = true) (ho : 0 ≤ (pc0 : Int) + o ∧ ((pc0 : Int) + o).toNat = pc') (hr : Steps p.tables e below (T.setTop (mkF m pc' L S)) t) : Steps p.tables e below (T.setTop (mkF m pc L (.int y :: .int x :: S))) t := XS.icmpYes X.here hx rfl (pc0 := pc0) (pc' := pc') hpc (hb hby hd) rfl hc ho.1 ho.2 hr
theorem yno (X : Stand p l e R s m args below meth c T locs cells slots) (hx : p.tables.exec = Jvm.exec) (hby : c.code = code) {cd : ClassFile.Cond} {o : Int} {x y : Int32} (hd : decode code pc = .ok (.if_icmp cd o, 3)) (hc : if_icmp.holds cd x y = false) (hr : Steps p.tables e below (T.setTop (mkF m (pc + 3) L S)) t) : Steps p.tables e below (T.setTop (mkF m pc L (.int y :: .int x :: S))) t := XS.icmpNo X.here hx rfl (hb hby hd) rfl hc hr
theorem yic (X : Stand p l e R s m args below meth c T locs cells slots) (hx : p.tables.exec = Jvm.exec) (hby : c.code = code) {i : Int} (hd : decode code pc = .ok (.iconst i, 1)) (hr : Steps p.tables e below (T.setTop (mkF m (pc + 1) L (.int (Int32.ofInt i) :: S))) t) : Steps p.tables e below (T.setTop (mkF m pc L S)) t := XS.iconst X.here hx rfl (hb hby hd) hr
theorem yfn (X : Stand p l e R s m args below meth c T locs cells slots) (hx : p.tables.exec = Jvm.exec) (hby : c.code = code) {cd : ClassFile.Cond} {o : Int} {x : Int32} (hd : decode code pc = .ok (.ifCond cd o, 3)) (hc : ifCond.holds cd x = false) (hr : Steps p.tables e below (T.setTop (mkF m (pc + 3) L S)) t) : Steps p.tables e below (T.setTop (mkF m pc L (.int x :: S))) t := XS.ifNo X.here hx rfl (hb hby hd) rfl hc hr
theorem yv {n : Nat} {own C : String} {index : Nat} {y : MethodName} {bytes : ByteArray} {maxL : Nat} {ret : Option FieldType} {rm : Room} {a : Addr} {Q : Option Value → Heap → List Loc → Prop}
    (X : Stand p l e R s m args below meth c T locs cells slots) (hx : p.tables.exec = Jvm.exec) (hZ : Z.Warmed39 s.vm) (hown : s.vm.findClass own = some m.cls) (hby : c.code = code) (hml : c.maxLocals = n)
    (w1 : (Cond.methodLink own index y).before a0 Z = true) (w2 : (Cond.declares y).before a0 Z = true) (w3 : (Cond.selects C y y).before a0 Z = true) (w4 : (Cond.instanceMethod y).before a0 Z = true) (wc : (Cond.code y bytes maxL ret).before a0 Z = true) (wz : (Cond.initialized y.cls).before a0 Z = true)
    (eT : T.heap = h) (E : Exa Z h a C) (argsL rest : List Value)
    (hM : MetFree l y (head1 [Cond.code y bytes maxL ret] rm) (fun a' U => a' = (Value.ref a :: argsL).toArray ∧ Z.Warmed39 U.vm ∧ U.heap = h) (fun _ _ _ _ _ => True) (fun _ U o U' => ∃ v L, o = .returned v ∧ Q v U'.heap L ∧ FrameEnd U o U' L rm.cells rm.slots))
    (pc : Nat) (L : Array Slot) (hL : L.size = n) (hd : decode code pc = .ok (.invokevirtual index, 3)) (hlen : ∀ sig, parseMethodDescriptor y.desc = some sig → argsL.length = sig.parameters.length)
    (W c1 s1 : Nat) (h1 : cells + rm.cells = c1 := by rfl) (h2 : slots + rm.slots = s1 := by rfl) (hW : (rest.map fun v => v.category).sum ≤ W := by exact Nat.le_of_eq rfl) (hf : rm.frames + 1 ≤ R.frames := by decide) (hl : W + (maxL + 11) + rm.locals ≤ R.locals := by decide) (hc : c1 ≤ R.cells := by decide) (hsl : s1 ≤ R.slots := by decide) (hy : y.cls ≠ "java/lang/invoke/MethodHandle" ∧ y.cls ≠ "java/lang/invoke/VarHandle" := by decide) :
    ∃ v T' L', Stand p l e R s m args below meth c T' (locs ++ L') c1 s1 ∧ Q v T'.heap L' ∧ ∀ t, Steps p.tables e below (T'.setTop (mkF m (pc + 3) L (v.toList ++ rest))) t → Steps p.tables e below (T.setTop (mkF m pc L (argsL.reverse ++ .ref a :: rest))) t :=
  own_vb X hx hZ hown w1 w2 w3 w4 wc wz eT E hM (g := mkF m pc L (argsL.reverse ++ .ref a :: rest)) rfl (hL.trans hml.symm) rfl (hb hby hd) hlen (W := W) h1 h2 (by show 2 * 0 + _ ≤ _; omega) hf hl hc hsl hy
end Y
abbrev Go (p : Program) (e : Env) (below : List Frame) (T : State) (f : JFrame) (E : State) : Prop := ∀ t, Steps p.tables e below (T.setTop f) t → Steps p.tables e below E t
abbrev MF (l : Launch) (x : MethodName) (code : ByteArray) (n : Nat) (r : Option FieldType) (ws : List Jvm.Cond) (R : Room) (A : Array Value) (Z : State) (h0 : Heap) (Q : Option Value → Heap → List Loc → Prop) : Prop :=
  MetFree l x (head1 (Jvm.Cond.code x code n r :: ws) R) (fun a U => a = A ∧ Z.Warmed39 U.vm ∧ U.heap = h0) (fun _ _ _ _ _ => True) (fun _ U o U' => ∃ v L, o = .returned v ∧ Q v U'.heap L ∧ FrameEnd U o U' L R.cells R.slots)
abbrev HW (a0 : Array Value) (Z : State) : Prop := ∀ d ∈ tables_1, d.before a0 Z = true

theorem w_1 {a0 : Array Value} {Z : State} (hw : ∀ d ∈ tables_1, d.before a0 Z = true) : (Jvm.Cond.instantiable "com/example/horn1/horn1/engine/ClauseList" (6 : Nat)).before a0 Z = true := own_w hw 1 rfl
theorem w_2 {a0 : Array Value} {Z : State} (hw : ∀ d ∈ tables_1, d.before a0 Z = true) : (Jvm.Cond.initialized "com/example/horn1/horn1/engine/ClauseList").before a0 Z = true := own_w hw 2 rfl
theorem w_24 {a0 : Array Value} {Z : State} (hw : ∀ d ∈ tables_1, d.before a0 Z = true) : (Jvm.Cond.fieldLink "com/example/horn1/horn1/engine/ClauseList" (20 : Nat) "com/example/horn1/horn1/engine/ClauseList" "end" "I").before a0 Z = true := own_w hw 24 rfl
theorem w_26 {a0 : Array Value} {Z : State} (hw : ∀ d ∈ tables_1, d.before a0 Z = true) : (Jvm.Cond.fieldLink "com/example/horn1/horn1/engine/ClauseList" (16 : Nat) "com/example/horn1/horn1/engine/ClauseList" "first" "I").before a0 Z = true := own_w hw 26 rfl
abbrev cn0 : String := "Lcom/example/horn1/horn1/engine/Template;"
abbrev cn1 : String := "Lcom/example/horn1/horn1/term/Atom;"
abbrev cn2 : String := "Lcom/example/horn1/horn1/term/Term;"
abbrev cn3 : String := "[Lcom/example/horn1/horn1/engine/Clause;"
abbrev cn4 : String := "[Lcom/example/horn1/horn1/engine/Predicate;"
abbrev cn5 : String := "[Lcom/example/horn1/horn1/engine/Template;"
abbrev cn6 : String := "com/example/horn1/horn1/engine/Clause"
abbrev cn7 : String := "com/example/horn1/horn1/engine/ClauseList"
abbrev cn8 : String := "com/example/horn1/horn1/engine/ClauseListSizePinLaw"
abbrev cn9 : String := "com/example/horn1/horn1/engine/Predicate"
abbrev cn10 : String := "com/example/horn1/horn1/engine/Template"
abbrev cn11 : String := "com/example/horn1/horn1/term/Atom"
abbrev cn12 : String := "com/example/horn1/horn1/term/Term"
abbrev kd0 := prog_41_method_5_code
abbrev kd1 := prog_40_method_7_code
abbrev kd2 := prog_40_method_9_code
abbrev kd3 := jdk_29_method_65_code
abbrev kd4 := prog_41_method_10_code
abbrev kd5 := prog_41_method_6_code
abbrev kd6 := prog_41_method_7_code
abbrev kd7 := prog_41_method_8_code
abbrev kd8 := prog_41_method_9_code
abbrev kd9 := method_3_code
abbrev kd10 := prog_40_method_1_code
abbrev kd11 := prog_41_method_1_code
theorem pn0 : plainName "com/example/horn1/horn1/engine/ClauseList" = true := by first | (simp [plainName, overriddenIn]; done) | decide +kernel
theorem pn1 : plainName "com/example/horn1/horn1/engine/ClauseListSizePinLaw" = true := by first | (simp [plainName, overriddenIn]; done) | decide +kernel
theorem pd0 : parseMethodDescriptor "()V" = some ⟨[], none⟩ := by decide +kernel
abbrev N32 (n : Nat) : Int32 := Int32.ofNat n
theorem n_int {n : Nat} (h : n < 1000) : (N32 n).toInt = n := Int32.toInt_ofNat_of_lt (by omega)
theorem n_lt {a b : Nat} (ha : a < 1000) (hb : b < 1000) : N32 a < N32 b ↔ a < b := by
  rw [Int32.lt_iff_toInt_lt, n_int ha, n_int hb]; omega
theorem n_eq {a b : Nat} (ha : a < 1000) (hb : b < 1000) : N32 a = N32 b ↔ a = b := by
  constructor
  · intro h; have := congrArg Int32.toInt h; rw [n_int ha, n_int hb] at this; omega
  · intro h; rw [h]
theorem n_add (a b : Nat) : N32 a + N32 b = N32 (a + b) := by simp only [N32]; exact (Int32.ofNat_add a b).symm
theorem n_sub {a b : Nat} (h : b ≤ a) : N32 a - N32 b = N32 (a - b) := by
  have e : a = (a - b) + b := by omega
  conv => lhs; rw [e]
  rw [← n_add, Int32.add_sub_cancel]
theorem n_nat {n : Nat} (h : n < 1000) : (N32 n).toNatClampNeg = n := by
  simp only [Int32.toNatClampNeg, n_int h]; rfl
theorem n_nn {n : Nat} (h : n < 1000) : ¬ (N32 n < (0 : Int32)) := by
  have := n_lt h (b := 0) (by omega); intro q; exact absurd (this.mp q) (by omega)
abbrev MX : Int64 := (9223372036854775807 : Int64)
def CF (Z : State) (h : Heap) (n0 : Nat) (C : List Addr) (mk : Addr → Int64) : Prop := ∀ c ∈ C, n0 ≤ c ∧ Exa Z h c cn6 ∧ Fld Z h c cn6 "removed" "J" (.long (mk c))
theorem k_mono {h h' : Heap} {ws ws' : List Addr} (K : Keep h h' ws) (f : ∀ x ∈ ws, x ∈ ws') : Keep h h' ws' := ⟨K.1, fun x c q r => K.2.1 x c q (fun z => r (f x z)), K.2.2⟩
def LS (Z : State) (h : Heap) (n0 : Nat) (o sa : Addr) (ka : ClassId) (vs : List Value) (n lo fi en re : Nat) (af : Int32) : Prop :=
  n0 ≤ o ∧ Exa Z h o cn7 ∧ Fld Z h o cn7 "slots" cn3 (.ref sa) ∧ Fld Z h o cn7 "low" "I" (.int (N32 lo)) ∧ Fld Z h o cn7 "first" "I" (.int (N32 fi)) ∧ Fld Z h o cn7 "end" "I" (.int (N32 en)) ∧ Fld Z h o cn7 "removed" "I" (.int (N32 re)) ∧ Fld Z h o cn7 "addsFirst" "Z" (.int af)
  ∧ Arv Z h sa ka (.object cn6) (N32 n) vs .null ∧ ((n = 0 ∧ sa < n0) ∨ (n0 ≤ sa ∧ Ovr Z ka cn6 ∧ Exa Z h sa cn3)) ∧ sa ≠ o
def LD (C D : List Addr) (mk : Addr → Int64) (vs : List Value) (n lo fi en re : Nat) (af : Int32) : Prop :=
  en = lo + D.length ∧ (∀ j (hj : j < D.length), vs.getD (lo + j) .null = .ref D[j]) ∧ D.Nodup ∧ (∀ c ∈ D, c ∈ C) ∧ (∀ c ∈ C, mk c = MX → c ∈ D.drop (fi - lo)) ∧ lo ≤ fi ∧ fi ≤ en ∧ en ≤ n ∧ n ≤ 64 ∧ vs.length = n
  ∧ (∀ c ∈ D.take (fi - lo), mk c ≠ MX) ∧ re = (D.drop (fi - lo)).countP (fun c => decide (mk c ≠ MX)) ∧ (af = 0 ∨ af = 1)
def LInv (Z : State) (h : Heap) (n0 : Nat) (o mm : Addr) (C : List Addr) (mk : Addr → Int64) (k : Nat) : Prop :=
  ∃ sa ka vs n lo fi en re af D, LS Z h n0 o sa ka vs n lo fi en re af ∧ LD C D mk vs n lo fi en re af ∧ sa ≠ mm ∧ en - fi - re = k
def KW (Z : State) (h0 h : Heap) (n0 : Nat) (o mm : Addr) : Prop := ∃ ws, Keep h0 h ws ∧ ∀ x ∈ ws, n0 ≤ x ∧ (x = o ∨ (Exa Z h0 x cn3 ∧ x ≠ mm))
theorem d0_0 : decode kd0 0 = .ok (.aload_n 0, 1) := by decide +kernel
theorem d0_1 : decode kd0 1 = .ok (.getfield 20, 3) := by decide +kernel
theorem d0_4 : decode kd0 4 = .ok (.aload_n 0, 1) := by decide +kernel
theorem d0_5 : decode kd0 5 = .ok (.getfield 16, 3) := by decide +kernel
theorem d0_8 : decode kd0 8 = .ok (.isub, 1) := by decide +kernel
theorem d0_9 : decode kd0 9 = .ok (.aload_n 0, 1) := by decide +kernel
theorem d0_10 : decode kd0 10 = .ok (.getfield 23, 3) := by decide +kernel
theorem d0_13 : decode kd0 13 = .ok (.isub, 1) := by decide +kernel
theorem d0_14 : decode kd0 14 = .ok (.ireturn, 1) := by decide +kernel
theorem ef1 (m : MethodId) (x0 : Addr) : entryFrame m #[(.ref x0)] 1 = mkF m 0 #[.val (.ref x0)] [] := by first | (simp [entryFrame, mkF, argsToLocals, Value.category]; done) | rfl
def Q1 (Z : State) (o1 : Addr) (p2 p3 p4 : Int32) (h0 : Heap) (n0 : Nat) (v : Option Value) (h : Heap) (L : List Loc) : Prop :=
  (v = some (.int ((p2 - p3) - p4)) ∧ Fr n0 L ∧ h = h0)
set_option maxRecDepth 65536 in
set_option maxHeartbeats 40000000 in
theorem rm1 (l : Launch) (Z : State) (a0 : Array Value) (hw : HW a0 Z) (ws : List Jvm.Cond) (o1 : Addr) (p2 p3 p4 : Int32) (h0 : Heap) (n0 : Nat) (O0 : Old Z n0 h0) (g_o1 : n0 ≤ o1) (P1 : Fld Z h0 o1 cn7 "end" "I" (.int p2)) (P2 : Fld Z h0 o1 cn7 "first" "I" (.int p3)) (P3 : Fld Z h0 o1 cn7 "removed" "I" (.int p4)) :
    MF l yn0 prog_41_method_5_code 1 (some .int) ws ({ frames := 0, cells := 0, slots := 0, locals := 0 } : Room) #[(.ref o1)] Z h0 (Q1 Z o1 p2 p3 p4 h0 n0) := by
 refine MetFree.of_bodySF (plainFor_of_name pn0) hisR ?_
 intro p e s m args below meth c s₁ Bd hml hP hK
 obtain ⟨rfl, hZ, hh⟩ := hP
 obtain ⟨hx, hby, hown, hret, hlk, X0, e0, N0⟩ := own_bd Bd hh n0
 have pre0 := own_ct s₁ (p := p) (e := e) (below := below) (ef1 m o1)
 obtain ⟨T1, X1, e1, st1⟩ := yag X0 hx hZ hown hby (w_24 hw) e0 P1 0 #[.val (.ref o1)] [] d0_0 d0_1 rfl
 obtain ⟨T2, X2, e2, st2⟩ := yag X1 hx hZ hown hby (w_26 hw) e1 P2 4 #[.val (.ref o1)] [(.int p2)] d0_4 d0_5 rfl
 obtain ⟨T3, X3, e3, st3⟩ := yag X2 hx hZ hown hby (own_w hw 28 rfl) e2 P3 9 #[.val (.ref o1)] [(.int (p2 - p3))] d0_9 d0_10 rfl
 obtain ⟨fs, hr, hrun, hended, hW, hsame⟩ := X3.leave (v := some (.int ((p2 - p3) - p4))) (fun h => by rw [hret] at h; cases h)
 refine ⟨_, _, pre0 _ ?_, hrun, hended, _, _, rfl, ?_, ⟨_, rfl⟩, hW, hsame.mono (by decide) (by decide)⟩
 ·
  refine st1 _ ?_
  refine st2 _ ?_
  refine ysu X2 hx hby d0_8 ?_
  refine st3 _ ?_
  refine ysu X3 hx hby d0_13 ?_
  show Steps p.tables e below (T3.setTop (mkF m 14 #[.val (.ref o1)] [(.int ((p2 - p3) - p4))])) _
  exact retI X3 hx hret (hb hby d0_14) hr
 ·
  show Q1 Z o1 p2 p3 p4 h0 n0 _ T3.heap _
  rw [e3]
  exact ⟨rfl, N0, rfl⟩
theorem d1_0 : decode kd1 0 = .ok (.aload_n 0, 1) := by decide +kernel
theorem d1_1 : decode kd1 1 = .ok (.getfield 13, 3) := by decide +kernel
theorem d1_4 : decode kd1 4 = .ok (.ldc2_w 11, 3) := by decide +kernel
theorem d1_7 : decode kd1 7 = .ok (.lcmp, 1) := by decide +kernel
theorem d1_8 : decode kd1 8 = .ok (.ifCond .ne 7, 3) := by decide +kernel
theorem d1_11 : decode kd1 11 = .ok (.iconst 1, 1) := by decide +kernel
theorem d1_12 : decode kd1 12 = .ok (.goto 4, 3) := by decide +kernel
theorem d1_16 : decode kd1 16 = .ok (.ireturn, 1) := by decide +kernel
theorem d1_15 : decode kd1 15 = .ok (.iconst 0, 1) := by decide +kernel
theorem pn2 : plainName "com/example/horn1/horn1/engine/Clause" = true := by first | (simp [plainName, overriddenIn]; done) | decide +kernel
theorem ef2 (m : MethodId) (x0 : Addr) : entryFrame m #[(.ref x0)] 1 = mkF m 0 #[.val (.ref x0)] [] := by first | (simp [entryFrame, mkF, argsToLocals, Value.category]; done) | rfl
def Q2 (Z : State) (o1 : Addr) (q2 : Int64) (h0 : Heap) (n0 : Nat) (v : Option Value) (h : Heap) (L : List Loc) : Prop :=
  ((q2 = (9223372036854775807 : Int64)) ∧ v = some (.int 1) ∧ Fr n0 L ∧ h = h0)
  ∨ ((¬ (q2 = (9223372036854775807 : Int64))) ∧ v = some (.int 0) ∧ Fr n0 L ∧ h = h0)
set_option maxRecDepth 65536 in
set_option maxHeartbeats 40000000 in
theorem rm2 (l : Launch) (Z : State) (a0 : Array Value) (hw : HW a0 Z) (ws : List Jvm.Cond) (o1 : Addr) (q2 : Int64) (h0 : Heap) (n0 : Nat) (O0 : Old Z n0 h0) (g_o1 : n0 ≤ o1) (P1 : Fld Z h0 o1 cn6 "removed" "J" (.long q2)) :
    MF l yn1 prog_40_method_7_code 1 (some .boolean) ws ({ frames := 0, cells := 0, slots := 0, locals := 0 } : Room) #[(.ref o1)] Z h0 (Q2 Z o1 q2 h0 n0) := by
 refine MetFree.of_bodySF (plainFor_of_name pn2) hisR ?_
 intro p e s m args below meth c s₁ Bd hml hP hK
 obtain ⟨rfl, hZ, hh⟩ := hP
 obtain ⟨hx, hby, hown, hret, hlk, X0, e0, N0⟩ := own_bd Bd hh n0
 have pre0 := own_ct s₁ (p := p) (e := e) (below := below) (ef2 m o1)
 revert pre0
 generalize s₁.setTop (entryFrame m #[(.ref o1)] 1) = E0
 intro pre0
 obtain ⟨T1, X1, e1, st1⟩ := yag X0 hx hZ hown hby (own_w hw 42 rfl) e0 P1 0 #[.val (.ref o1)] [] d1_0 d1_1 rfl
 have pre2 : Go p e below T1 (mkF m 8 #[.val (.ref o1)] [(.int (lcmpW q2 (9223372036854775807 : Int64)))]) E0 := fun t k => by
  refine pre0 _ ?_
  refine st1 _ ?_
  refine X1.ldc2Long hx hown (mvT hZ (own_w hw 41 rfl)) (g := (mkF m 4 #[.val (.ref o1)] [(.long q2)])) rfl (hb hby d1_4) _ ?_
  refine XS.lcmp X1.here hx rfl (hb hby d1_7) rfl ?_
  exact k
 by_cases hc3 : q2 = (9223372036854775807 : Int64)
 ·
  have pre4 : Go p e below T1 (mkF m 8 #[.val (.ref o1)] [(.int (lcmpW (9223372036854775807 : Int64) (9223372036854775807 : Int64)))]) E0 := fun t k => pre2 t (by rw [hc3]; exact k)
  obtain ⟨fs, hr, hrun, hended, hW, hsame⟩ := X1.leave (v := some (.int 1)) (fun h => by rw [hret] at h; cases h)
  refine ⟨_, _, pre4 _ ?_, hrun, hended, _, _, rfl, ?_, ⟨_, rfl⟩, hW, hsame.mono (by decide) (by decide)⟩
  ·
   refine yfn X1 hx hby d1_8 ((if0 _ _).trans (teq ((lw_eq _ _).mpr (by decide : (9223372036854775807 : Int64) = (9223372036854775807 : Int64)))).2) ?_
   refine yic X1 hx hby d1_11 ?_
   refine ygo X1 hx hby 12 16 rfl d1_12 (by decide) ?_
   show Steps p.tables e below (T1.setTop (mkF m 16 #[.val (.ref o1)] [(.int 1)])) _
   exact retN X1 hx (t := .boolean) hret (by simp) (hb hby d1_16) hr
  ·
   show Q2 Z o1 q2 h0 n0 _ T1.heap _
   rw [e1]
   exact (Or.inl ⟨hc3, rfl, N0, rfl⟩)
 ·
  obtain ⟨fs, hr, hrun, hended, hW, hsame⟩ := X1.leave (v := some (.int 0)) (fun h => by rw [hret] at h; cases h)
  refine ⟨_, _, pre2 _ ?_, hrun, hended, _, _, rfl, ?_, ⟨_, rfl⟩, hW, hsame.mono (by decide) (by decide)⟩
  ·
   refine XS.ifYes X1.here hx rfl (pc0 := 8) (pc' := 15) rfl (hb hby d1_8) rfl ((if0 _ _).trans (feq (fun q => hc3 ((lw_eq _ _).mp q))).2) (by decide) (by decide) ?_
   refine yic X1 hx hby d1_15 ?_
   show Steps p.tables e below (T1.setTop (mkF m 16 #[.val (.ref o1)] [(.int 0)])) _
   exact retN X1 hx (t := .boolean) hret (by simp) (hb hby d1_16) hr
  ·
   show Q2 Z o1 q2 h0 n0 _ T1.heap _
   rw [e1]
   exact (Or.inr ⟨hc3, rfl, N0, rfl⟩)
theorem d2_0 : decode kd2 0 = .ok (.aload_n 0, 1) := by decide +kernel
theorem d2_1 : decode kd2 1 = .ok (.lload_n 1, 1) := by decide +kernel
theorem d2_2 : decode kd2 2 = .ok (.putfield 13, 3) := by decide +kernel
theorem d2_5 : decode kd2 5 = .ok (.return_, 1) := by decide +kernel
theorem ef3 (m : MethodId) (x0 : Addr) (x1 : Int64) : entryFrame m #[(.ref x0), (.long x1)] 3 = mkF m 0 #[.val (.ref x0), .val (.long x1), .second] [] := by first | (simp [entryFrame, mkF, argsToLocals, Value.category]; done) | rfl
def Q3 (Z : State) (o1 : Addr) (q3 q2 : Int64) (h0 : Heap) (n0 : Nat) (v : Option Value) (h : Heap) (L : List Loc) : Prop :=
  (v = none ∧ Fr n0 L ∧ Keep h0 h [o1] ∧ (Exa Z h o1 cn6) ∧ (Fld Z h o1 cn6 "removed" "J" (.long q2)))
set_option maxRecDepth 65536 in
set_option maxHeartbeats 40000000 in
theorem rm3 (l : Launch) (Z : State) (a0 : Array Value) (hw : HW a0 Z) (ws : List Jvm.Cond) (o1 : Addr) (q3 q2 : Int64) (h0 : Heap) (n0 : Nat) (O0 : Old Z n0 h0) (g_o1 : n0 ≤ o1) (P0 : Exa Z h0 o1 cn6) (P1 : Fld Z h0 o1 cn6 "removed" "J" (.long q3)) :
    MF l yn2 prog_40_method_9_code 3 none ws ({ frames := 0, cells := 0, slots := 0, locals := 0 } : Room) #[(.ref o1), (.long q2)] Z h0 (Q3 Z o1 q3 q2 h0 n0) := by
 refine MetFree.of_bodySF (plainFor_of_name pn2) hisR ?_
 intro p e s m args below meth c s₁ Bd hml hP hK
 obtain ⟨rfl, hZ, hh⟩ := hP
 obtain ⟨hx, hby, hown, hret, hlk, X0, e0, N0⟩ := own_bd Bd hh n0
 have pre0 := own_ct s₁ (p := p) (e := e) (below := below) (ef3 m o1 q2)
 obtain ⟨T1, h1, X1, e1, W1, st1⟩ := yp X0 hx hZ hown hby (own_w hw 42 rfl) e0 P1 P0 (own_w hw 43 rfl) (own_w hw 35 rfl) (ty := .long) (v := (.long q2)) (by decide) rfl rfl 2 #[.val (.ref o1), .val (.long q2), .second] [] d2_2
 have N1 := Fr.snoc X1 N0 g_o1
 have Fw1 := P1.same W1
 obtain ⟨fs, hr, hrun, hended, hW, hsame⟩ := X1.leave (v := none) (fun _ => rfl)
 have KL : Keep h0 h1 [o1] := ((Keep.refl h0 [o1]).wr W1 (Or.inl (List.mem_of_getElem? (i := 0) rfl)))
 have f2 := (P0.wr W1)
 refine ⟨_, _, pre0 _ ?_, hrun, hended, _, _, rfl, ?_, ⟨_, rfl⟩, hW, hsame.mono (by decide) (by decide)⟩
 ·
  refine yan X0 hx hby d2_0 rfl rfl ?_
  refine XS.lloadN X0.here hx rfl (hb hby d2_1) rfl ?_
  refine st1 _ ?_
  show Steps p.tables e below (T1.setTop (mkF m 5 #[.val (.ref o1), .val (.long q2), .second] [])) _
  exact X1.returnOut hx hret (hb hby d2_5) hr
 ·
  show Q3 Z o1 q3 q2 h0 n0 _ T1.heap _
  rw [e1]
  exact ⟨rfl, N1, KL, f2, Fw1⟩
theorem d3_0 : decode kd3 0 = .ok (.iload_n 0, 1) := by decide +kernel
theorem d3_1 : decode kd3 1 = .ok (.iload_n 1, 1) := by decide +kernel
theorem d3_2 : decode kd3 2 = .ok (.if_icmp .lt 7, 3) := by decide +kernel
theorem d3_9 : decode kd3 9 = .ok (.iload_n 1, 1) := by decide +kernel
theorem d3_10 : decode kd3 10 = .ok (.ireturn, 1) := by decide +kernel
theorem d3_5 : decode kd3 5 = .ok (.iload_n 0, 1) := by decide +kernel
theorem d3_6 : decode kd3 6 = .ok (.goto 4, 3) := by decide +kernel
theorem ef4 (m : MethodId) (x0 x1 : Int32) : entryFrame m #[(.int x0), (.int x1)] 2 = mkF m 0 #[.val (.int x0), .val (.int x1)] [] := by first | (simp [entryFrame, mkF, argsToLocals, Value.category]; done) | rfl
def Q4 (Z : State) (p1 p2 : Int32) (h0 : Heap) (n0 : Nat) (v : Option Value) (h : Heap) (L : List Loc) : Prop :=
  ((p1 < p2) ∧ v = some (.int p2) ∧ Fr n0 L ∧ h = h0)
  ∨ ((¬ (p1 < p2)) ∧ v = some (.int p1) ∧ Fr n0 L ∧ h = h0)
set_option maxRecDepth 65536 in
set_option maxHeartbeats 40000000 in
theorem rm4 (l : Launch) (Z : State) (a0 : Array Value) (hw : HW a0 Z) (ws : List Jvm.Cond) (p1 p2 : Int32) (h0 : Heap) (n0 : Nat) (O0 : Old Z n0 h0) :
    MF l yn3 jdk_29_method_65_code 2 (some .int) ws ({ frames := 0, cells := 0, slots := 0, locals := 0 } : Room) #[(.int p1), (.int p2)] Z h0 (Q4 Z p1 p2 h0 n0) := by
 refine MetFree.of_bodySF (Jvm.Free.JP.mathPlain rfl (by decide +kernel)) hisR ?_
 intro p e s m args below meth c s₁ Bd hml hP hK
 obtain ⟨rfl, hZ, hh⟩ := hP
 obtain ⟨hx, hby, hown, hret, hlk, X0, e0, N0⟩ := own_bd Bd hh n0
 have pre0 := own_ct s₁ (p := p) (e := e) (below := below) (ef4 m p1 p2)
 revert pre0
 generalize s₁.setTop (entryFrame m #[(.int p1), (.int p2)] 2) = E0
 intro pre0
 have pre1 : Go p e below s₁ (mkF m 2 #[.val (.int p1), .val (.int p2)] [(.int p2), (.int p1)]) E0 := fun t k => by
  refine pre0 _ ?_
  refine yin X0 hx hby d3_0 rfl ?_
  refine yin X0 hx hby d3_1 rfl ?_
  exact k
 by_cases hc2 : p1 < p2
 ·
  obtain ⟨fs, hr, hrun, hended, hW, hsame⟩ := X0.leave (v := some (.int p2)) (fun h => by rw [hret] at h; cases h)
  refine ⟨_, _, pre1 _ ?_, hrun, hended, _, _, rfl, ?_, ⟨_, rfl⟩, hW, hsame.mono (by decide) (by decide)⟩
  ·
   refine yye X0 hx hby 2 9 rfl d3_2 (tlt hc2).1 (by decide) ?_
   refine yin X0 hx hby d3_9 rfl ?_
   show Steps p.tables e below (s₁.setTop (mkF m 10 #[.val (.int p1), .val (.int p2)] [(.int p2)])) _
   exact retI X0 hx hret (hb hby d3_10) hr
  ·
   show Q4 Z p1 p2 h0 n0 _ s₁.heap _
   rw [e0]
   exact (Or.inl ⟨hc2, rfl, N0, rfl⟩)
 ·
  obtain ⟨fs, hr, hrun, hended, hW, hsame⟩ := X0.leave (v := some (.int p1)) (fun h => by rw [hret] at h; cases h)
  refine ⟨_, _, pre1 _ ?_, hrun, hended, _, _, rfl, ?_, ⟨_, rfl⟩, hW, hsame.mono (by decide) (by decide)⟩
  ·
   refine yno X0 hx hby d3_2 (flt hc2).1 ?_
   refine yin X0 hx hby d3_5 rfl ?_
   refine ygo X0 hx hby 6 10 rfl d3_6 (by decide) ?_
   show Steps p.tables e below (s₁.setTop (mkF m 10 #[.val (.int p1), .val (.int p2)] [(.int p1)])) _
   exact retI X0 hx hret (hb hby d3_10) hr
  ·
   show Q4 Z p1 p2 h0 n0 _ s₁.heap _
   rw [e0]
   exact (Or.inr ⟨hc2, rfl, N0, rfl⟩)
theorem d4_0 : decode kd4 0 = .ok (.aload_n 0, 1) := by decide +kernel
theorem d4_1 : decode kd4 1 = .ok (.invokevirtual 46, 3) := by decide +kernel
theorem d4_4 : decode kd4 4 = .ok (.istore_n 1, 1) := by decide +kernel
theorem d4_5 : decode kd4 5 = .ok (.iconst 4, 1) := by decide +kernel
theorem d4_6 : decode kd4 6 = .ok (.iload_n 1, 1) := by decide +kernel
theorem d4_7 : decode kd4 7 = .ok (.invokestatic 50, 3) := by decide +kernel
theorem d4_10 : decode kd4 10 = .ok (.istore_n 2, 1) := by decide +kernel
theorem d4_11 : decode kd4 11 = .ok (.aload_n 0, 1) := by decide +kernel
theorem d4_12 : decode kd4 12 = .ok (.getfield 29, 3) := by decide +kernel
theorem d4_15 : decode kd4 15 = .ok (.ifCond .eq 7, 3) := by decide +kernel
theorem d4_18 : decode kd4 18 = .ok (.iload_n 2, 1) := by decide +kernel
theorem d4_19 : decode kd4 19 = .ok (.goto 4, 3) := by decide +kernel
theorem d4_22 : decode kd4 22 = .ok (.iconst 0, 1) := by decide +kernel
theorem d4_23 : decode kd4 23 = .ok (.istore_n 3, 1) := by decide +kernel
theorem d4_24 : decode kd4 24 = .ok (.iload_n 3, 1) := by decide +kernel
theorem d4_25 : decode kd4 25 = .ok (.iload_n 1, 1) := by decide +kernel
theorem d4_26 : decode kd4 26 = .ok (.iadd, 1) := by decide +kernel
theorem d4_27 : decode kd4 27 = .ok (.iload_n 2, 1) := by decide +kernel
theorem d4_28 : decode kd4 28 = .ok (.iadd, 1) := by decide +kernel
theorem d4_29 : decode kd4 29 = .ok (.anewarray 37, 3) := by decide +kernel
theorem d4_32 : decode kd4 32 = .ok (.astore 4, 2) := by decide +kernel
theorem d4_34 : decode kd4 34 = .ok (.iload_n 3, 1) := by decide +kernel
theorem d4_35 : decode kd4 35 = .ok (.istore 5, 2) := by decide +kernel
theorem d4_37 : decode kd4 37 = .ok (.aload_n 0, 1) := by decide +kernel
theorem d4_38 : decode kd4 38 = .ok (.getfield 16, 3) := by decide +kernel
theorem d4_41 : decode kd4 41 = .ok (.istore 6, 2) := by decide +kernel
theorem d4_43 : decode kd4 43 = .ok (.iload 6, 2) := by decide +kernel
theorem d4_45 : decode kd4 45 = .ok (.aload_n 0, 1) := by decide +kernel
theorem d4_46 : decode kd4 46 = .ok (.getfield 20, 3) := by decide +kernel
theorem d4_49 : decode kd4 49 = .ok (.if_icmp .ge 37, 3) := by decide +kernel
theorem d4_52 : decode kd4 52 = .ok (.aload_n 0, 1) := by decide +kernel
theorem d4_53 : decode kd4 53 = .ok (.getfield 13, 3) := by decide +kernel
theorem d4_56 : decode kd4 56 = .ok (.iload 6, 2) := by decide +kernel
theorem d4_58 : decode kd4 58 = .ok (.aaload, 1) := by decide +kernel
theorem d4_59 : decode kd4 59 = .ok (.invokevirtual 42, 3) := by decide +kernel
theorem d4_62 : decode kd4 62 = .ok (.ifCond .eq 18, 3) := by decide +kernel
theorem d4_65 : decode kd4 65 = .ok (.aload 4, 2) := by decide +kernel
theorem d4_67 : decode kd4 67 = .ok (.iload 5, 2) := by decide +kernel
theorem d4_69 : decode kd4 69 = .ok (.aload_n 0, 1) := by decide +kernel
theorem d4_70 : decode kd4 70 = .ok (.getfield 13, 3) := by decide +kernel
theorem d4_73 : decode kd4 73 = .ok (.iload 6, 2) := by decide +kernel
theorem d4_75 : decode kd4 75 = .ok (.aaload, 1) := by decide +kernel
theorem d4_76 : decode kd4 76 = .ok (.aastore, 1) := by decide +kernel
theorem d4_77 : decode kd4 77 = .ok (.iinc 5 1, 3) := by decide +kernel
theorem d4_80 : decode kd4 80 = .ok (.iinc 6 1, 3) := by decide +kernel
theorem d4_83 : decode kd4 83 = .ok (.goto (-40), 3) := by decide +kernel
theorem d4_86 : decode kd4 86 = .ok (.aload_n 0, 1) := by decide +kernel
theorem d4_87 : decode kd4 87 = .ok (.aload 4, 2) := by decide +kernel
theorem d4_89 : decode kd4 89 = .ok (.putfield 13, 3) := by decide +kernel
theorem d4_92 : decode kd4 92 = .ok (.aload_n 0, 1) := by decide +kernel
theorem d4_93 : decode kd4 93 = .ok (.iload_n 3, 1) := by decide +kernel
theorem d4_94 : decode kd4 94 = .ok (.putfield 33, 3) := by decide +kernel
theorem d4_97 : decode kd4 97 = .ok (.aload_n 0, 1) := by decide +kernel
theorem d4_98 : decode kd4 98 = .ok (.iload_n 3, 1) := by decide +kernel
theorem d4_99 : decode kd4 99 = .ok (.putfield 16, 3) := by decide +kernel
theorem d4_102 : decode kd4 102 = .ok (.aload_n 0, 1) := by decide +kernel
theorem d4_103 : decode kd4 103 = .ok (.iload 5, 2) := by decide +kernel
theorem d4_105 : decode kd4 105 = .ok (.putfield 20, 3) := by decide +kernel
theorem d4_108 : decode kd4 108 = .ok (.aload_n 0, 1) := by decide +kernel
theorem d4_109 : decode kd4 109 = .ok (.iconst 0, 1) := by decide +kernel
theorem d4_110 : decode kd4 110 = .ok (.putfield 23, 3) := by decide +kernel
theorem d4_113 : decode kd4 113 = .ok (.return_, 1) := by decide +kernel
theorem d5_0 : decode kd5 0 = .ok (.aload_n 0, 1) := by decide +kernel
theorem d5_1 : decode kd5 1 = .ok (.getfield 20, 3) := by decide +kernel
theorem d5_4 : decode kd5 4 = .ok (.aload_n 0, 1) := by decide +kernel
theorem d5_5 : decode kd5 5 = .ok (.getfield 13, 3) := by decide +kernel
theorem d5_8 : decode kd5 8 = .ok (.arraylength, 1) := by decide +kernel
theorem d5_9 : decode kd5 9 = .ok (.if_icmp .ne 7, 3) := by decide +kernel
theorem d5_12 : decode kd5 12 = .ok (.aload_n 0, 1) := by decide +kernel
theorem d5_13 : decode kd5 13 = .ok (.invokevirtual 26, 3) := by decide +kernel
theorem d5_16 : decode kd5 16 = .ok (.aload_n 0, 1) := by decide +kernel
theorem d5_17 : decode kd5 17 = .ok (.getfield 13, 3) := by decide +kernel
theorem d5_20 : decode kd5 20 = .ok (.aload_n 0, 1) := by decide +kernel
theorem d5_21 : decode kd5 21 = .ok (.getfield 20, 3) := by decide +kernel
theorem d5_24 : decode kd5 24 = .ok (.aload_n 1, 1) := by decide +kernel
theorem d5_25 : decode kd5 25 = .ok (.aastore, 1) := by decide +kernel
theorem d5_26 : decode kd5 26 = .ok (.aload_n 0, 1) := by decide +kernel
theorem d5_27 : decode kd5 27 = .ok (.dup, 1) := by decide +kernel
theorem d5_28 : decode kd5 28 = .ok (.getfield 20, 3) := by decide +kernel
theorem d5_31 : decode kd5 31 = .ok (.iconst 1, 1) := by decide +kernel
theorem d5_32 : decode kd5 32 = .ok (.iadd, 1) := by decide +kernel
theorem d5_33 : decode kd5 33 = .ok (.putfield 20, 3) := by decide +kernel
theorem d5_36 : decode kd5 36 = .ok (.return_, 1) := by decide +kernel
theorem d6_0 : decode kd6 0 = .ok (.aload_n 0, 1) := by decide +kernel
theorem d6_1 : decode kd6 1 = .ok (.iconst 1, 1) := by decide +kernel
theorem d6_2 : decode kd6 2 = .ok (.putfield 29, 3) := by decide +kernel
theorem d6_5 : decode kd6 5 = .ok (.aload_n 0, 1) := by decide +kernel
theorem d6_6 : decode kd6 6 = .ok (.getfield 33, 3) := by decide +kernel
theorem d6_9 : decode kd6 9 = .ok (.ifCond .ne 7, 3) := by decide +kernel
theorem d6_12 : decode kd6 12 = .ok (.aload_n 0, 1) := by decide +kernel
theorem d6_13 : decode kd6 13 = .ok (.invokevirtual 26, 3) := by decide +kernel
theorem d6_16 : decode kd6 16 = .ok (.aload_n 0, 1) := by decide +kernel
theorem d6_17 : decode kd6 17 = .ok (.dup, 1) := by decide +kernel
theorem d6_18 : decode kd6 18 = .ok (.getfield 23, 3) := by decide +kernel
theorem d6_21 : decode kd6 21 = .ok (.aload_n 0, 1) := by decide +kernel
theorem d6_22 : decode kd6 22 = .ok (.getfield 16, 3) := by decide +kernel
theorem d6_25 : decode kd6 25 = .ok (.aload_n 0, 1) := by decide +kernel
theorem d6_26 : decode kd6 26 = .ok (.getfield 33, 3) := by decide +kernel
theorem d6_29 : decode kd6 29 = .ok (.isub, 1) := by decide +kernel
theorem d6_30 : decode kd6 30 = .ok (.iadd, 1) := by decide +kernel
theorem d6_31 : decode kd6 31 = .ok (.putfield 23, 3) := by decide +kernel
theorem d6_34 : decode kd6 34 = .ok (.aload_n 0, 1) := by decide +kernel
theorem d6_35 : decode kd6 35 = .ok (.dup, 1) := by decide +kernel
theorem d6_36 : decode kd6 36 = .ok (.getfield 33, 3) := by decide +kernel
theorem d6_39 : decode kd6 39 = .ok (.iconst 1, 1) := by decide +kernel
theorem d6_40 : decode kd6 40 = .ok (.isub, 1) := by decide +kernel
theorem d6_41 : decode kd6 41 = .ok (.putfield 33, 3) := by decide +kernel
theorem d6_44 : decode kd6 44 = .ok (.aload_n 0, 1) := by decide +kernel
theorem d6_45 : decode kd6 45 = .ok (.getfield 13, 3) := by decide +kernel
theorem d6_48 : decode kd6 48 = .ok (.aload_n 0, 1) := by decide +kernel
theorem d6_49 : decode kd6 49 = .ok (.getfield 33, 3) := by decide +kernel
theorem d6_52 : decode kd6 52 = .ok (.aload_n 1, 1) := by decide +kernel
theorem d6_53 : decode kd6 53 = .ok (.aastore, 1) := by decide +kernel
theorem d6_54 : decode kd6 54 = .ok (.aload_n 0, 1) := by decide +kernel
theorem d6_55 : decode kd6 55 = .ok (.aload_n 0, 1) := by decide +kernel
theorem d6_56 : decode kd6 56 = .ok (.getfield 33, 3) := by decide +kernel
theorem d6_59 : decode kd6 59 = .ok (.putfield 16, 3) := by decide +kernel
theorem d6_62 : decode kd6 62 = .ok (.return_, 1) := by decide +kernel
theorem d7_0 : decode kd7 0 = .ok (.aload_n 1, 1) := by decide +kernel
theorem d7_1 : decode kd7 1 = .ok (.lload_n 2, 1) := by decide +kernel
theorem d7_2 : decode kd7 2 = .ok (.invokevirtual 36, 3) := by decide +kernel
theorem d7_5 : decode kd7 5 = .ok (.aload_n 0, 1) := by decide +kernel
theorem d7_6 : decode kd7 6 = .ok (.dup, 1) := by decide +kernel
theorem d7_7 : decode kd7 7 = .ok (.getfield 23, 3) := by decide +kernel
theorem d7_10 : decode kd7 10 = .ok (.iconst 1, 1) := by decide +kernel
theorem d7_11 : decode kd7 11 = .ok (.iadd, 1) := by decide +kernel
theorem d7_12 : decode kd7 12 = .ok (.putfield 23, 3) := by decide +kernel
theorem d7_15 : decode kd7 15 = .ok (.aload_n 0, 1) := by decide +kernel
theorem d7_16 : decode kd7 16 = .ok (.getfield 16, 3) := by decide +kernel
theorem d7_19 : decode kd7 19 = .ok (.aload_n 0, 1) := by decide +kernel
theorem d7_20 : decode kd7 20 = .ok (.getfield 20, 3) := by decide +kernel
theorem d7_23 : decode kd7 23 = .ok (.if_icmp .ge 41, 3) := by decide +kernel
theorem d7_26 : decode kd7 26 = .ok (.aload_n 0, 1) := by decide +kernel
theorem d7_27 : decode kd7 27 = .ok (.getfield 13, 3) := by decide +kernel
theorem d7_30 : decode kd7 30 = .ok (.aload_n 0, 1) := by decide +kernel
theorem d7_31 : decode kd7 31 = .ok (.getfield 16, 3) := by decide +kernel
theorem d7_34 : decode kd7 34 = .ok (.aaload, 1) := by decide +kernel
theorem d7_35 : decode kd7 35 = .ok (.invokevirtual 42, 3) := by decide +kernel
theorem d7_38 : decode kd7 38 = .ok (.ifCond .ne 26, 3) := by decide +kernel
theorem d7_41 : decode kd7 41 = .ok (.aload_n 0, 1) := by decide +kernel
theorem d7_42 : decode kd7 42 = .ok (.dup, 1) := by decide +kernel
theorem d7_43 : decode kd7 43 = .ok (.getfield 16, 3) := by decide +kernel
theorem d7_46 : decode kd7 46 = .ok (.iconst 1, 1) := by decide +kernel
theorem d7_47 : decode kd7 47 = .ok (.iadd, 1) := by decide +kernel
theorem d7_48 : decode kd7 48 = .ok (.putfield 16, 3) := by decide +kernel
theorem d7_51 : decode kd7 51 = .ok (.aload_n 0, 1) := by decide +kernel
theorem d7_52 : decode kd7 52 = .ok (.dup, 1) := by decide +kernel
theorem d7_53 : decode kd7 53 = .ok (.getfield 23, 3) := by decide +kernel
theorem d7_56 : decode kd7 56 = .ok (.iconst 1, 1) := by decide +kernel
theorem d7_57 : decode kd7 57 = .ok (.isub, 1) := by decide +kernel
theorem d7_58 : decode kd7 58 = .ok (.putfield 23, 3) := by decide +kernel
theorem d7_61 : decode kd7 61 = .ok (.goto (-46), 3) := by decide +kernel
theorem d7_64 : decode kd7 64 = .ok (.aload_n 0, 1) := by decide +kernel
theorem d7_65 : decode kd7 65 = .ok (.getfield 16, 3) := by decide +kernel
theorem d7_68 : decode kd7 68 = .ok (.aload_n 0, 1) := by decide +kernel
theorem d7_69 : decode kd7 69 = .ok (.getfield 33, 3) := by decide +kernel
theorem d7_72 : decode kd7 72 = .ok (.isub, 1) := by decide +kernel
theorem d7_73 : decode kd7 73 = .ok (.aload_n 0, 1) := by decide +kernel
theorem d7_74 : decode kd7 74 = .ok (.getfield 23, 3) := by decide +kernel
theorem d7_77 : decode kd7 77 = .ok (.iadd, 1) := by decide +kernel
theorem d7_78 : decode kd7 78 = .ok (.aload_n 0, 1) := by decide +kernel
theorem d7_79 : decode kd7 79 = .ok (.invokevirtual 46, 3) := by decide +kernel
theorem d7_82 : decode kd7 82 = .ok (.iconst 4, 1) := by decide +kernel
theorem d7_83 : decode kd7 83 = .ok (.invokestatic 50, 3) := by decide +kernel
theorem d7_86 : decode kd7 86 = .ok (.if_icmp .le 7, 3) := by decide +kernel
theorem d7_89 : decode kd7 89 = .ok (.aload_n 0, 1) := by decide +kernel
theorem d7_90 : decode kd7 90 = .ok (.invokevirtual 26, 3) := by decide +kernel
theorem d7_93 : decode kd7 93 = .ok (.return_, 1) := by decide +kernel
theorem d8_0 : decode kd8 0 = .ok (.aload_n 0, 1) := by decide +kernel
theorem d8_1 : decode kd8 1 = .ok (.getfield 16, 3) := by decide +kernel
theorem d8_4 : decode kd8 4 = .ok (.istore_n 3, 1) := by decide +kernel
theorem d8_5 : decode kd8 5 = .ok (.iload_n 3, 1) := by decide +kernel
theorem d8_6 : decode kd8 6 = .ok (.aload_n 0, 1) := by decide +kernel
theorem d8_7 : decode kd8 7 = .ok (.getfield 20, 3) := by decide +kernel
theorem d8_10 : decode kd8 10 = .ok (.if_icmp .ge 31, 3) := by decide +kernel
theorem d8_13 : decode kd8 13 = .ok (.aload_n 0, 1) := by decide +kernel
theorem d8_14 : decode kd8 14 = .ok (.getfield 13, 3) := by decide +kernel
theorem d8_17 : decode kd8 17 = .ok (.iload_n 3, 1) := by decide +kernel
theorem d8_18 : decode kd8 18 = .ok (.aaload, 1) := by decide +kernel
theorem d8_19 : decode kd8 19 = .ok (.invokevirtual 42, 3) := by decide +kernel
theorem d8_22 : decode kd8 22 = .ok (.ifCond .eq 13, 3) := by decide +kernel
theorem d8_25 : decode kd8 25 = .ok (.aload_n 0, 1) := by decide +kernel
theorem d8_26 : decode kd8 26 = .ok (.getfield 13, 3) := by decide +kernel
theorem d8_29 : decode kd8 29 = .ok (.iload_n 3, 1) := by decide +kernel
theorem d8_30 : decode kd8 30 = .ok (.aaload, 1) := by decide +kernel
theorem d8_31 : decode kd8 31 = .ok (.lload_n 1, 1) := by decide +kernel
theorem d8_32 : decode kd8 32 = .ok (.invokevirtual 36, 3) := by decide +kernel
theorem d8_35 : decode kd8 35 = .ok (.iinc 3 1, 3) := by decide +kernel
theorem d8_38 : decode kd8 38 = .ok (.goto (-33), 3) := by decide +kernel
theorem d8_41 : decode kd8 41 = .ok (.aload_n 0, 1) := by decide +kernel
theorem d8_42 : decode kd8 42 = .ok (.getstatic 7, 3) := by decide +kernel
theorem d8_45 : decode kd8 45 = .ok (.putfield 13, 3) := by decide +kernel
theorem d8_48 : decode kd8 48 = .ok (.aload_n 0, 1) := by decide +kernel
theorem d8_49 : decode kd8 49 = .ok (.iconst 0, 1) := by decide +kernel
theorem d8_50 : decode kd8 50 = .ok (.putfield 33, 3) := by decide +kernel
theorem d8_53 : decode kd8 53 = .ok (.aload_n 0, 1) := by decide +kernel
theorem d8_54 : decode kd8 54 = .ok (.iconst 0, 1) := by decide +kernel
theorem d8_55 : decode kd8 55 = .ok (.putfield 16, 3) := by decide +kernel
theorem d8_58 : decode kd8 58 = .ok (.aload_n 0, 1) := by decide +kernel
theorem d8_59 : decode kd8 59 = .ok (.iconst 0, 1) := by decide +kernel
theorem d8_60 : decode kd8 60 = .ok (.putfield 20, 3) := by decide +kernel
theorem d8_63 : decode kd8 63 = .ok (.aload_n 0, 1) := by decide +kernel
theorem d8_64 : decode kd8 64 = .ok (.iconst 0, 1) := by decide +kernel
theorem d8_65 : decode kd8 65 = .ok (.putfield 23, 3) := by decide +kernel
theorem d8_68 : decode kd8 68 = .ok (.aload_n 0, 1) := by decide +kernel
theorem d8_69 : decode kd8 69 = .ok (.iconst 0, 1) := by decide +kernel
theorem d8_70 : decode kd8 70 = .ok (.putfield 29, 3) := by decide +kernel
theorem d8_73 : decode kd8 73 = .ok (.return_, 1) := by decide +kernel
theorem d9_0 : decode kd9 0 = .ok (.iload 6, 2) := by decide +kernel
theorem d9_2 : decode kd9 2 = .ok (.bipush 7, 2) := by decide +kernel
theorem d9_4 : decode kd9 4 = .ok (.iand, 1) := by decide +kernel
theorem d9_5 : decode kd9 5 = .ok (.istore 7, 2) := by decide +kernel
theorem d9_7 : decode kd9 7 = .ok (.iload 7, 2) := by decide +kernel
theorem d9_9 : decode kd9 9 = .ok (.iconst 3, 1) := by decide +kernel
theorem d9_10 : decode kd9 10 = .ok (.if_icmp .gt 85, 3) := by decide +kernel
theorem d9_13 : decode kd9 13 = .ok (.new 12, 3) := by decide +kernel
theorem d9_16 : decode kd9 16 = .ok (.dup, 1) := by decide +kernel
theorem d9_17 : decode kd9 17 = .ok (.aload_n 1, 1) := by decide +kernel
theorem d9_18 : decode kd9 18 = .ok (.aconst_null, 1) := by decide +kernel
theorem d9_19 : decode kd9 19 = .ok (.aconst_null, 1) := by decide +kernel
theorem d9_20 : decode kd9 20 = .ok (.aconst_null, 1) := by decide +kernel
theorem d9_21 : decode kd9 21 = .ok (.iconst 0, 1) := by decide +kernel
theorem d9_22 : decode kd9 22 = .ok (.invokespecial 25, 3) := by decide +kernel
theorem d9_25 : decode kd9 25 = .ok (.astore 8, 2) := by decide +kernel
theorem d9_27 : decode kd9 27 = .ok (.iload 7, 2) := by decide +kernel
theorem d9_29 : decode kd9 29 = .ok (.iconst 1, 1) := by decide +kernel
theorem d9_30 : decode kd9 30 = .ok (.if_icmp .gt 12, 3) := by decide +kernel
theorem d9_33 : decode kd9 33 = .ok (.aload_n 0, 1) := by decide +kernel
theorem d9_34 : decode kd9 34 = .ok (.aload 8, 2) := by decide +kernel
theorem d9_36 : decode kd9 36 = .ok (.invokevirtual 28, 3) := by decide +kernel
theorem d9_39 : decode kd9 39 = .ok (.goto 9, 3) := by decide +kernel
theorem d9_42 : decode kd9 42 = .ok (.aload_n 0, 1) := by decide +kernel
theorem d9_43 : decode kd9 43 = .ok (.aload 8, 2) := by decide +kernel
theorem d9_45 : decode kd9 45 = .ok (.invokevirtual 32, 3) := by decide +kernel
theorem d9_48 : decode kd9 48 = .ok (.aload 5, 2) := by decide +kernel
theorem d9_50 : decode kd9 50 = .ok (.iconst 0, 1) := by decide +kernel
theorem d9_51 : decode kd9 51 = .ok (.iaload, 1) := by decide +kernel
theorem d9_52 : decode kd9 52 = .ok (.istore 9, 2) := by decide +kernel
theorem d9_54 : decode kd9 54 = .ok (.aload_n 2, 1) := by decide +kernel
theorem d9_55 : decode kd9 55 = .ok (.iload 9, 2) := by decide +kernel
theorem d9_57 : decode kd9 57 = .ok (.aload 8, 2) := by decide +kernel
theorem d9_59 : decode kd9 59 = .ok (.aastore, 1) := by decide +kernel
theorem d9_60 : decode kd9 60 = .ok (.aload_n 3, 1) := by decide +kernel
theorem d9_61 : decode kd9 61 = .ok (.iload 9, 2) := by decide +kernel
theorem d9_63 : decode kd9 63 = .ok (.iconst 1, 1) := by decide +kernel
theorem d9_64 : decode kd9 64 = .ok (.bastore, 1) := by decide +kernel
theorem d9_65 : decode kd9 65 = .ok (.aload 4, 2) := by decide +kernel
theorem d9_67 : decode kd9 67 = .ok (.iload 9, 2) := by decide +kernel
theorem d9_69 : decode kd9 69 = .ok (.aload 5, 2) := by decide +kernel
theorem d9_71 : decode kd9 71 = .ok (.iconst 2, 1) := by decide +kernel
theorem d9_72 : decode kd9 72 = .ok (.iaload, 1) := by decide +kernel
theorem d9_73 : decode kd9 73 = .ok (.iastore, 1) := by decide +kernel
theorem d9_74 : decode kd9 74 = .ok (.aload 5, 2) := by decide +kernel
theorem d9_76 : decode kd9 76 = .ok (.iconst 0, 1) := by decide +kernel
theorem d9_77 : decode kd9 77 = .ok (.iload 9, 2) := by decide +kernel
theorem d9_79 : decode kd9 79 = .ok (.iconst 1, 1) := by decide +kernel
theorem d9_80 : decode kd9 80 = .ok (.iadd, 1) := by decide +kernel
theorem d9_81 : decode kd9 81 = .ok (.iastore, 1) := by decide +kernel
theorem d9_82 : decode kd9 82 = .ok (.aload 5, 2) := by decide +kernel
theorem d9_84 : decode kd9 84 = .ok (.iconst 1, 1) := by decide +kernel
theorem d9_85 : decode kd9 85 = .ok (.aload 5, 2) := by decide +kernel
theorem d9_87 : decode kd9 87 = .ok (.iconst 1, 1) := by decide +kernel
theorem d9_88 : decode kd9 88 = .ok (.iaload, 1) := by decide +kernel
theorem d9_89 : decode kd9 89 = .ok (.iconst 1, 1) := by decide +kernel
theorem d9_90 : decode kd9 90 = .ok (.iadd, 1) := by decide +kernel
theorem d9_91 : decode kd9 91 = .ok (.iastore, 1) := by decide +kernel
theorem d9_92 : decode kd9 92 = .ok (.goto 94, 3) := by decide +kernel
theorem d9_95 : decode kd9 95 = .ok (.iload 7, 2) := by decide +kernel
theorem d9_97 : decode kd9 97 = .ok (.bipush 6, 2) := by decide +kernel
theorem d9_99 : decode kd9 99 = .ok (.if_icmp .gt 67, 3) := by decide +kernel
theorem d9_102 : decode kd9 102 = .ok (.aload 5, 2) := by decide +kernel
theorem d9_104 : decode kd9 104 = .ok (.iconst 0, 1) := by decide +kernel
theorem d9_105 : decode kd9 105 = .ok (.iaload, 1) := by decide +kernel
theorem d9_106 : decode kd9 106 = .ok (.ifCond .le 80, 3) := by decide +kernel
theorem d9_109 : decode kd9 109 = .ok (.iload 6, 2) := by decide +kernel
theorem d9_111 : decode kd9 111 = .ok (.iconst 3, 1) := by decide +kernel
theorem d9_112 : decode kd9 112 = .ok (.iushr, 1) := by decide +kernel
theorem d9_113 : decode kd9 113 = .ok (.aload 5, 2) := by decide +kernel
theorem d9_115 : decode kd9 115 = .ok (.iconst 0, 1) := by decide +kernel
theorem d9_116 : decode kd9 116 = .ok (.iaload, 1) := by decide +kernel
theorem d9_117 : decode kd9 117 = .ok (.irem, 1) := by decide +kernel
theorem d9_118 : decode kd9 118 = .ok (.istore 8, 2) := by decide +kernel
theorem d9_120 : decode kd9 120 = .ok (.aload_n 3, 1) := by decide +kernel
theorem d9_121 : decode kd9 121 = .ok (.iload 8, 2) := by decide +kernel
theorem d9_123 : decode kd9 123 = .ok (.baload, 1) := by decide +kernel
theorem d9_124 : decode kd9 124 = .ok (.ifCond .eq 39, 3) := by decide +kernel
theorem d9_127 : decode kd9 127 = .ok (.aload 4, 2) := by decide +kernel
theorem d9_129 : decode kd9 129 = .ok (.iload 8, 2) := by decide +kernel
theorem d9_131 : decode kd9 131 = .ok (.iaload, 1) := by decide +kernel
theorem d9_132 : decode kd9 132 = .ok (.aload 5, 2) := by decide +kernel
theorem d9_134 : decode kd9 134 = .ok (.iconst 2, 1) := by decide +kernel
theorem d9_135 : decode kd9 135 = .ok (.iaload, 1) := by decide +kernel
theorem d9_136 : decode kd9 136 = .ok (.if_icmp .ne 27, 3) := by decide +kernel
theorem d9_139 : decode kd9 139 = .ok (.aload_n 0, 1) := by decide +kernel
theorem d9_140 : decode kd9 140 = .ok (.aload_n 2, 1) := by decide +kernel
theorem d9_141 : decode kd9 141 = .ok (.iload 8, 2) := by decide +kernel
theorem d9_143 : decode kd9 143 = .ok (.aaload, 1) := by decide +kernel
theorem d9_144 : decode kd9 144 = .ok (.lconst 1, 1) := by decide +kernel
theorem d9_145 : decode kd9 145 = .ok (.invokevirtual 35, 3) := by decide +kernel
theorem d9_148 : decode kd9 148 = .ok (.aload_n 3, 1) := by decide +kernel
theorem d9_149 : decode kd9 149 = .ok (.iload 8, 2) := by decide +kernel
theorem d9_151 : decode kd9 151 = .ok (.iconst 0, 1) := by decide +kernel
theorem d9_152 : decode kd9 152 = .ok (.bastore, 1) := by decide +kernel
theorem d9_153 : decode kd9 153 = .ok (.aload 5, 2) := by decide +kernel
theorem d9_155 : decode kd9 155 = .ok (.iconst 1, 1) := by decide +kernel
theorem d9_156 : decode kd9 156 = .ok (.aload 5, 2) := by decide +kernel
theorem d9_158 : decode kd9 158 = .ok (.iconst 1, 1) := by decide +kernel
theorem d9_159 : decode kd9 159 = .ok (.iaload, 1) := by decide +kernel
theorem d9_160 : decode kd9 160 = .ok (.iconst 1, 1) := by decide +kernel
theorem d9_161 : decode kd9 161 = .ok (.isub, 1) := by decide +kernel
theorem d9_162 : decode kd9 162 = .ok (.iastore, 1) := by decide +kernel
theorem d9_163 : decode kd9 163 = .ok (.goto 23, 3) := by decide +kernel
theorem d9_166 : decode kd9 166 = .ok (.aload_n 0, 1) := by decide +kernel
theorem d9_167 : decode kd9 167 = .ok (.lconst 1, 1) := by decide +kernel
theorem d9_168 : decode kd9 168 = .ok (.invokevirtual 39, 3) := by decide +kernel
theorem d9_171 : decode kd9 171 = .ok (.aload 5, 2) := by decide +kernel
theorem d9_173 : decode kd9 173 = .ok (.iconst 2, 1) := by decide +kernel
theorem d9_174 : decode kd9 174 = .ok (.aload 5, 2) := by decide +kernel
theorem d9_176 : decode kd9 176 = .ok (.iconst 2, 1) := by decide +kernel
theorem d9_177 : decode kd9 177 = .ok (.iaload, 1) := by decide +kernel
theorem d9_178 : decode kd9 178 = .ok (.iconst 1, 1) := by decide +kernel
theorem d9_179 : decode kd9 179 = .ok (.iadd, 1) := by decide +kernel
theorem d9_180 : decode kd9 180 = .ok (.iastore, 1) := by decide +kernel
theorem d9_181 : decode kd9 181 = .ok (.aload 5, 2) := by decide +kernel
theorem d9_183 : decode kd9 183 = .ok (.iconst 1, 1) := by decide +kernel
theorem d9_184 : decode kd9 184 = .ok (.iconst 0, 1) := by decide +kernel
theorem d9_185 : decode kd9 185 = .ok (.iastore, 1) := by decide +kernel
theorem d9_186 : decode kd9 186 = .ok (.aload_n 0, 1) := by decide +kernel
theorem d9_187 : decode kd9 187 = .ok (.invokevirtual 14, 3) := by decide +kernel
theorem d9_190 : decode kd9 190 = .ok (.aload 5, 2) := by decide +kernel
theorem d9_192 : decode kd9 192 = .ok (.iconst 1, 1) := by decide +kernel
theorem d9_193 : decode kd9 193 = .ok (.iaload, 1) := by decide +kernel
theorem d9_194 : decode kd9 194 = .ok (.if_icmp .ne 7, 3) := by decide +kernel
theorem d9_197 : decode kd9 197 = .ok (.iconst 1, 1) := by decide +kernel
theorem d9_198 : decode kd9 198 = .ok (.goto 4, 3) := by decide +kernel
theorem d9_201 : decode kd9 201 = .ok (.iconst 0, 1) := by decide +kernel
theorem d9_202 : decode kd9 202 = .ok (.ireturn, 1) := by decide +kernel
set_option maxRecDepth 65536 in
set_option maxHeartbeats 40000000 in
theorem ra_0 {p : Program} {l : Launch} {e : Env} {s : State} {m : MethodId} {below : List Frame} {meth : Method} {c : Code} {E0 T0 : State} {locs : List Loc} {Z : State} {a0 : Array Value} (hw : HW a0 Z) {o1 : Addr} {p3 : Int32} {q2 : Int64} {h0 : Heap} {n0 : Nat} (O0 : Old Z n0 h0)
    (hx : p.tables.exec = Jvm.exec) (hby : c.code = prog_41_method_9_code) (hml : c.maxLocals = 4) (hown : s.vm.findClass cn7 = some m.cls) (hret : meth.sig.returnType = none) (hlk : meth.locks = false) (hZ : Z.Warmed39 s.vm)
    (X0 : Stand p l e ({ frames := 1, cells := 0, slots := 0, locals := 14 } : Room) s m #[(.ref o1), (.long q2)] below meth c T0 locs 0 0) (e0 : T0.heap = h0) (N0 : Fr n0 locs) (pre0 : Go p e below T0 (mkF m 0 #[.val (.ref o1), .val (.long q2), .second, .unset] []) E0) (P1 : Fld Z h0 o1 cn7 "first" "I" (.int p3)) :
    (∃ (T' : State) (lc : List Loc), Stand p l e ({ frames := 1, cells := 0, slots := 0, locals := 14 } : Room) s m #[(.ref o1), (.long q2)] below meth c T' lc 0 0 ∧ Fr n0 lc ∧ T'.heap = h0 ∧ Go p e below T' (mkF m 5 #[.val (.ref o1), .val (.long q2), .second, .val (.int p3)] []) E0) := by
 obtain ⟨T1, X1, e1, st1⟩ := yag X0 hx hZ hown hby (w_26 hw) e0 P1 0 #[.val (.ref o1), .val (.long q2), .second, .unset] [] d8_0 d8_1 rfl
 have pre2 : Go p e below T1 (mkF m 5 #[.val (.ref o1), .val (.long q2), .second, .val (.int p3)] []) E0 := fun t k => by
  refine pre0 _ ?_
  refine st1 _ ?_
  refine yit X1 hx hby d8_4 (l' := #[.val (.ref o1), .val (.long q2), .second, .val (.int p3)]) rfl ?_
  exact k
 exact ⟨_, _, X1, N0, e1, pre2⟩
theorem pd1 : parseMethodDescriptor "()Z" = some ⟨[], some .boolean⟩ := by decide +kernel
theorem pd2 : parseMethodDescriptor "(J)V" = some ⟨[.long], none⟩ := by decide +kernel
set_option maxRecDepth 65536 in
set_option maxHeartbeats 40000000 in
theorem ra_1 {p : Program} {l : Launch} {e : Env} {s : State} {m : MethodId} {below : List Frame} {meth : Method} {c : Code} {E0 T0 : State} {locs : List Loc} {Z : State} {a0 : Array Value} (hw : HW a0 Z) {o6 : Addr} {p3 : Int32} {p4 : Int32} {p9 : Int32} {o1 : Addr} {o5 : Addr} {kc8 : ClassId} {q7 : Int64} {q2 : Int64} {vs : List Value} {h0 : Heap} {n0 : Nat} (O0 : Old Z n0 h0)
    (hx : p.tables.exec = Jvm.exec) (hby : c.code = prog_41_method_9_code) (hml : c.maxLocals = 4) (hown : s.vm.findClass cn7 = some m.cls) (hret : meth.sig.returnType = none) (hlk : meth.locks = false) (hZ : Z.Warmed39 s.vm)
    (X0 : Stand p l e ({ frames := 1, cells := 0, slots := 0, locals := 14 } : Room) s m #[(.ref o1), (.long q2)] below meth c T0 locs 0 0) (e0 : T0.heap = h0) (N0 : Fr n0 locs) (pre0 : Go p e below T0 (mkF m 5 #[.val (.ref o1), .val (.long q2), .second, .val (.int p3)] []) E0) (g_o6 : n0 ≤ o6) (hp0 : p3 < p4) (hp1 : ¬ (p3 < (0 : Int32))) (hp2 : p3 < p9) (P1 : Fld Z h0 o1 cn7 "end" "I" (.int p4)) (P2 : Fld Z h0 o1 cn7 "slots" cn3 (.ref o5)) (P3 : Arv Z h0 o5 kc8 (.object cn6) p9 vs .null) (P4 : Exa Z h0 o6 cn6) (P5 : Fld Z h0 o6 cn6 "removed" "J" (.long q7)) (hrd : vs.getD p3.toNatClampNeg .null = .ref o6) :
    (∃ (T' : State) (lc : List Loc), (q7 = (9223372036854775807 : Int64)) ∧ Stand p l e ({ frames := 1, cells := 0, slots := 0, locals := 14 } : Room) s m #[(.ref o1), (.long q2)] below meth c T' lc 0 0 ∧ Fr n0 lc ∧ Keep h0 T'.heap [o6] ∧ (Exa Z T'.heap o6 cn6) ∧ (Fld Z T'.heap o6 cn6 "removed" "J" (.long q2)) ∧ Go p e below T' (mkF m 5 #[.val (.ref o1), .val (.long q2), .second, .val (.int (p3 + (1 : Int32)))] []) E0)
    ∨ (∃ (T' : State) (lc : List Loc), (¬ (q7 = (9223372036854775807 : Int64))) ∧ Stand p l e ({ frames := 1, cells := 0, slots := 0, locals := 14 } : Room) s m #[(.ref o1), (.long q2)] below meth c T' lc 0 0 ∧ Fr n0 lc ∧ T'.heap = h0 ∧ Go p e below T' (mkF m 5 #[.val (.ref o1), .val (.long q2), .second, .val (.int (p3 + (1 : Int32)))] []) E0) := by
 obtain ⟨T1, X1, e1, st1⟩ := yag X0 hx hZ hown hby (w_24 hw) e0 P1 6 #[.val (.ref o1), .val (.long q2), .second, .val (.int p3)] [(.int p3)] d8_6 d8_7 rfl
 obtain ⟨T2, X2, e2, st2⟩ := yag X1 hx hZ hown hby (own_w hw 11 rfl) e1 P2 13 #[.val (.ref o1), .val (.long q2), .second, .val (.int p3)] [] d8_13 d8_14 rfl
 obtain ⟨cl3, Ar3, qa3, Sa3, Na3, Ha3, Ga3⟩ := id (P3)
 have hin3 := inb_of (j := p3) Sa3 ⟨hp1, hp2⟩
 have hat3 : cl3.slots[(p3).toNatClampNeg]? = some (.ref o6) := Has.at Ha3 hin3 hrd
 obtain ⟨_, T4, L4, X4, hQ4, st4⟩ := yv X2 hx hZ hown hby hml (y := yn1) (own_w hw 85 rfl) (own_w hw 86 rfl) (own_w hw 88 rfl) (own_w hw 87 rfl) (own_w hw 89 rfl) (own_w hw 36 rfl) e2 P4 [] [] (rm2 l Z a0 hw [] o6 q7 h0 n0 O0 g_o6 P5) 19 #[.val (.ref o1), .val (.long q2), .second, .val (.int p3)] rfl d8_19 (lenOf pd1 rfl) 0 0 0
 have pre5 : Go p e below T2 (mkF m 19 #[.val (.ref o1), .val (.long q2), .second, .val (.int p3)] [(.ref o6)]) E0 := fun t k => by
  refine pre0 _ ?_
  refine yin X0 hx hby d8_5 rfl ?_
  refine st1 _ ?_
  refine yno X1 hx hby d8_10 (tlt hp0).2.1 ?_
  refine st2 _ ?_
  refine yin X2 hx hby d8_17 rfl ?_
  refine X2.aaload hx (j := p3) (v := (.ref o6)) (by rw [e2]; exact Ar3.1) (State.isArrayOf_alike hZ.alike Ar3.2.1) rfl Ar3.2.2 hin3 hat3 (g := (mkF m 18 #[.val (.ref o1), .val (.long q2), .second, .val (.int p3)] [(.int p3), (.ref o5)])) rfl rfl (hb hby d8_18) _ ?_
  exact k
 rcases hQ4 with ⟨hc6, rfl, Nq7, e8⟩ | ⟨hc9, rfl, Nq10, e11⟩
 ·
  have N4 := Fr.app N0 Nq7
  obtain ⟨T12, X12, e12, st12⟩ := yag X4 hx hZ hown hby (own_w hw 11 rfl) e8 P2 25 #[.val (.ref o1), .val (.long q2), .second, .val (.int p3)] [] d8_25 d8_26 rfl
  obtain ⟨cl13, Ar13, qa13, Sa13, Na13, Ha13, Ga13⟩ := id (P3)
  have hin13 := inb_of (j := p3) Sa13 ⟨hp1, hp2⟩
  have hat13 : cl13.slots[(p3).toNatClampNeg]? = some (.ref o6) := Has.at Ha13 hin13 hrd
  obtain ⟨_, T14, L14, X14, hQ14, st14⟩ := yv X12 hx hZ hown hby hml (y := yn2) (own_w hw 95 rfl) (own_w hw 96 rfl) (own_w hw 98 rfl) (own_w hw 97 rfl) (own_w hw 99 rfl) (own_w hw 36 rfl) e12 P4 [(.long q2)] [] (rm3 l Z a0 hw [] o6 q7 q2 h0 n0 O0 g_o6 P4 P5) 32 #[.val (.ref o1), .val (.long q2), .second, .val (.int p3)] rfl d8_32 (lenOf pd2 rfl) 0 0 0
  obtain ⟨rfl, Nq15, K16, f17, f18⟩ := hQ14
  have N14 := Fr.app N4 Nq15
  have pre19 : Go p e below T14 (mkF m 5 #[.val (.ref o1), .val (.long q2), .second, .val (.int (p3 + (1 : Int32)))] []) E0 := fun t k => by
   refine pre5 _ ?_
   refine st4 _ ?_
   refine yfn X4 hx hby d8_22 ((if0 _ _).trans (feq (by decide : ¬ ((1 : Int32) = (0 : Int32)))).1) ?_
   refine st12 _ ?_
   refine yin X12 hx hby d8_29 rfl ?_
   refine X12.aaload hx (j := p3) (v := (.ref o6)) (by rw [e12]; exact Ar13.1) (State.isArrayOf_alike hZ.alike Ar13.2.1) rfl Ar13.2.2 hin13 hat13 (g := (mkF m 30 #[.val (.ref o1), .val (.long q2), .second, .val (.int p3)] [(.int p3), (.ref o5)])) rfl rfl (hb hby d8_30) _ ?_
   refine XS.lloadN X12.here hx rfl (hb hby d8_31) rfl ?_
   refine st14 _ ?_
   refine XS.iinc X14.here hx rfl (hb hby d8_35) rfl (l' := #[.val (.ref o1), .val (.long q2), .second, .val (.int (p3 + (1 : Int32)))]) rfl ?_
   refine ygo X14 hx hby 38 5 rfl d8_38 (by decide) ?_
   exact k
  have KL : Keep h0 T14.heap [o6] := ((Keep.refl h0 [o6]).trans K16 (allS (Or.inl (List.mem_of_getElem? (i := 0) rfl)) all0))
  exact (Or.inl ⟨_, _, hc6, X14, N14, KL, f17, f18, pre19⟩)
 ·
  have N4 := Fr.app N0 Nq10
  have pre20 : Go p e below T4 (mkF m 5 #[.val (.ref o1), .val (.long q2), .second, .val (.int (p3 + (1 : Int32)))] []) E0 := fun t k => by
   refine pre5 _ ?_
   refine st4 _ ?_
   refine XS.ifYes X4.here hx rfl (pc0 := 22) (pc' := 35) rfl (hb hby d8_22) rfl ((if0 _ _).trans (teq (by decide : (0 : Int32) = (0 : Int32))).1) (by decide) (by decide) ?_
   refine XS.iinc X4.here hx rfl (hb hby d8_35) rfl (l' := #[.val (.ref o1), .val (.long q2), .second, .val (.int (p3 + (1 : Int32)))]) rfl ?_
   refine ygo X4 hx hby 38 5 rfl d8_38 (by decide) ?_
   exact k
  exact (Or.inr ⟨_, _, hc9, X4, N4, e11, pre20⟩)
set_option maxRecDepth 65536 in
set_option maxHeartbeats 40000000 in
theorem ra_2 {p : Program} {l : Launch} {e : Env} {s : State} {m : MethodId} {below : List Frame} {meth : Method} {c : Code} {E0 T0 : State} {locs : List Loc} {Z : State} {a0 : Array Value} (hw : HW a0 Z) {p3 : Int32} {p4 : Int32} {o1 : Addr} {q2 : Int64} {h0 : Heap} {n0 : Nat} (O0 : Old Z n0 h0)
    (hx : p.tables.exec = Jvm.exec) (hby : c.code = prog_41_method_9_code) (hml : c.maxLocals = 4) (hown : s.vm.findClass cn7 = some m.cls) (hret : meth.sig.returnType = none) (hlk : meth.locks = false) (hZ : Z.Warmed39 s.vm)
    (X0 : Stand p l e ({ frames := 1, cells := 0, slots := 0, locals := 14 } : Room) s m #[(.ref o1), (.long q2)] below meth c T0 locs 0 0) (e0 : T0.heap = h0) (N0 : Fr n0 locs) (pre0 : Go p e below T0 (mkF m 5 #[.val (.ref o1), .val (.long q2), .second, .val (.int p3)] []) E0) (hp0 : ¬ (p3 < p4)) (P1 : Fld Z h0 o1 cn7 "end" "I" (.int p4)) :
    (∃ (T' : State) (lc : List Loc), Stand p l e ({ frames := 1, cells := 0, slots := 0, locals := 14 } : Room) s m #[(.ref o1), (.long q2)] below meth c T' lc 0 0 ∧ Fr n0 lc ∧ T'.heap = h0 ∧ Go p e below T' (mkF m 41 #[.val (.ref o1), .val (.long q2), .second, .val (.int p3)] []) E0) := by
 obtain ⟨T1, X1, e1, st1⟩ := yag X0 hx hZ hown hby (w_24 hw) e0 P1 6 #[.val (.ref o1), .val (.long q2), .second, .val (.int p3)] [(.int p3)] d8_6 d8_7 rfl
 have pre2 : Go p e below T1 (mkF m 41 #[.val (.ref o1), .val (.long q2), .second, .val (.int p3)] []) E0 := fun t k => by
  refine pre0 _ ?_
  refine yin X0 hx hby d8_5 rfl ?_
  refine st1 _ ?_
  refine yye X1 hx hby 10 41 rfl d8_10 (flt hp0).2.1 (by decide) ?_
  exact k
 exact ⟨_, _, X1, N0, e1, pre2⟩
theorem sn0 {a0 : Array Value} {Z : State} (hw : HW a0 Z) : RoadKit.slotOf Z cn7 "low" "I" ≠ RoadKit.slotOf Z cn7 "slots" cn3 := slot_ne (Or.inl (own_w hw 78 rfl)) (Or.inl (own_w hw 12 rfl)) (by decide) (t := .int) (t' := (.array (.object cn6))) (by decide) (by decide)
theorem sn1 {a0 : Array Value} {Z : State} (hw : HW a0 Z) : RoadKit.slotOf Z cn7 "first" "I" ≠ RoadKit.slotOf Z cn7 "slots" cn3 := slot_ne (Or.inl (own_w hw 27 rfl)) (Or.inl (own_w hw 12 rfl)) (by decide) (t := .int) (t' := (.array (.object cn6))) (by decide) (by decide)
theorem sn2 {a0 : Array Value} {Z : State} (hw : HW a0 Z) : RoadKit.slotOf Z cn7 "first" "I" ≠ RoadKit.slotOf Z cn7 "low" "I" := slot_ne (Or.inl (own_w hw 27 rfl)) (Or.inl (own_w hw 78 rfl)) (by decide) (t := .int) (t' := .int) (by decide) (by decide)
theorem sn3 {a0 : Array Value} {Z : State} (hw : HW a0 Z) : RoadKit.slotOf Z cn7 "end" "I" ≠ RoadKit.slotOf Z cn7 "slots" cn3 := slot_ne (Or.inl (own_w hw 25 rfl)) (Or.inl (own_w hw 12 rfl)) (by decide) (t := .int) (t' := (.array (.object cn6))) (by decide) (by decide)
theorem sn4 {a0 : Array Value} {Z : State} (hw : HW a0 Z) : RoadKit.slotOf Z cn7 "end" "I" ≠ RoadKit.slotOf Z cn7 "low" "I" := slot_ne (Or.inl (own_w hw 25 rfl)) (Or.inl (own_w hw 78 rfl)) (by decide) (t := .int) (t' := .int) (by decide) (by decide)
theorem sn5 {a0 : Array Value} {Z : State} (hw : HW a0 Z) : RoadKit.slotOf Z cn7 "end" "I" ≠ RoadKit.slotOf Z cn7 "first" "I" := slot_ne (Or.inl (own_w hw 25 rfl)) (Or.inl (own_w hw 27 rfl)) (by decide) (t := .int) (t' := .int) (by decide) (by decide)
theorem sn6 {a0 : Array Value} {Z : State} (hw : HW a0 Z) : RoadKit.slotOf Z cn7 "removed" "I" ≠ RoadKit.slotOf Z cn7 "slots" cn3 := slot_ne (Or.inl (own_w hw 29 rfl)) (Or.inl (own_w hw 12 rfl)) (by decide) (t := .int) (t' := (.array (.object cn6))) (by decide) (by decide)
theorem sn7 {a0 : Array Value} {Z : State} (hw : HW a0 Z) : RoadKit.slotOf Z cn7 "removed" "I" ≠ RoadKit.slotOf Z cn7 "low" "I" := slot_ne (Or.inl (own_w hw 29 rfl)) (Or.inl (own_w hw 78 rfl)) (by decide) (t := .int) (t' := .int) (by decide) (by decide)
theorem sn8 {a0 : Array Value} {Z : State} (hw : HW a0 Z) : RoadKit.slotOf Z cn7 "removed" "I" ≠ RoadKit.slotOf Z cn7 "first" "I" := slot_ne (Or.inl (own_w hw 29 rfl)) (Or.inl (own_w hw 27 rfl)) (by decide) (t := .int) (t' := .int) (by decide) (by decide)
theorem sn9 {a0 : Array Value} {Z : State} (hw : HW a0 Z) : RoadKit.slotOf Z cn7 "removed" "I" ≠ RoadKit.slotOf Z cn7 "end" "I" := slot_ne (Or.inl (own_w hw 29 rfl)) (Or.inl (own_w hw 25 rfl)) (by decide) (t := .int) (t' := .int) (by decide) (by decide)
theorem sn10 {a0 : Array Value} {Z : State} (hw : HW a0 Z) : RoadKit.slotOf Z cn7 "addsFirst" "Z" ≠ RoadKit.slotOf Z cn7 "slots" cn3 := slot_ne (Or.inl (own_w hw 75 rfl)) (Or.inl (own_w hw 12 rfl)) (by decide) (t := .boolean) (t' := (.array (.object cn6))) (by decide) (by decide)
theorem sn11 {a0 : Array Value} {Z : State} (hw : HW a0 Z) : RoadKit.slotOf Z cn7 "addsFirst" "Z" ≠ RoadKit.slotOf Z cn7 "low" "I" := slot_ne (Or.inl (own_w hw 75 rfl)) (Or.inl (own_w hw 78 rfl)) (by decide) (t := .boolean) (t' := .int) (by decide) (by decide)
theorem sn12 {a0 : Array Value} {Z : State} (hw : HW a0 Z) : RoadKit.slotOf Z cn7 "addsFirst" "Z" ≠ RoadKit.slotOf Z cn7 "first" "I" := slot_ne (Or.inl (own_w hw 75 rfl)) (Or.inl (own_w hw 27 rfl)) (by decide) (t := .boolean) (t' := .int) (by decide) (by decide)
theorem sn13 {a0 : Array Value} {Z : State} (hw : HW a0 Z) : RoadKit.slotOf Z cn7 "addsFirst" "Z" ≠ RoadKit.slotOf Z cn7 "end" "I" := slot_ne (Or.inl (own_w hw 75 rfl)) (Or.inl (own_w hw 25 rfl)) (by decide) (t := .boolean) (t' := .int) (by decide) (by decide)
theorem sn14 {a0 : Array Value} {Z : State} (hw : HW a0 Z) : RoadKit.slotOf Z cn7 "addsFirst" "Z" ≠ RoadKit.slotOf Z cn7 "removed" "I" := slot_ne (Or.inl (own_w hw 75 rfl)) (Or.inl (own_w hw 29 rfl)) (by decide) (t := .boolean) (t' := .int) (by decide) (by decide)
theorem sn15 {a0 : Array Value} {Z : State} (hw : HW a0 Z) : RoadKit.slotOf Z cn7 "end" "I" ≠ RoadKit.slotOf Z cn7 "removed" "I" := slot_ne (Or.inl (own_w hw 25 rfl)) (Or.inl (own_w hw 29 rfl)) (by decide) (t := .int) (t' := .int) (by decide) (by decide)
theorem sn16 {a0 : Array Value} {Z : State} (hw : HW a0 Z) : RoadKit.slotOf Z cn7 "end" "I" ≠ RoadKit.slotOf Z cn7 "addsFirst" "Z" := slot_ne (Or.inl (own_w hw 25 rfl)) (Or.inl (own_w hw 75 rfl)) (by decide) (t := .int) (t' := .boolean) (by decide) (by decide)
theorem sn17 {a0 : Array Value} {Z : State} (hw : HW a0 Z) : RoadKit.slotOf Z cn7 "first" "I" ≠ RoadKit.slotOf Z cn7 "end" "I" := slot_ne (Or.inl (own_w hw 27 rfl)) (Or.inl (own_w hw 25 rfl)) (by decide) (t := .int) (t' := .int) (by decide) (by decide)
theorem sn18 {a0 : Array Value} {Z : State} (hw : HW a0 Z) : RoadKit.slotOf Z cn7 "first" "I" ≠ RoadKit.slotOf Z cn7 "removed" "I" := slot_ne (Or.inl (own_w hw 27 rfl)) (Or.inl (own_w hw 29 rfl)) (by decide) (t := .int) (t' := .int) (by decide) (by decide)
theorem sn19 {a0 : Array Value} {Z : State} (hw : HW a0 Z) : RoadKit.slotOf Z cn7 "first" "I" ≠ RoadKit.slotOf Z cn7 "addsFirst" "Z" := slot_ne (Or.inl (own_w hw 27 rfl)) (Or.inl (own_w hw 75 rfl)) (by decide) (t := .int) (t' := .boolean) (by decide) (by decide)
theorem sn20 {a0 : Array Value} {Z : State} (hw : HW a0 Z) : RoadKit.slotOf Z cn7 "low" "I" ≠ RoadKit.slotOf Z cn7 "first" "I" := slot_ne (Or.inl (own_w hw 78 rfl)) (Or.inl (own_w hw 27 rfl)) (by decide) (t := .int) (t' := .int) (by decide) (by decide)
theorem sn21 {a0 : Array Value} {Z : State} (hw : HW a0 Z) : RoadKit.slotOf Z cn7 "low" "I" ≠ RoadKit.slotOf Z cn7 "end" "I" := slot_ne (Or.inl (own_w hw 78 rfl)) (Or.inl (own_w hw 25 rfl)) (by decide) (t := .int) (t' := .int) (by decide) (by decide)
theorem sn22 {a0 : Array Value} {Z : State} (hw : HW a0 Z) : RoadKit.slotOf Z cn7 "low" "I" ≠ RoadKit.slotOf Z cn7 "removed" "I" := slot_ne (Or.inl (own_w hw 78 rfl)) (Or.inl (own_w hw 29 rfl)) (by decide) (t := .int) (t' := .int) (by decide) (by decide)
theorem sn23 {a0 : Array Value} {Z : State} (hw : HW a0 Z) : RoadKit.slotOf Z cn7 "low" "I" ≠ RoadKit.slotOf Z cn7 "addsFirst" "Z" := slot_ne (Or.inl (own_w hw 78 rfl)) (Or.inl (own_w hw 75 rfl)) (by decide) (t := .int) (t' := .boolean) (by decide) (by decide)
theorem sn24 {a0 : Array Value} {Z : State} (hw : HW a0 Z) : RoadKit.slotOf Z cn7 "removed" "I" ≠ RoadKit.slotOf Z cn7 "addsFirst" "Z" := slot_ne (Or.inl (own_w hw 29 rfl)) (Or.inl (own_w hw 75 rfl)) (by decide) (t := .int) (t' := .boolean) (by decide) (by decide)
theorem sn25 {a0 : Array Value} {Z : State} (hw : HW a0 Z) : RoadKit.slotOf Z cn7 "slots" cn3 ≠ RoadKit.slotOf Z cn7 "low" "I" := slot_ne (Or.inl (own_w hw 12 rfl)) (Or.inl (own_w hw 78 rfl)) (by decide) (t := (.array (.object cn6))) (t' := .int) (by decide) (by decide)
theorem sn26 {a0 : Array Value} {Z : State} (hw : HW a0 Z) : RoadKit.slotOf Z cn7 "slots" cn3 ≠ RoadKit.slotOf Z cn7 "first" "I" := slot_ne (Or.inl (own_w hw 12 rfl)) (Or.inl (own_w hw 27 rfl)) (by decide) (t := (.array (.object cn6))) (t' := .int) (by decide) (by decide)
theorem sn27 {a0 : Array Value} {Z : State} (hw : HW a0 Z) : RoadKit.slotOf Z cn7 "slots" cn3 ≠ RoadKit.slotOf Z cn7 "end" "I" := slot_ne (Or.inl (own_w hw 12 rfl)) (Or.inl (own_w hw 25 rfl)) (by decide) (t := (.array (.object cn6))) (t' := .int) (by decide) (by decide)
theorem sn28 {a0 : Array Value} {Z : State} (hw : HW a0 Z) : RoadKit.slotOf Z cn7 "slots" cn3 ≠ RoadKit.slotOf Z cn7 "removed" "I" := slot_ne (Or.inl (own_w hw 12 rfl)) (Or.inl (own_w hw 29 rfl)) (by decide) (t := (.array (.object cn6))) (t' := .int) (by decide) (by decide)
theorem sn29 {a0 : Array Value} {Z : State} (hw : HW a0 Z) : RoadKit.slotOf Z cn7 "slots" cn3 ≠ RoadKit.slotOf Z cn7 "addsFirst" "Z" := slot_ne (Or.inl (own_w hw 12 rfl)) (Or.inl (own_w hw 75 rfl)) (by decide) (t := (.array (.object cn6))) (t' := .boolean) (by decide) (by decide)
def l410_0 (o1 : Addr) (q2 : Int64) (p3 : Int32) : Array Slot := #[.val (.ref o1), .val (.long q2), .second, .val (.int p3)]
set_option maxRecDepth 65536 in
set_option maxHeartbeats 40000000 in
theorem ra_3 {p : Program} {l : Launch} {e : Env} {s : State} {m : MethodId} {below : List Frame} {meth : Method} {c : Code} {E0 T0 : State} {locs : List Loc} {Z : State} {a0 : Array Value} (hw : HW a0 Z) {w1 : Addr} {kw1 : ClassId} (G : GW Z w1 kw1) {o1 : Addr} {o5 : Addr} {p6 : Int32} {p7 : Int32} {p8 : Int32} {p9 : Int32} {p10 : Int32} {q2 : Int64} {p3 : Int32} {h0 : Heap} {n0 : Nat} (O0 : Old Z n0 h0)
    (hx : p.tables.exec = Jvm.exec) (hby : c.code = prog_41_method_9_code) (hml : c.maxLocals = 4) (hown : s.vm.findClass cn7 = some m.cls) (hret : meth.sig.returnType = none) (hlk : meth.locks = false) (hZ : Z.Warmed39 s.vm)
    (X0 : Stand p l e ({ frames := 1, cells := 0, slots := 0, locals := 14 } : Room) s m #[(.ref o1), (.long q2)] below meth c T0 locs 0 0) (e0 : T0.heap = h0) (N0 : Fr n0 locs) (pre0 : Go p e below T0 (mkF m 41 (l410_0 o1 q2 p3) []) E0) (g_o1 : n0 ≤ o1) (P0 : Exa Z h0 o1 cn7) (P1 : Fld Z h0 o1 cn7 "slots" cn3 (.ref o5)) (P2 : Fld Z h0 o1 cn7 "low" "I" (.int p6)) (P3 : Fld Z h0 o1 cn7 "first" "I" (.int p7)) (P4 : Fld Z h0 o1 cn7 "end" "I" (.int p8)) (P5 : Fld Z h0 o1 cn7 "removed" "I" (.int p9)) (P6 : Fld Z h0 o1 cn7 "addsFirst" "Z" (.int p10)) :
    (∃ (s₂ : State) (L : List Loc), Steps p.tables e below E0 s₂ ∧ s₂.status = .running ∧ Ended s₂ below (.returned none) ∧ Fr n0 L ∧ FrameEnd s (.returned none) s₂ L 0 0 ∧ Keep h0 s₂.heap [o1] ∧ (Exa Z s₂.heap o1 cn7) ∧ (Fld Z s₂.heap o1 cn7 "addsFirst" "Z" (.int 0)) ∧ (Fld Z s₂.heap o1 cn7 "end" "I" (.int 0)) ∧ (Fld Z s₂.heap o1 cn7 "first" "I" (.int 0)) ∧ (Fld Z s₂.heap o1 cn7 "low" "I" (.int 0)) ∧ (Fld Z s₂.heap o1 cn7 "removed" "I" (.int 0)) ∧ (Fld Z s₂.heap o1 cn7 "slots" cn3 (.ref w1))) := by
 obtain ⟨S_w1, A_w1⟩ := id G
 obtain ⟨T1, X1, e1, st1⟩ := getS2 X0 hx hZ hown (host := "") (Or.inl (own_w hw 9 rfl)) Via.refl e0 (S_w1.ext O0.2) (g := (mkF m 42 (l410_0 o1 q2 p3) [(.ref o1)])) rfl (hb hby d8_42)
 obtain ⟨T2, h2, X2, e2, W2, st2⟩ := yp X1 hx hZ hown hby (own_w hw 11 rfl) e1 P1 P0 (own_w hw 12 rfl) (w_1 hw) (ty := (.array (.object cn6))) (v := (.ref w1)) (by decide) rfl rfl 45 (l410_0 o1 q2 p3) [] d8_45
 have N2 := Fr.snoc X2 N0 g_o1
 have Fw2 := P1.same W2
 have f3 := (P2.other W2 (Or.inr (sn0 hw)))
 have f4 := (P0.wr W2)
 obtain ⟨T5, h5, X5, e5, W5, st5⟩ := yp X2 hx hZ hown hby (own_w hw 77 rfl) e2 f3 f4 (own_w hw 78 rfl) (w_1 hw) (ty := .int) (v := (.int 0)) (by decide) rfl rfl 50 (l410_0 o1 q2 p3) [] d8_50
 have N5 := Fr.snoc X5 N2 g_o1
 have Fw5 := f3.same W5
 have f6 := ((P3.other W2 (Or.inr (sn1 hw))).other W5 (Or.inr (sn2 hw)))
 have f7 := (f4.wr W5)
 obtain ⟨T8, h8, X8, e8, W8, st8⟩ := yp X5 hx hZ hown hby (w_26 hw) e5 f6 f7 (own_w hw 27 rfl) (w_1 hw) (ty := .int) (v := (.int 0)) (by decide) rfl rfl 55 (l410_0 o1 q2 p3) [] d8_55
 have N8 := Fr.snoc X8 N5 g_o1
 have Fw8 := f6.same W8
 have f9 := (((P4.other W2 (Or.inr (sn3 hw))).other W5 (Or.inr (sn4 hw))).other W8 (Or.inr (sn5 hw)))
 have f10 := (f7.wr W8)
 obtain ⟨T11, h11, X11, e11, W11, st11⟩ := yp X8 hx hZ hown hby (w_24 hw) e8 f9 f10 (own_w hw 25 rfl) (w_1 hw) (ty := .int) (v := (.int 0)) (by decide) rfl rfl 60 (l410_0 o1 q2 p3) [] d8_60
 have N11 := Fr.snoc X11 N8 g_o1
 have Fw11 := f9.same W11
 have f12 := ((((P5.other W2 (Or.inr (sn6 hw))).other W5 (Or.inr (sn7 hw))).other W8 (Or.inr (sn8 hw))).other W11 (Or.inr (sn9 hw)))
 have f13 := (f10.wr W11)
 obtain ⟨T14, h14, X14, e14, W14, st14⟩ := yp X11 hx hZ hown hby (own_w hw 28 rfl) e11 f12 f13 (own_w hw 29 rfl) (w_1 hw) (ty := .int) (v := (.int 0)) (by decide) rfl rfl 65 (l410_0 o1 q2 p3) [] d8_65
 have N14 := Fr.snoc X14 N11 g_o1
 have Fw14 := f12.same W14
 have f15 := (((((P6.other W2 (Or.inr (sn10 hw))).other W5 (Or.inr (sn11 hw))).other W8 (Or.inr (sn12 hw))).other W11 (Or.inr (sn13 hw))).other W14 (Or.inr (sn14 hw)))
 have f16 := (f13.wr W14)
 obtain ⟨T17, h17, X17, e17, W17, st17⟩ := putFN X14 hx hZ hown (own_w hw 74 rfl) Via.refl e14 f15 f16 (Or.inl (own_w hw 75 rfl)) (w_1 hw) (ty := .boolean) (v' := (.int 0)) (by decide) rfl (by decide) (g := (mkF m 70 (l410_0 o1 q2 p3) [(.int 0), (.ref o1)])) rfl rfl (hb hby d8_70)
 have N17 := Fr.snoc X17 N14 g_o1
 have Fw17 := f15.same W17
 obtain ⟨fs, hr, hrun, hended, hW, hsame⟩ := X17.leave (v := none) (fun _ => rfl)
 have KL : Keep h0 h17 [o1] := (((((((Keep.refl h0 [o1]).wr W2 (Or.inl (List.mem_of_getElem? (i := 0) rfl))).wr W5 (Or.inl (List.mem_of_getElem? (i := 0) rfl))).wr W8 (Or.inl (List.mem_of_getElem? (i := 0) rfl))).wr W11 (Or.inl (List.mem_of_getElem? (i := 0) rfl))).wr W14 (Or.inl (List.mem_of_getElem? (i := 0) rfl))).wr W17 (Or.inl (List.mem_of_getElem? (i := 0) rfl)))
 have f18 := (f16.wr W17)
 have f19 := ((Fw11.other W14 (Or.inr (sn15 hw))).other W17 (Or.inr (sn16 hw)))
 have f20 := (((Fw8.other W11 (Or.inr (sn17 hw))).other W14 (Or.inr (sn18 hw))).other W17 (Or.inr (sn19 hw)))
 have f21 := ((((Fw5.other W8 (Or.inr (sn20 hw))).other W11 (Or.inr (sn21 hw))).other W14 (Or.inr (sn22 hw))).other W17 (Or.inr (sn23 hw)))
 have f22 := (Fw14.other W17 (Or.inr (sn24 hw)))
 have f23 := (((((Fw2.other W5 (Or.inr (sn25 hw))).other W8 (Or.inr (sn26 hw))).other W11 (Or.inr (sn27 hw))).other W14 (Or.inr (sn28 hw))).other W17 (Or.inr (sn29 hw)))
 refine ⟨_, _, pre0 _ ?_, hrun, hended, N17, ⟨⟨_, rfl⟩, hW, hsame.mono (by decide) (by decide)⟩, (by show _; rw [show (T17.setFrames fs).heap = _ from e17]; exact KL), (by show _; rw [show (T17.setFrames fs).heap = _ from e17]; exact f18), (by show _; rw [show (T17.setFrames fs).heap = _ from e17]; exact Fw17), (by show _; rw [show (T17.setFrames fs).heap = _ from e17]; exact f19), (by show _; rw [show (T17.setFrames fs).heap = _ from e17]; exact f20), (by show _; rw [show (T17.setFrames fs).heap = _ from e17]; exact f21), (by show _; rw [show (T17.setFrames fs).heap = _ from e17]; exact f22), (by show _; rw [show (T17.setFrames fs).heap = _ from e17]; exact f23)⟩
 show Steps p.tables e below (T0.setTop (mkF m 41 (l410_0 o1 q2 p3) [])) _
 refine yan X0 hx hby d8_41 rfl rfl ?_
 refine st1 _ ?_
 refine st2 _ ?_
 refine yan X2 hx hby d8_48 rfl rfl ?_
 refine yic X2 hx hby d8_49 ?_
 refine st5 _ ?_
 refine yan X5 hx hby d8_53 rfl rfl ?_
 refine yic X5 hx hby d8_54 ?_
 refine st8 _ ?_
 refine yan X8 hx hby d8_58 rfl rfl ?_
 refine yic X8 hx hby d8_59 ?_
 refine st11 _ ?_
 refine yan X11 hx hby d8_63 rfl rfl ?_
 refine yic X11 hx hby d8_64 ?_
 refine st14 _ ?_
 refine yan X14 hx hby d8_68 rfl rfl ?_
 refine yic X14 hx hby d8_69 ?_
 refine st17 _ ?_
 show Steps p.tables e below (T17.setTop (mkF m 73 (l410_0 o1 q2 p3) [])) _
 exact X17.returnOut hx hret (hb hby d8_73) hr
theorem ra_loop {p : Program} {l : Launch} {e : Env} {s : State} {m : MethodId} {below : List Frame} {meth : Method} {c : Code} {E0 : State} {Z : State} {a0 : Array Value} (hw : HW a0 Z) {o1 sa : Addr} {q2 : Int64} {ka : ClassId} {vs : List Value} {n n0 : Nat}
    (hx : p.tables.exec = Jvm.exec) (hby : c.code = prog_41_method_9_code) (hml : c.maxLocals = 4) (hown : s.vm.findClass cn7 = some m.cls) (hret : meth.sig.returnType = none) (hlk : meth.locks = false) (hZ : Z.Warmed39 s.vm) (hn : n ≤ 64) :
    ∀ (rest : List Addr) (i : Nat) (mk : Addr → Int64) (h0 : Heap) (T0 : State) (locs : List Loc), Old Z n0 h0 → Stand p l e ({ frames := 1, cells := 0, slots := 0, locals := 14 } : Room) s m #[(.ref o1), (.long q2)] below meth c T0 locs 0 0 → T0.heap = h0 → Fr n0 locs →
      Go p e below T0 (mkF m 5 #[.val (.ref o1), .val (.long q2), .second, .val (.int (N32 i))] []) E0 → Exa Z h0 o1 cn7 → Fld Z h0 o1 cn7 "end" "I" (.int (N32 (i + rest.length))) → Fld Z h0 o1 cn7 "slots" cn3 (.ref sa) →
      Arv Z h0 sa ka (.object cn6) (N32 n) vs .null → (n = 0 ∨ Exa Z h0 sa cn3) → i + rest.length ≤ n → (∀ j (hj : j < rest.length), vs.getD (i + j) .null = .ref rest[j]) → rest.Nodup → CF Z h0 n0 rest mk →
      ∃ (T' : State) (lc : List Loc), Stand p l e ({ frames := 1, cells := 0, slots := 0, locals := 14 } : Room) s m #[(.ref o1), (.long q2)] below meth c T' lc 0 0 ∧ Fr n0 lc ∧ Keep h0 T'.heap rest ∧ CF Z T'.heap n0 rest (fun c => if mk c = MX then q2 else mk c) ∧
        Go p e below T' (mkF m 41 #[.val (.ref o1), .val (.long q2), .second, .val (.int (N32 (i + rest.length)))] []) E0 := by
  intro rest
  induction rest with
  | nil =>
    intro i mk h0 T0 locs O0 X0 e0 N0 pre0 PE Pe Ps PA PX hle hrd hnd hcf
    obtain ⟨T', lc, X', N', e', pre'⟩ := ra_2 hw O0 hx hby hml hown hret hlk hZ X0 e0 N0 pre0 (fun q => absurd ((n_lt (by simp at hle; omega) (by simp at hle; simp; omega)).mp q) (by simp)) Pe
    refine ⟨T', lc, X', N', ?_, ?_, pre'⟩
    · rw [e']; exact Keep.refl _ _
    · intro c hc; exact absurd hc List.not_mem_nil
  | cons a rest ih =>
    intro i mk h0 T0 locs O0 X0 e0 N0 pre0 PE Pe Ps PA PX hle hrd hnd hcf
    have hl : i + (rest.length + 1) ≤ n := by simpa using hle
    have ea : i + (a :: rest).length = (i + 1) + rest.length := by simp; omega
    rw [ea] at Pe ⊢
    obtain ⟨ga, Ea, Fa⟩ := hcf a (List.mem_cons_self ..)
    have hr0 : vs.getD (N32 i).toNatClampNeg .null = .ref a := by rw [n_nat (by omega)]; exact hrd 0 (by simp)
    have nd := List.nodup_cons.mp hnd
    have hrd' : ∀ j (hj : j < rest.length), vs.getD (i + 1 + j) .null = .ref rest[j] := fun j hj => by
      have := hrd (j + 1) (by simp; omega)
      rw [show i + 1 + j = i + (j + 1) by omega]; simpa using this
    have i1 : N32 i + (1 : Int32) = N32 (i + 1) := n_add i 1
    rcases ra_1 hw O0 hx hby hml hown hret hlk hZ X0 e0 N0 pre0 ga ((n_lt (by omega) (by omega)).mpr (by omega)) (n_nn (by omega)) ((n_lt (by omega) (by omega)).mpr (by omega)) Pe Ps PA Ea Fa hr0 with ⟨T', lc, hm, X', N', K', Ea', Fa', pre'⟩ | ⟨T', lc, hm, X', N', e', pre'⟩
    · have oa : o1 ≠ a := ne_exa PE Ea (by decide)
      have PX := PX.resolve_left (by omega)
      have sa' : sa ≠ a := ne_exa PX Ea (by decide)
      rw [i1] at pre'
      obtain ⟨T2, lc2, X2, N2, K2, C2, pre2⟩ := ih (i + 1) mk T'.heap T' lc (O0.keep K' (allS ga all0)) X' rfl N' pre' (PE.keep K') (Pe.keep K' (ninS oa nin0)) (Ps.keep K' (ninS oa nin0)) (PA.keep K' (ninS sa' nin0)) (Or.inr (PX.keep K')) (by omega) hrd' nd.2
        (fun c hc => by obtain ⟨gc, Ec, Fc⟩ := hcf c (List.mem_cons_of_mem _ hc); exact ⟨gc, Ec.keep K', Fc.keep K' (ninS (fun q => nd.1 (q ▸ hc)) nin0)⟩)
      refine ⟨T2, lc2, X2, N2, (k_mono K' (fun x hx => by cases List.mem_singleton.mp hx; exact List.mem_cons_self ..)).trans K2 (fun x hx => Or.inl (List.mem_cons_of_mem _ hx)), fun c hc => ?_, pre2⟩
      rcases List.mem_cons.mp hc with rfl | hc
      · refine ⟨ga, Ea'.keep K2, ?_⟩
        show Fld _ _ _ _ _ _ (.long (if mk c = MX then q2 else mk c))
        rw [if_pos hm]; exact Fa'.keep K2 nd.1
      · exact C2 c hc
    · rw [i1] at pre'
      obtain ⟨T2, lc2, X2, N2, K2, C2, pre2⟩ := ih (i + 1) mk h0 T' lc O0 X' e' N' pre' PE Pe Ps PA PX (by omega) hrd' nd.2 (fun c hc => hcf c (List.mem_cons_of_mem _ hc))
      refine ⟨T2, lc2, X2, N2, k_mono K2 (fun x hx => List.mem_cons_of_mem _ hx), fun c hc => ?_, pre2⟩
      rcases List.mem_cons.mp hc with rfl | hc
      · refine ⟨ga, Ea.keep K2, ?_⟩
        show Fld _ _ _ _ _ _ (.long (if mk c = MX then q2 else mk c))
        rw [if_neg hm]; exact Fa.keep K2 nd.1
      · exact C2 c hc
theorem ef_ra (m : MethodId) (x0 : Addr) (x1 : Int64) : entryFrame m #[(.ref x0), (.long x1)] 4 = mkF m 0 #[.val (.ref x0), .val (.long x1), .second, .unset] [] := by first | (simp [entryFrame, mkF, argsToLocals, Value.category]; done) | rfl
def QRA (Z : State) (o1 mm : Addr) (C : List Addr) (mk : Addr → Int64) (q2 : Int64) (h0 : Heap) (n0 : Nat) (v : Option Value) (h : Heap) (L : List Loc) : Prop :=
  v = none ∧ Fr n0 L ∧ Keep h0 h (o1 :: C) ∧ CF Z h n0 C (fun c => if mk c = MX then q2 else mk c) ∧ LInv Z h n0 o1 mm C (fun c => if mk c = MX then q2 else mk c) 0
theorem m_ra (l : Launch) (Z : State) (a0 : Array Value) (hw : HW a0 Z) {w1 : Addr} {kw1 : ClassId} (G : GW Z w1 kw1) (ws : List Jvm.Cond) (o1 mm : Addr) (C : List Addr) (mk : Addr → Int64) (q2 : Int64) (h0 : Heap) (n0 : Nat) (O0 : Old Z n0 h0) (hq : q2 ≠ MX) (hmm : n0 ≤ mm) (HC : CF Z h0 n0 C mk) {k : Nat} (HI : LInv Z h0 n0 o1 mm C mk k) :
    MF l yn8 prog_41_method_9_code 4 none ws ({ frames := 1, cells := 0, slots := 0, locals := 14 } : Room) #[(.ref o1), (.long q2)] Z h0 (QRA Z o1 mm C mk q2 h0 n0) := by
  refine MetFree.of_bodySF (plainFor_of_name pn0) hisR ?_
  intro p e s m args below meth c s₁ Bd hml hP hK
  obtain ⟨rfl, hZ, hh⟩ := hP
  obtain ⟨hx, hby, hown, hret, hlk, X0, e0, N0⟩ := own_bd Bd hh n0
  have pre0 := own_ct s₁ (p := p) (e := e) (below := below) (ef_ra m o1 q2)
  revert pre0
  generalize s₁.setTop (entryFrame m #[(.ref o1), (.long q2)] 4) = E0
  intro pre0
  obtain ⟨sa, ka, vs, n, lo, fi, en, re, af, D, ⟨go, PE, Ps, Pl, Pf, Pe, Pr, Pa, PA, PX, dso⟩, ⟨d1, d2, d3, d4, d5, d6, d7, d8, d9, d10, d11, d12, d13⟩, dmm, -⟩ := id HI
  obtain ⟨T1, lc1, X1, N1, e1, pre1⟩ := ra_0 hw O0 hx hby hml hown hret hlk hZ X0 e0 N0 pre0 Pf
  have hlen : (D.drop (fi - lo)).length = en - fi := by rw [List.length_drop]; omega
  obtain ⟨T2, lc2, X2, N2, K2, C2, pre2⟩ := ra_loop hw hx hby hml hown hret hlk hZ d9 (D.drop (fi - lo)) fi mk h0 T1 lc1 O0 X1 e1 N1 pre1 PE (by rw [hlen, show fi + (en - fi) = en by omega]; exact Pe) Ps PA (PX.imp (fun q => q.1) (fun q => q.2.2)) (by omega)
    (fun j hj => by
      have hj2 : fi - lo + j < D.length := by rw [List.length_drop] at hj; omega
      have := d2 (fi - lo + j) hj2
      rw [show lo + (fi - lo + j) = fi + j by omega] at this
      rw [this, List.getElem_drop])
    (d3.sublist (List.drop_sublist _ _)) (fun c hc => HC c (d4 c (List.mem_of_mem_drop hc)))
  have hne : ∀ c ∈ C, o1 ≠ c := fun c hc => ne_exa PE (HC c hc).2.1 (by decide)
  have hin : ∀ x ∈ D.drop (fi - lo), x ∈ C := fun c hc => d4 c (List.mem_of_mem_drop hc)
  have no : o1 ∉ D.drop (fi - lo) := fun q => hne o1 (hin _ q) rfl
  have O2 := O0.keep K2 (fun x hx => (HC x (hin x hx)).1)
  obtain ⟨s₂, L, st, hr, he, NL, FE, K3, E3, F1, F2, F3, F4, F5, F6⟩ := ra_3 hw G O2 hx hby hml hown hret hlk hZ X2 rfl N2 pre2 go (PE.keep K2) (Ps.keep K2 no) (Pl.keep K2 no) (Pf.keep K2 no) (Pe.keep K2 no) (Pr.keep K2 no) (Pa.keep K2 no)
  have K4 : Keep h0 s₂.heap (o1 :: C) := (k_mono K2 (fun x hx => List.mem_cons_of_mem _ (hin x hx))).trans K3 (fun x hx => by cases List.mem_singleton.mp hx; exact Or.inl (List.mem_cons_self ..))
  have CC : CF Z s₂.heap n0 C (fun c => if mk c = MX then q2 else mk c) := fun c hc => by
    obtain ⟨gc, Ec, Fc⟩ := HC c hc
    have nc : c ∉ [o1] := fun q => hne c hc (List.mem_singleton.mp q).symm
    by_cases hd : c ∈ D.drop (fi - lo)
    · obtain ⟨-, E', F'⟩ := C2 c hd
      exact ⟨gc, E'.keep K3, F'.keep K3 nc⟩
    · refine ⟨gc, (Ec.keep K2).keep K3, ?_⟩
      show Fld _ _ _ _ _ _ (.long (if mk c = MX then q2 else mk c))
      rw [if_neg (fun q => hd (d5 c hc q))]
      exact (Fc.keep K2 hd).keep K3 nc
  obtain ⟨-, A_w1⟩ := id G
  refine ⟨s₂, _, st, hr, he, _, _, rfl, ⟨rfl, NL, K4, CC, w1, kw1, [], 0, 0, 0, 0, 0, 0, [], ?_, ?_, ?_, rfl⟩, FE⟩
  · exact ⟨go, E3, F6, F4, F3, F2, F5, F1, A_w1.ext (O2.keep K3 (allS go all0)).2, Or.inl ⟨rfl, by have := A_w1.lt; rw [O0.1] at this; exact this⟩, by have := A_w1.lt; rw [O0.1] at this; exact Nat.ne_of_lt (Nat.lt_of_lt_of_le this go)⟩
  · refine ⟨rfl, fun j hj => absurd hj (Nat.not_lt_zero _), List.nodup_nil, fun c hc => absurd hc List.not_mem_nil, fun c hc q => ?_, Nat.le_refl _, Nat.le_refl _, Nat.le_refl _, by omega, rfl, fun c hc => absurd hc (by simp), rfl, Or.inl rfl⟩
    exfalso
    simp only at q
    split at q
    · exact hq q
    · contradiction
  · have := A_w1.lt; rw [O0.1] at this; exact Nat.ne_of_lt (Nat.lt_of_lt_of_le this hmm)
abbrev lv (mk : Addr → Int64) (c : Addr) : Bool := decide (mk c = MX)
theorem ld_snoc {C D : List Addr} {mk : Addr → Int64} {vs : List Value} {n lo fi en re : Nat} {af : Int32} {c : Addr} (H : LD C D mk vs n lo fi en re af) (hc : c ∉ C) (hm : mk c = MX) (hen : en < n) : LD (c :: C) (D ++ [c]) mk (vs.set en (.ref c)) n lo fi (en + 1) re af := by
  obtain ⟨d1, d2, d3, d4, d5, d6, d7, d8, d9, d10, d11, d12, d13⟩ := H
  have hle : fi - lo ≤ D.length := by omega
  have hD : c ∉ D := fun q => hc (d4 c q)
  refine ⟨by simp; omega, fun j hj => ?_, ?_, ?_, ?_, d6, by omega, by omega, d9, by simpa using d10, ?_, ?_, d13⟩
  · simp only [List.getD_eq_getElem?_getD]
    by_cases q : j < D.length
    · rw [List.getElem?_set_ne (by omega), List.getElem_append_left q]
      have := d2 j q; simpa only [List.getD_eq_getElem?_getD] using this
    · have ej : j = D.length := by simp at hj; omega
      subst ej
      rw [show lo + D.length = en by omega, List.getElem?_set_self (by omega)]; simp
  · rw [List.nodup_append]; exact ⟨d3, by simp, fun a ha b hb => by cases List.mem_singleton.mp hb; exact fun q => hD (q ▸ ha)⟩
  · intro x hx; rcases List.mem_append.mp hx with q | q
    · exact List.mem_cons_of_mem _ (d4 x q)
    · cases List.mem_singleton.mp q; exact List.mem_cons_self ..
  · intro x hx q; rw [List.drop_append_of_le_length hle]
    rcases List.mem_cons.mp hx with rfl | hx
    · exact List.mem_append.mpr (Or.inr (List.mem_singleton.mpr rfl))
    · exact List.mem_append.mpr (Or.inl (d5 x hx q))
  · rw [List.take_append_of_le_length hle]; exact d11
  · rw [List.drop_append_of_le_length hle, List.countP_append, ← d12]; simp [hm]
def QAL (Z : State) (o1 mm : Addr) (C : List Addr) (mk : Addr → Int64) (k : Nat) (h0 : Heap) (n0 : Nat) (v : Option Value) (h : Heap) (L : List Loc) : Prop :=
  v = none ∧ Fr n0 L ∧ KW Z h0 h n0 o1 mm ∧ LInv Z h n0 o1 mm C mk k
theorem ld_cons {C D : List Addr} {mk : Addr → Int64} {vs : List Value} {n lo fi en re : Nat} {af : Int32} {c : Addr} (H : LD C D mk vs n lo fi en re af) (hc : c ∉ C) (hm : mk c = MX) (hlo : 0 < lo) : LD (c :: C) (c :: D) mk (vs.set (lo - 1) (.ref c)) n (lo - 1) (lo - 1) en (re + (fi - lo)) af := by
  obtain ⟨d1, d2, d3, d4, d5, d6, d7, d8, d9, d10, d11, d12, d13⟩ := H
  have hD : c ∉ D := fun q => hc (d4 c q)
  refine ⟨by simp; omega, fun j hj => ?_, List.nodup_cons.mpr ⟨hD, d3⟩, ?_, ?_, Nat.le_refl _, by omega, d8, d9, by simpa using d10, ?_, ?_, d13⟩
  · simp only [List.getD_eq_getElem?_getD]
    cases j with
    | zero => rw [Nat.add_zero, List.getElem?_set_self (by omega)]; rfl
    | succ j =>
      rw [List.getElem?_set_ne (by omega), show lo - 1 + (j + 1) = lo + j by omega]
      have := d2 j (by simpa using hj); simp only [List.getD_eq_getElem?_getD] at this; exact this
  · intro x hx; rcases List.mem_cons.mp hx with rfl | hx
    · exact List.mem_cons_self ..
    · exact List.mem_cons_of_mem _ (d4 x hx)
  · intro x hx q; rw [Nat.sub_self, List.drop_zero]
    rcases List.mem_cons.mp hx with rfl | hx
    · exact List.mem_cons_self ..
    · exact List.mem_cons_of_mem _ (List.mem_of_mem_drop (d5 x hx q))
  · intro x hx; rw [Nat.sub_self] at hx; exact absurd hx (by simp)
  · rw [Nat.sub_self, List.drop_zero, List.countP_cons, d12]
    have e1 : D.countP (fun c => decide (mk c ≠ MX)) = (D.take (fi - lo)).countP (fun c => decide (mk c ≠ MX)) + (D.drop (fi - lo)).countP (fun c => decide (mk c ≠ MX)) := by
      rw [← List.countP_append, List.take_append_drop]
    have e2 : (D.take (fi - lo)).countP (fun c => decide (mk c ≠ MX)) = fi - lo := by
      rw [List.countP_eq_length.mpr (fun x hx => by simpa using d11 x hx), List.length_take]; omega
    rw [e1, e2]; simp [hm]; omega
theorem ld_af {C D : List Addr} {mk : Addr → Int64} {vs : List Value} {n lo fi en re : Nat} {af : Int32} (H : LD C D mk vs n lo fi en re af) : LD C D mk vs n lo fi en re 1 := by
  obtain ⟨d1, d2, d3, d4, d5, d6, d7, d8, d9, d10, d11, d12, d13⟩ := H
  exact ⟨d1, d2, d3, d4, d5, d6, d7, d8, d9, d10, d11, d12, Or.inr rfl⟩
abbrev up (mk : Addr → Int64) (c0 : Addr) (q : Int64) : Addr → Int64 := fun c => if c = c0 then q else mk c
theorem up_s (mk : Addr → Int64) (c0 : Addr) (q : Int64) : up mk c0 q c0 = q := if_pos rfl
theorem up_n (mk : Addr → Int64) {c0 c : Addr} (q : Int64) (h : c ≠ c0) : up mk c0 q c = mk c := if_neg h
theorem cp_upd {mk : Addr → Int64} {c0 : Addr} {q : Int64} (hq : q ≠ MX) (hm : mk c0 = MX) : ∀ (l : List Addr), l.Nodup → c0 ∈ l → l.countP (fun c => decide (up mk c0 q c ≠ MX)) = l.countP (fun c => decide (mk c ≠ MX)) + 1 := by
  intro l
  induction l with
  | nil => intro _ h; exact absurd h List.not_mem_nil
  | cons a l ih =>
    intro hn h
    have nd := List.nodup_cons.mp hn
    rw [List.countP_cons, List.countP_cons]
    by_cases e : a = c0
    · subst e
      have e1 : l.countP (fun c => decide (up mk a q c ≠ MX)) = l.countP (fun c => decide (mk c ≠ MX)) := by
        apply List.countP_congr; intro x hx
        have ne : x ≠ a := fun z => nd.1 (z ▸ hx)
        rw [up_n mk q ne]
      rw [e1, up_s, hm, decide_eq_true hq, decide_eq_false (fun z => z rfl)]; rfl
    · rw [ih nd.2 ((List.mem_cons.mp h).resolve_left (fun z => e z.symm)), up_n mk q e]; exact Nat.add_right_comm _ _ _
theorem ld_rm {C D : List Addr} {mk : Addr → Int64} {vs : List Value} {n lo fi en re : Nat} {af : Int32} {c0 : Addr} {q : Int64} (H : LD C D mk vs n lo fi en re af) (hc : c0 ∈ C) (hm : mk c0 = MX) (hq : q ≠ MX) : LD C D (up mk c0 q) vs n lo fi en (re + 1) af := by
  obtain ⟨d1, d2, d3, d4, d5, d6, d7, d8, d9, d10, d11, d12, d13⟩ := H
  refine ⟨d1, d2, d3, d4, fun c h z => ?_, d6, d7, d8, d9, d10, fun c h z => ?_, ?_, d13⟩
  · by_cases e : c = c0
    · subst e; rw [up_s] at z; exact absurd z hq
    · rw [up_n mk q e] at z; exact d5 c h z
  · by_cases e : c = c0
    · subst e; rw [up_s] at z; exact absurd z hq
    · rw [up_n mk q e] at z; exact d11 c h z
  · rw [cp_upd hq hm _ (d3.sublist (List.drop_sublist _ _)) (d5 c0 hc hm), ← d12]
theorem ld_pos {C D : List Addr} {mk : Addr → Int64} {vs : List Value} {n lo fi en re : Nat} {af : Int32} {c0 : Addr} (H : LD C D mk vs n lo fi en re af) (hc : c0 ∈ C) (hm : mk c0 = MX) : re + 1 ≤ en - fi := by
  have H2 := ld_rm (q := 0) H hc hm (by decide)
  obtain ⟨d1, d2, d3, d4, d5, d6, d7, d8, d9, d10, d11, d12, d13⟩ := H2
  have hlen : (D.drop (fi - lo)).length = en - fi := by rw [List.length_drop]; omega
  rw [d12, ← hlen]; exact List.countP_le_length
theorem li_pos {Z : State} {h : Heap} {n0 : Nat} {o mm : Addr} {C : List Addr} {mk : Addr → Int64} {k : Nat} {c0 : Addr} (H : LInv Z h n0 o mm C mk k) (hc : c0 ∈ C) (hm : mk c0 = MX) : 1 ≤ k := by
  obtain ⟨sa, ka, vs, n, lo, fi, en, re, af, D, -, HD, -, hk⟩ := H
  have := ld_pos HD hc hm; omega
theorem ld_adv {C D : List Addr} {mk : Addr → Int64} {vs : List Value} {n lo fi en re : Nat} {af : Int32} {a : Addr} (H : LD C D mk vs n lo fi en re af) (hlt : fi < en) (ha : D[fi - lo]? = some a) (hd : mk a ≠ MX) : LD C D mk vs n lo (fi + 1) en (re - 1) af ∧ 0 < re := by
  obtain ⟨d1, d2, d3, d4, d5, d6, d7, d8, d9, d10, d11, d12, d13⟩ := H
  have hi : fi - lo < D.length := by omega
  have ea : D[fi - lo] = a := (List.getElem?_eq_some_iff.mp ha).2
  have e1 : D.drop (fi - lo) = a :: D.drop (fi - lo + 1) := by rw [List.drop_eq_getElem_cons hi, ea]
  have e2 : fi + 1 - lo = fi - lo + 1 := by omega
  have e3 : D.take (fi - lo + 1) = D.take (fi - lo) ++ [a] := by rw [← ea]; exact (List.take_append_getElem hi).symm
  have h2 : (D.drop (fi - lo)).countP (fun c => decide (mk c ≠ MX)) = (D.drop (fi - lo + 1)).countP (fun c => decide (mk c ≠ MX)) + 1 := by
    rw [e1]; exact List.countP_cons_of_pos (by simpa using hd)
  rw [h2] at d12
  refine ⟨⟨d1, d2, d3, d4, fun c h q => ?_, by omega, by omega, d8, d9, d10, fun c h => ?_, ?_, d13⟩, by omega⟩
  · rw [e2]; have z := d5 c h q; rw [e1] at z
    rcases List.mem_cons.mp z with rfl | z
    · exact absurd q hd
    · exact z
  · rw [e2, e3] at h
    rcases List.mem_append.mp h with z | z
    · exact d11 c z
    · cases List.mem_singleton.mp z; exact hd
  · rw [e2]; omega
def QRM (Z : State) (o1 c0 mm : Addr) (C : List Addr) (mk : Addr → Int64) (k : Nat) (h0 : Heap) (n0 : Nat) (v : Option Value) (h : Heap) (L : List Loc) : Prop :=
  v = none ∧ Fr n0 L ∧ Keep h0 h [c0, o1] ∧ CF Z h n0 C mk ∧ LInv Z h n0 o1 mm C mk k
def fu {α : Type} (f : Nat → α) (i : Nat) (x : α) : Nat → α := fun j => if j = i then x else f j
theorem fu_s {α : Type} (f : Nat → α) (i : Nat) (x : α) : fu f i x i = x := if_pos rfl
theorem fu_n {α : Type} (f : Nat → α) {i j : Nat} (x : α) (h : j ≠ i) : fu f i x j = f j := if_neg h
theorem gs_s {l : List Value} {i : Nat} {x d : Value} (h : i < l.length) : (l.set i x).getD i d = x := by
  simp only [List.getD_eq_getElem?_getD]; rw [List.getElem?_set_self h]; rfl
theorem gs_n {l : List Value} {i j : Nat} {x d : Value} (h : i ≠ j) : (l.set i x).getD j d = l.getD j d := by
  simp only [List.getD_eq_getElem?_getD]; rw [List.getElem?_set_ne h]
def SD (C : List Addr) (mk : Addr → Int64) (A : Nat → Addr) (B : Nat → Int32) (Q : Nat → Nat) (v3 v4 v5 : List Value) (m u : Nat) : Prop :=
  (∀ j, j < m → v3.getD j .null = .ref (A j) ∧ A j ∈ C ∧ v4.getD j (.int 0) = .int (B j) ∧ v5.getD j (.int 0) = .int (N32 (Q j)) ∧ Q j ≤ u ∧ (B j ≠ 0 → Q j = u → mk (A j) = MX))
  ∧ (∀ i j, i < m → j < m → A i = A j → i = j) ∧ v3.length = 12 ∧ v4.length = 12 ∧ v5.length = 12
theorem sd_add {C : List Addr} {mk : Addr → Int64} {A : Nat → Addr} {B : Nat → Int32} {Q : Nat → Nat} {v3 v4 v5 : List Value} {m u : Nat} {b : Addr} (H : SD C mk A B Q v3 v4 v5 m u) (hm : m < 12) (hb : b ∉ C) :
    SD (b :: C) (up mk b MX) (fu A m b) (fu B m 1) (fu Q m u) (v3.set m (.ref b)) (v4.set m (.int 1)) (v5.set m (.int (N32 u))) (m + 1) u := by
  obtain ⟨h1, h2, l3, l4, l5⟩ := H
  refine ⟨fun j hj => ?_, fun i j hi hj q => ?_, by simpa using l3, by simpa using l4, by simpa using l5⟩
  · by_cases e : j = m
    · subst e
      rw [fu_s, fu_s, fu_s, gs_s (by omega), gs_s (by omega), gs_s (by omega)]
      exact ⟨rfl, List.mem_cons_self .., rfl, rfl, Nat.le_refl _, fun _ _ => up_s ..⟩
    · obtain ⟨a1, a2, a3, a4, a5, a6⟩ := h1 j (by omega)
      have ne : A j ≠ b := fun q => hb (q ▸ a2)
      rw [fu_n A b e, fu_n B 1 e, fu_n Q u e, gs_n (Ne.symm e), gs_n (Ne.symm e), gs_n (Ne.symm e), up_n mk MX ne]
      exact ⟨a1, List.mem_cons_of_mem _ a2, a3, a4, a5, a6⟩
  · by_cases ei : i = m
    · by_cases ej : j = m
      · omega
      · exfalso; rw [ei, fu_s, fu_n A b ej] at q; exact hb (q ▸ (h1 j (by omega)).2.1)
    · by_cases ej : j = m
      · exfalso; rw [ej, fu_s, fu_n A b ei] at q; exact hb (q ▸ (h1 i (by omega)).2.1)
      · rw [fu_n A b ei, fu_n A b ej] at q; exact h2 i j (by omega) (by omega) q
theorem sd_rm {C : List Addr} {mk : Addr → Int64} {A : Nat → Addr} {B : Nat → Int32} {Q : Nat → Nat} {v3 v4 v5 : List Value} {m u i : Nat} (H : SD C mk A B Q v3 v4 v5 m u) (hi : i < m) (hm : m ≤ 12) (q : Int64) :
    SD C (up mk (A i) q) A (fu B i 0) Q v3 (v4.set i (.int 0)) v5 m u := by
  obtain ⟨h1, h2, l3, l4, l5⟩ := H
  refine ⟨fun j hj => ?_, h2, l3, by simpa using l4, l5⟩
  obtain ⟨a1, a2, a3, a4, a5, a6⟩ := h1 j hj
  by_cases e : j = i
  · subst e; rw [fu_s, gs_s (by omega)]; exact ⟨a1, a2, rfl, a4, a5, fun z => absurd rfl z⟩
  · rw [fu_n B 0 e, gs_n (Ne.symm e), up_n mk q (fun z => e (h2 j i hj hi z))]; exact ⟨a1, a2, a3, a4, a5, a6⟩
theorem sd_ra {C : List Addr} {mk : Addr → Int64} {A : Nat → Addr} {B : Nat → Int32} {Q : Nat → Nat} {v3 v4 v5 : List Value} {m u : Nat} (H : SD C mk A B Q v3 v4 v5 m u) (mk' : Addr → Int64) : SD C mk' A B Q v3 v4 v5 m (u + 1) :=
  ⟨fun j hj => by obtain ⟨a1, a2, a3, a4, a5, a6⟩ := H.1 j hj; exact ⟨a1, a2, a3, a4, by omega, fun _ z => by omega⟩, H.2⟩
theorem n_idx (x : Int32) {m : Nat} (h0 : 0 < m) (hm : m ≤ 12) : ∃ i, i < m ∧ ((x.toUInt32 >>> ((3 : Int32) &&& 31).toUInt32).toInt32) % N32 m = N32 i := by
  have c := c_iushr x 3 3 (by decide) (by decide)
  generalize ((x.toUInt32 >>> ((3 : Int32) &&& 31).toUInt32).toInt32) = y at c ⊢
  have y0 : 0 ≤ y.toInt := by rw [c, show ((2 ^ 3 : Nat) : Int) = 8 by decide]; omega
  have e : (y % N32 m).toInt = y.toInt % (m : Int) := by rw [Int32.toInt_mod, n_int (by omega), Int.tmod_eq_emod_of_nonneg y0]
  have b1 := Int.emod_nonneg y.toInt (show (m : Int) ≠ 0 by omega)
  have b2 := Int.emod_lt_of_pos y.toInt (show (0 : Int) < m by omega)
  refine ⟨(y.toInt % (m : Int)).toNat, by omega, ?_⟩
  apply Int32.toInt_inj.mp; rw [e, n_int (by omega)]; omega
def SA (Z : State) (h : Heap) (o2 o3 o4 o5 o6 : Addr) (k2 k3 k4 k5 k6 : ClassId) (v3 v4 v5 : List Value) (m k u : Nat) : Prop :=
  Arv Z h o2 k2 (.object cn10) (0 : Int32) [] .null ∧ Arv Z h o3 k3 (.object cn6) (12 : Int32) v3 .null ∧ Arv Z h o4 k4 .boolean (12 : Int32) v4 (.int 0) ∧ Arv Z h o5 k5 .int (12 : Int32) v5 (.int 0) ∧ Arv Z h o6 k6 .int (3 : Int32) [(.int (N32 m)), (.int (N32 k)), (.int (N32 u))] (.int 0)
  ∧ Exa Z h o2 cn5 ∧ Exa Z h o3 cn3 ∧ Exa Z h o4 "[Z" ∧ Exa Z h o5 "[I" ∧ Exa Z h o6 "[I" ∧ Ovr Z k3 cn6
theorem sa_keep {Z : State} {h h' : Heap} {o2 o3 o4 o5 o6 : Addr} {k2 k3 k4 k5 k6 : ClassId} {v3 v4 v5 : List Value} {m k u : Nat} {ws : List Addr} (H : SA Z h o2 o3 o4 o5 o6 k2 k3 k4 k5 k6 v3 v4 v5 m k u) (K : Keep h h' ws) (f : ∀ x ∈ ws, x ≠ o3 ∧ (Exa Z h x cn7 ∨ Exa Z h x cn6 ∨ Exa Z h x cn3)) :
    SA Z h' o2 o3 o4 o5 o6 k2 k3 k4 k5 k6 v3 v4 v5 m k u := by
  obtain ⟨a2, a3, a4, a5, a6, e2, e3, e4, e5, e6, ov⟩ := H
  have n2 : o2 ∉ ws := fun q => by rcases (f o2 q).2 with z | z | z <;> exact ne_exa e2 z (by decide) rfl
  have n3 : o3 ∉ ws := fun q => (f o3 q).1 rfl
  have n4 : o4 ∉ ws := fun q => by rcases (f o4 q).2 with z | z | z <;> exact ne_exa e4 z (by decide) rfl
  have n5 : o5 ∉ ws := fun q => by rcases (f o5 q).2 with z | z | z <;> exact ne_exa e5 z (by decide) rfl
  have n6 : o6 ∉ ws := fun q => by rcases (f o6 q).2 with z | z | z <;> exact ne_exa e6 z (by decide) rfl
  exact ⟨a2.keep K n2, a3.keep K n3, a4.keep K n4, a5.keep K n5, a6.keep K n6, e2.keep K, e3.keep K, e4.keep K, e5.keep K, e6.keep K, ov⟩
theorem li_keep {Z : State} {h h' : Heap} {n0 : Nat} {o mm : Addr} {C : List Addr} {mk : Addr → Int64} {k : Nat} {ws : List Addr} (H : LInv Z h n0 o mm C mk k) (K : Keep h h' ws) (Em : Exa Z h mm cn3) (f : ∀ x ∈ ws, n0 ≤ x ∧ (x = mm ∨ Exa Z h x "[Z" ∨ Exa Z h x "[I")) : LInv Z h' n0 o mm C mk k := by
  obtain ⟨sa, ka, vs, n, lo, fi, en, re, af, D, ⟨go, PE, Ps, Pl, Pf, Pe, Pr, Pa, PA, PX, dso⟩, HD, dmm, hk⟩ := H
  have ho : o ∉ ws := fun q => by
    rcases (f o q).2 with z | z | z
    · exact ne_exa PE Em (by decide) z
    · exact ne_exa PE z (by decide) rfl
    · exact ne_exa PE z (by decide) rfl
  have ns : sa ∉ ws := fun q => by
    obtain ⟨g, z⟩ := f sa q
    rcases PX with ⟨-, y⟩ | ⟨-, -, E⟩
    · exact absurd g (Nat.not_le_of_lt y)
    · rcases z with z | z | z
      · exact dmm z
      · exact ne_exa E z (by decide) rfl
      · exact ne_exa E z (by decide) rfl
  exact ⟨sa, ka, vs, n, lo, fi, en, re, af, D, ⟨go, PE.keep K, Ps.keep K ho, Pl.keep K ho, Pf.keep K ho, Pe.keep K ho, Pr.keep K ho, Pa.keep K ho, PA.keep K ns, PX.imp id (fun q => ⟨q.1, q.2.1, q.2.2.keep K⟩), dso⟩, HD, dmm, hk⟩
theorem ld_cg {C D : List Addr} {mk mk' : Addr → Int64} {vs : List Value} {n lo fi en re : Nat} {af : Int32} (H : LD C D mk vs n lo fi en re af) (f : ∀ c ∈ C, mk' c = mk c) : LD C D mk' vs n lo fi en re af := by
  obtain ⟨d1, d2, d3, d4, d5, d6, d7, d8, d9, d10, d11, d12, d13⟩ := H
  refine ⟨d1, d2, d3, d4, fun c hc q => d5 c hc (by rw [← f c hc]; exact q), d6, d7, d8, d9, d10, fun c hc => by rw [f c (d4 c (List.mem_of_mem_take hc))]; exact d11 c hc, ?_, d13⟩
  rw [d12]; apply List.countP_congr; intro x hx; rw [f x (d4 x (List.mem_of_mem_drop hx))]
theorem li_cg {Z : State} {h : Heap} {n0 : Nat} {o mm : Addr} {C : List Addr} {mk mk' : Addr → Int64} {k : Nat} (H : LInv Z h n0 o mm C mk k) (f : ∀ c ∈ C, mk' c = mk c) : LInv Z h n0 o mm C mk' k := by
  obtain ⟨sa, ka, vs, n, lo, fi, en, re, af, D, HS, HD, dmm, hk⟩ := H
  exact ⟨sa, ka, vs, n, lo, fi, en, re, af, D, HS, ld_cg HD f, dmm, hk⟩
theorem cf_keep {Z : State} {h h' : Heap} {n0 : Nat} {C : List Addr} {mk : Addr → Int64} {ws : List Addr} (H : CF Z h n0 C mk) (K : Keep h h' ws) (f : ∀ x ∈ ws, x ∉ C) : CF Z h' n0 C mk :=
  fun c hc => ⟨(H c hc).1, (H c hc).2.1.keep K, (H c hc).2.2.keep K (fun q => f c q hc)⟩
def SI (Z : State) (h : Heap) (n0 : Nat) (o1 o2 o3 o4 o5 o6 : Addr) (t : Nat) : Prop :=
  ∃ (C : List Addr) (mk : Addr → Int64) (m k u : Nat) (A : Nat → Addr) (B : Nat → Int32) (Q : Nat → Nat) (k2 k3 k4 k5 k6 : ClassId) (v3 v4 v5 : List Value),
    CF Z h n0 C mk ∧ LInv Z h n0 o1 o3 C mk k ∧ SA Z h o2 o3 o4 o5 o6 k2 k3 k4 k5 k6 v3 v4 v5 m k u ∧ SD C mk A B Q v3 v4 v5 m u ∧ m ≤ t ∧ k ≤ t ∧ u ≤ t
theorem si_mono {Z : State} {h : Heap} {n0 : Nat} {o1 o2 o3 o4 o5 o6 : Addr} {t : Nat} (H : SI Z h n0 o1 o2 o3 o4 o5 o6 t) : SI Z h n0 o1 o2 o3 o4 o5 o6 (t + 1) := by
  obtain ⟨C, mk, m, k, u, A, B, Q, k2, k3, k4, k5, k6, v3, v4, v5, a1, a2, a3, a4, a5, a6, a7⟩ := H
  exact ⟨C, mk, m, k, u, A, B, Q, k2, k3, k4, k5, k6, v3, v4, v5, a1, a2, a3, a4, by omega, by omega, by omega⟩
def SO (n0 : Nat) (o2 o3 o4 o5 o6 : Addr) : Prop := n0 ≤ o2 ∧ n0 ≤ o3 ∧ n0 ≤ o4 ∧ n0 ≤ o5 ∧ n0 ≤ o6 ∧ o6 ≠ o5
def QST (Z : State) (n0 : Nat) (o1 o2 o3 o4 o5 o6 : Addr) (t : Nat) (v : Option Value) (h : Heap) (L : List Loc) : Prop :=
  v = some (.int 1) ∧ Fr n0 L ∧ Old Z n0 h ∧ SI Z h n0 o1 o2 o3 o4 o5 o6 t
theorem ef_st (m : MethodId) (x0 x1 x2 x3 x4 x5 : Addr) (x6 : Int32) : entryFrame m #[(.ref x0), (.ref x1), (.ref x2), (.ref x3), (.ref x4), (.ref x5), (.int x6)] 10 = mkF m 0 #[.val (.ref x0), .val (.ref x1), .val (.ref x2), .val (.ref x3), .val (.ref x4), .val (.ref x5), .val (.int x6), .unset, .unset, .unset] [] := by first | (simp [entryFrame, mkF, argsToLocals, Value.category]; done) | rfl
theorem pd3 : parseMethodDescriptor "()I" = some ⟨[], some .int⟩ := by decide +kernel
set_option maxRecDepth 65536 in
set_option maxHeartbeats 40000000 in
theorem mv_0a {p : Program} {l : Launch} {e : Env} {s : State} {m : MethodId} {below : List Frame} {meth : Method} {c : Code} {E0 T0 : State} {locs : List Loc} {Z : State} {a0 : Array Value} (hw : HW a0 Z) {o1 : Addr} {p2 : Int32} {p3 : Int32} {p4 : Int32} {h0 : Heap} {n0 : Nat} (O0 : Old Z n0 h0)
    (hx : p.tables.exec = Jvm.exec) (hby : c.code = prog_41_method_10_code) (hml : c.maxLocals = 7) (hown : s.vm.findClass cn7 = some m.cls) (hret : meth.sig.returnType = none) (hlk : meth.locks = false) (hZ : Z.Warmed39 s.vm)
    (X0 : Stand p l e ({ frames := 1, cells := 1, slots := 15, locals := 13 } : Room) s m #[(.ref o1)] below meth c T0 locs 0 0) (e0 : T0.heap = h0) (N0 : Fr n0 locs) (pre0 : Go p e below T0 (mkF m 0 #[.val (.ref o1), .unset, .unset, .unset, .unset, .unset, .unset] []) E0) (g_o1 : n0 ≤ o1) (P0 : Exa Z h0 o1 cn7) (P1 : Fld Z h0 o1 cn7 "end" "I" (.int p2)) (P2 : Fld Z h0 o1 cn7 "first" "I" (.int p3)) (P3 : Fld Z h0 o1 cn7 "removed" "I" (.int p4)) :
    (∃ (T' : State) (lc : List Loc), Stand p l e ({ frames := 1, cells := 1, slots := 15, locals := 13 } : Room) s m #[(.ref o1)] below meth c T' lc 0 0 ∧ Fr n0 lc ∧ T'.heap = h0 ∧ Go p e below T' (mkF m 5 #[.val (.ref o1), .val (.int ((p2 - p3) - p4)), .unset, .unset, .unset, .unset, .unset] []) E0) := by
 obtain ⟨_, T1, L1, X1, hQ1, st1⟩ := yv X0 hx hZ hown hby hml (y := yn0) (own_w hw 69 rfl) (own_w hw 20 rfl) (own_w hw 22 rfl) (own_w hw 21 rfl) (own_w hw 23 rfl) (w_2 hw) e0 P0 [] [] (rm1 l Z a0 hw [] o1 p2 p3 p4 h0 n0 O0 g_o1 P1 P2 P3) 1 #[.val (.ref o1), .unset, .unset, .unset, .unset, .unset, .unset] rfl d4_1 (lenOf pd3 rfl) 0 0 0
 obtain ⟨rfl, Nq2, e3⟩ := hQ1
 have N1 := Fr.app N0 Nq2
 have pre4 : Go p e below T1 (mkF m 5 #[.val (.ref o1), .val (.int ((p2 - p3) - p4)), .unset, .unset, .unset, .unset, .unset] []) E0 := fun t k => by
  refine pre0 _ ?_
  refine yan X0 hx hby d4_0 rfl rfl ?_
  refine st1 _ ?_
  refine yit X1 hx hby d4_4 (l' := #[.val (.ref o1), .val (.int ((p2 - p3) - p4)), .unset, .unset, .unset, .unset, .unset]) rfl ?_
  exact k
 exact ⟨_, _, X1, N1, e3, pre4⟩
theorem pd4 : parseMethodDescriptor "(II)I" = some ⟨[.int, .int], some .int⟩ := by decide +kernel
set_option maxRecDepth 65536 in
set_option maxHeartbeats 40000000 in
theorem mv_1a {p : Program} {l : Launch} {e : Env} {s : State} {m : MethodId} {below : List Frame} {meth : Method} {c : Code} {E0 T0 : State} {locs : List Loc} {Z : State} {a0 : Array Value} (hw : HW a0 Z) {o1 : Addr} {p5 : Int32} {h0 : Heap} {n0 : Nat} (O0 : Old Z n0 h0)
    (hx : p.tables.exec = Jvm.exec) (hby : c.code = prog_41_method_10_code) (hml : c.maxLocals = 7) (hown : s.vm.findClass cn7 = some m.cls) (hret : meth.sig.returnType = none) (hlk : meth.locks = false) (hZ : Z.Warmed39 s.vm)
    (X0 : Stand p l e ({ frames := 1, cells := 1, slots := 15, locals := 13 } : Room) s m #[(.ref o1)] below meth c T0 locs 0 0) (e0 : T0.heap = h0) (N0 : Fr n0 locs) (pre0 : Go p e below T0 (mkF m 5 #[.val (.ref o1), .val (.int p5), .unset, .unset, .unset, .unset, .unset] []) E0) :
    (∃ (T' : State) (lc : List Loc), ((4 : Int32) < p5) ∧ Stand p l e ({ frames := 1, cells := 1, slots := 15, locals := 13 } : Room) s m #[(.ref o1)] below meth c T' lc 0 0 ∧ Fr n0 lc ∧ T'.heap = h0 ∧ Go p e below T' (mkF m 11 #[.val (.ref o1), .val (.int p5), .val (.int p5), .unset, .unset, .unset, .unset] []) E0)
    ∨ (∃ (T' : State) (lc : List Loc), (¬ ((4 : Int32) < p5)) ∧ Stand p l e ({ frames := 1, cells := 1, slots := 15, locals := 13 } : Room) s m #[(.ref o1)] below meth c T' lc 0 0 ∧ Fr n0 lc ∧ T'.heap = h0 ∧ Go p e below T' (mkF m 11 #[.val (.ref o1), .val (.int p5), .val (.int 4), .unset, .unset, .unset, .unset] []) E0) := by
 obtain ⟨_, T1, L1, X1, hQ1, st1⟩ := own_cs X0 hx hZ hown (y := yn3) (own_w hw 70 rfl) (own_w hw 71 rfl) (own_w hw 73 rfl) (own_w hw 72 rfl) e0 (argsL := [(.int 4), (.int p5)]) (rest := []) (rm4 l Z a0 hw [] ((4 : Int32)) p5 h0 n0 O0 ) (g := (mkF m 7 #[.val (.ref o1), .val (.int p5), .unset, .unset, .unset, .unset, .unset] [(.int p5), (.int 4)])) rfl (by rw [hml]; rfl) rfl (hb hby d4_7) (lenOf pd4 rfl) (W := 0) (c1 := 0) (s1 := 0)
 have pre2 : Go p e below T0 (mkF m 7 #[.val (.ref o1), .val (.int p5), .unset, .unset, .unset, .unset, .unset] [(.int p5), (.int 4)]) E0 := fun t k => by
  refine pre0 _ ?_
  refine yic X0 hx hby d4_5 ?_
  refine yin X0 hx hby d4_6 rfl ?_
  exact k
 rcases hQ1 with ⟨hc3, rfl, Nq4, e5⟩ | ⟨hc6, rfl, Nq7, e8⟩
 ·
  have N1 := Fr.app N0 Nq4
  have pre9 : Go p e below T1 (mkF m 11 #[.val (.ref o1), .val (.int p5), .val (.int p5), .unset, .unset, .unset, .unset] []) E0 := fun t k => by
   refine pre2 _ ?_
   refine st1 _ ?_
   refine yit X1 hx hby d4_10 (l' := #[.val (.ref o1), .val (.int p5), .val (.int p5), .unset, .unset, .unset, .unset]) rfl ?_
   exact k
  exact (Or.inl ⟨_, _, hc3, X1, N1, e5, pre9⟩)
 ·
  have N1 := Fr.app N0 Nq7
  have pre10 : Go p e below T1 (mkF m 11 #[.val (.ref o1), .val (.int p5), .val (.int 4), .unset, .unset, .unset, .unset] []) E0 := fun t k => by
   refine pre2 _ ?_
   refine st1 _ ?_
   refine yit X1 hx hby d4_10 (l' := #[.val (.ref o1), .val (.int p5), .val (.int 4), .unset, .unset, .unset, .unset]) rfl ?_
   exact k
  exact (Or.inr ⟨_, _, hc6, X1, N1, e8, pre10⟩)
set_option maxRecDepth 65536 in
set_option maxHeartbeats 40000000 in
theorem mv_2a {p : Program} {l : Launch} {e : Env} {s : State} {m : MethodId} {below : List Frame} {meth : Method} {c : Code} {E0 T0 : State} {locs : List Loc} {Z : State} {a0 : Array Value} (hw : HW a0 Z) {o1 : Addr} {p7 : Int32} {p5 : Int32} {p6 : Int32} {h0 : Heap} {n0 : Nat} (O0 : Old Z n0 h0)
    (hx : p.tables.exec = Jvm.exec) (hby : c.code = prog_41_method_10_code) (hml : c.maxLocals = 7) (hown : s.vm.findClass cn7 = some m.cls) (hret : meth.sig.returnType = none) (hlk : meth.locks = false) (hZ : Z.Warmed39 s.vm)
    (X0 : Stand p l e ({ frames := 1, cells := 1, slots := 15, locals := 13 } : Room) s m #[(.ref o1)] below meth c T0 locs 0 0) (e0 : T0.heap = h0) (N0 : Fr n0 locs) (pre0 : Go p e below T0 (mkF m 11 #[.val (.ref o1), .val (.int p5), .val (.int p6), .unset, .unset, .unset, .unset] []) E0) (P1 : Fld Z h0 o1 cn7 "addsFirst" "Z" (.int p7)) :
    (∃ (T' : State) (lc : List Loc), (p7 = (0 : Int32)) ∧ Stand p l e ({ frames := 1, cells := 1, slots := 15, locals := 13 } : Room) s m #[(.ref o1)] below meth c T' lc 0 0 ∧ Fr n0 lc ∧ T'.heap = h0 ∧ Go p e below T' (mkF m 24 #[.val (.ref o1), .val (.int p5), .val (.int p6), .val (.int 0), .unset, .unset, .unset] []) E0)
    ∨ (∃ (T' : State) (lc : List Loc), (¬ (p7 = (0 : Int32))) ∧ Stand p l e ({ frames := 1, cells := 1, slots := 15, locals := 13 } : Room) s m #[(.ref o1)] below meth c T' lc 0 0 ∧ Fr n0 lc ∧ T'.heap = h0 ∧ Go p e below T' (mkF m 24 #[.val (.ref o1), .val (.int p5), .val (.int p6), .val (.int p6), .unset, .unset, .unset] []) E0) := by
 obtain ⟨T1, X1, e1, st1⟩ := yag X0 hx hZ hown hby (own_w hw 74 rfl) e0 P1 11 #[.val (.ref o1), .val (.int p5), .val (.int p6), .unset, .unset, .unset, .unset] [] d4_11 d4_12 rfl
 have pre2 : Go p e below T1 (mkF m 15 #[.val (.ref o1), .val (.int p5), .val (.int p6), .unset, .unset, .unset, .unset] [(.int p7)]) E0 := fun t k => by
  refine pre0 _ ?_
  refine st1 _ ?_
  exact k
 by_cases hc3 : p7 = (0 : Int32)
 ·
  have pre4 : Go p e below T1 (mkF m 15 #[.val (.ref o1), .val (.int p5), .val (.int p6), .unset, .unset, .unset, .unset] [(.int 0)]) E0 := fun t k => pre2 t (by rw [hc3]; exact k)
  have pre5 : Go p e below T1 (mkF m 24 #[.val (.ref o1), .val (.int p5), .val (.int p6), .val (.int 0), .unset, .unset, .unset] []) E0 := fun t k => by
   refine pre4 _ ?_
   refine XS.ifYes X1.here hx rfl (pc0 := 15) (pc' := 22) rfl (hb hby d4_15) rfl ((if0 _ _).trans (teq (by decide : (0 : Int32) = (0 : Int32))).1) (by decide) (by decide) ?_
   refine yic X1 hx hby d4_22 ?_
   refine yit X1 hx hby d4_23 (l' := #[.val (.ref o1), .val (.int p5), .val (.int p6), .val (.int 0), .unset, .unset, .unset]) rfl ?_
   exact k
  exact (Or.inl ⟨_, _, hc3, X1, N0, e1, pre5⟩)
 ·
  have pre6 : Go p e below T1 (mkF m 24 #[.val (.ref o1), .val (.int p5), .val (.int p6), .val (.int p6), .unset, .unset, .unset] []) E0 := fun t k => by
   refine pre2 _ ?_
   refine yfn X1 hx hby d4_15 ((if0 _ _).trans (feq hc3).1) ?_
   refine yin X1 hx hby d4_18 rfl ?_
   refine ygo X1 hx hby 19 23 rfl d4_19 (by decide) ?_
   refine yit X1 hx hby d4_23 (l' := #[.val (.ref o1), .val (.int p5), .val (.int p6), .val (.int p6), .unset, .unset, .unset]) rfl ?_
   exact k
  exact (Or.inr ⟨_, _, hc3, X1, N0, e1, pre6⟩)
set_option maxRecDepth 65536 in
set_option maxHeartbeats 40000000 in
theorem mv_3a {p : Program} {l : Launch} {e : Env} {s : State} {m : MethodId} {below : List Frame} {meth : Method} {c : Code} {E0 T0 : State} {locs : List Loc} {Z : State} {a0 : Array Value} (hw : HW a0 Z) {o1 : Addr} {p5 : Int32} {p6 : Int32} {p8 : Int32} {h0 : Heap} {n0 : Nat} (O0 : Old Z n0 h0)
    (hx : p.tables.exec = Jvm.exec) (hby : c.code = prog_41_method_10_code) (hml : c.maxLocals = 7) (hown : s.vm.findClass cn7 = some m.cls) (hret : meth.sig.returnType = none) (hlk : meth.locks = false) (hZ : Z.Warmed39 s.vm)
    (X0 : Stand p l e ({ frames := 1, cells := 1, slots := 15, locals := 13 } : Room) s m #[(.ref o1)] below meth c T0 locs 0 0) (e0 : T0.heap = h0) (N0 : Fr n0 locs) (pre0 : Go p e below T0 (mkF m 24 #[.val (.ref o1), .val (.int p5), .val (.int p6), .val (.int p8), .unset, .unset, .unset] []) E0) :
    (∃ (T' : State) (lc : List Loc), Stand p l e ({ frames := 1, cells := 1, slots := 15, locals := 13 } : Room) s m #[(.ref o1)] below meth c T' lc 0 0 ∧ Fr n0 lc ∧ T'.heap = h0 ∧ Go p e below T' (mkF m 29 #[.val (.ref o1), .val (.int p5), .val (.int p6), .val (.int p8), .unset, .unset, .unset] [(.int ((p8 + p5) + p6))]) E0) := by
 have pre1 : Go p e below T0 (mkF m 29 #[.val (.ref o1), .val (.int p5), .val (.int p6), .val (.int p8), .unset, .unset, .unset] [(.int ((p8 + p5) + p6))]) E0 := fun t k => by
  refine pre0 _ ?_
  refine yin X0 hx hby d4_24 rfl ?_
  refine yin X0 hx hby d4_25 rfl ?_
  refine yad X0 hx hby d4_26 ?_
  refine yin X0 hx hby d4_27 rfl ?_
  refine yad X0 hx hby d4_28 ?_
  exact k
 exact ⟨_, _, X0, N0, e0, pre1⟩
set_option maxRecDepth 65536 in
set_option maxHeartbeats 40000000 in
theorem mv_4a {p : Program} {l : Launch} {e : Env} {s : State} {m : MethodId} {below : List Frame} {meth : Method} {c : Code} {E0 T0 : State} {locs : List Loc} {Z : State} {a0 : Array Value} (hw : HW a0 Z) {p9 : Int32} {o1 : Addr} {p3 : Int32} {p5 : Int32} {p6 : Int32} {p8 : Int32} {h0 : Heap} {n0 : Nat} (O0 : Old Z n0 h0)
    (hx : p.tables.exec = Jvm.exec) (hby : c.code = prog_41_method_10_code) (hml : c.maxLocals = 7) (hown : s.vm.findClass cn7 = some m.cls) (hret : meth.sig.returnType = none) (hlk : meth.locks = false) (hZ : Z.Warmed39 s.vm)
    (X0 : Stand p l e ({ frames := 1, cells := 1, slots := 15, locals := 13 } : Room) s m #[(.ref o1)] below meth c T0 locs 0 0) (e0 : T0.heap = h0) (N0 : Fr n0 locs) (pre0 : Go p e below T0 (mkF m 29 #[.val (.ref o1), .val (.int p5), .val (.int p6), .val (.int p8), .unset, .unset, .unset] [(.int p9)]) E0) (bd_p9 : 0 ≤ p9.toInt ∧ p9.toInt ≤ 15) (P1 : Fld Z h0 o1 cn7 "first" "I" (.int p3)) :
    (∃ (T' : State) (lc : List Loc) (b2 : Addr) (k2 : ClassId), Stand p l e ({ frames := 1, cells := 1, slots := 15, locals := 13 } : Room) s m #[(.ref o1)] below meth c T' lc 1 15 ∧ Fr n0 lc ∧ Keep h0 T'.heap [] ∧ h0.size ≤ b2 ∧ Ovr Z k2 cn6 ∧ (Arv Z T'.heap b2 k2 (.object cn6) p9 [] .null) ∧ (Exa Z T'.heap b2 cn3) ∧ Go p e below T' (mkF m 43 #[.val (.ref o1), .val (.int p5), .val (.int p6), .val (.int p8), .val (.ref b2), .val (.int p8), .val (.int p3)] []) E0) := by
 have nn1 : ¬ (p9 < (0 : Int32)) := own_gnlt1 (n := 0) (k := (0 : Int32)) (by decide) (by have q0 := bd_p9; omega)
 obtain ⟨T2, h2, k2, X2, e2, E2, A2, EX2, OV2, st2⟩ := newRE X0 hx hZ hown (own_w hw 76 rfl) (own_w hw 16 rfl) e0 (g := (mkF m 29 #[.val (.ref o1), .val (.int p5), .val (.int p6), .val (.int p8), .unset, .unset, .unset] [(.int p9)])) rfl (hb hby d4_29) rfl nn1 (cap := 15) (by have q0 := bd_p9; simp only [Int32.toNatClampNeg]; omega) (by decide) (by decide) (by decide) (ad := cn3) (by decide)
 obtain ⟨b2, g2⟩ : ∃ z, z = h0.size := ⟨_, rfl⟩
 rw [← g2] at A2 EX2 st2
 have sz_b2 : h0.size ≤ b2 := Nat.le_of_eq g2.symm
 have V2_0 := Arv.new A2 nn1
 have V2 : Arv Z h2 b2 k2 (.object cn6) p9 [] .null := V2_0
 have f3 := (P1.ext E2)
 obtain ⟨T4, X4, e4, st4⟩ := yag X2 hx hZ hown hby (w_26 hw) e2 f3 37 #[.val (.ref o1), .val (.int p5), .val (.int p6), .val (.int p8), .val (.ref b2), .val (.int p8), .unset] [] d4_37 d4_38 rfl
 have pre5 : Go p e below T4 (mkF m 43 #[.val (.ref o1), .val (.int p5), .val (.int p6), .val (.int p8), .val (.ref b2), .val (.int p8), .val (.int p3)] []) E0 := fun t k => by
  refine pre0 _ ?_
  refine st2 _ ?_
  refine XS.astore X2.here hx rfl (hb hby d4_32) rfl rfl (l' := #[.val (.ref o1), .val (.int p5), .val (.int p6), .val (.int p8), .val (.ref b2), .unset, .unset]) rfl ?_
  refine yin X2 hx hby d4_34 rfl ?_
  refine yis X2 hx hby d4_35 (l' := #[.val (.ref o1), .val (.int p5), .val (.int p6), .val (.int p8), .val (.ref b2), .val (.int p8), .unset]) rfl ?_
  refine st4 _ ?_
  refine yis X4 hx hby d4_41 (l' := #[.val (.ref o1), .val (.int p5), .val (.int p6), .val (.int p8), .val (.ref b2), .val (.int p8), .val (.int p3)]) rfl ?_
  exact k
 have KL : Keep h0 h2 [] := ((Keep.refl h0 []).ext E2)
 exact ⟨_, _, b2, k2, X4, N0, (by rw [e4]; exact KL), (Nat.le_trans (Nat.le_refl _) sz_b2), OV2, (by rw [e4]; exact V2), (by rw [e4]; exact EX2), pre5⟩
set_option maxRecDepth 65536 in
set_option maxHeartbeats 40000000 in
theorem mv_5a {p : Program} {l : Launch} {e : Env} {s : State} {m : MethodId} {below : List Frame} {meth : Method} {c : Code} {E0 T0 : State} {locs : List Loc} {Z : State} {a0 : Array Value} (hw : HW a0 Z) {o7 : Addr} {o6 : Addr} {kc9 : ClassId} {p11 : Int32} {p4 : Int32} {p9 : Int32} {p10 : Int32} {p12 : Int32} {q7 : Int64} {o1 : Addr} {o5 : Addr} {kc8 : ClassId} {p5 : Int32} {p6 : Int32} {p8 : Int32} {vs : List Value} {vs2 : List Value} {ix1 : Nat} {h0 : Heap} {n0 : Nat} (O0 : Old Z n0 h0)
    (hx : p.tables.exec = Jvm.exec) (hby : c.code = prog_41_method_10_code) (hml : c.maxLocals = 7) (hown : s.vm.findClass cn7 = some m.cls) (hret : meth.sig.returnType = none) (hlk : meth.locks = false) (hZ : Z.Warmed39 s.vm)
    (X0 : Stand p l e ({ frames := 1, cells := 1, slots := 15, locals := 13 } : Room) s m #[(.ref o1)] below meth c T0 locs 1 15) (e0 : T0.heap = h0) (N0 : Fr n0 locs) (pre0 : Go p e below T0 (mkF m 43 #[.val (.ref o1), .val (.int p5), .val (.int p6), .val (.int p8), .val (.ref o7), .val (.int p10), .val (.int p11)] []) E0) (g_o7 : n0 ≤ o7) (g_o6 : n0 ≤ o6) (Ov_kc9 : Ovr Z kc9 cn6) (hp0 : p11 < p4) (hp1 : ¬ (p11 < (0 : Int32))) (hp2 : p11 < p9) (hp3 : ¬ (p10 < (0 : Int32))) (hp4 : p10 < p12) (hp5 : q7 = (9223372036854775807 : Int64)) (P1 : Fld Z h0 o1 cn7 "end" "I" (.int p4)) (P2 : Fld Z h0 o1 cn7 "slots" cn3 (.ref o5)) (P3 : Arv Z h0 o5 kc8 (.object cn6) p9 vs .null) (P4 : Exa Z h0 o6 cn6) (P5 : Fld Z h0 o6 cn6 "removed" "J" (.long q7)) (P6 : Arv Z h0 o7 kc9 (.object cn6) p12 vs2 .null) (P7 : Exa Z h0 o7 cn3) (hrd : vs.getD p11.toNatClampNeg .null = .ref o6) (hj : p10.toNatClampNeg = ix1) (hi : ix1 < vs2.length) :
    (∃ (T' : State) (lc : List Loc), Stand p l e ({ frames := 1, cells := 1, slots := 15, locals := 13 } : Room) s m #[(.ref o1)] below meth c T' lc 1 15 ∧ Fr n0 lc ∧ Keep h0 T'.heap [o7] ∧ (Arv Z T'.heap o7 kc9 (.object cn6) p12 (vs2.set ix1 (.ref o6)) .null) ∧ (Exa Z T'.heap o7 cn3) ∧ Go p e below T' (mkF m 43 #[.val (.ref o1), .val (.int p5), .val (.int p6), .val (.int p8), .val (.ref o7), .val (.int (p10 + (1 : Int32))), .val (.int (p11 + (1 : Int32)))] []) E0) := by
 obtain ⟨T1, X1, e1, st1⟩ := yag X0 hx hZ hown hby (w_24 hw) e0 P1 45 #[.val (.ref o1), .val (.int p5), .val (.int p6), .val (.int p8), .val (.ref o7), .val (.int p10), .val (.int p11)] [(.int p11)] d4_45 d4_46 rfl
 obtain ⟨T2, X2, e2, st2⟩ := yag X1 hx hZ hown hby (own_w hw 11 rfl) e1 P2 52 #[.val (.ref o1), .val (.int p5), .val (.int p6), .val (.int p8), .val (.ref o7), .val (.int p10), .val (.int p11)] [] d4_52 d4_53 rfl
 obtain ⟨cl3, Ar3, qa3, Sa3, Na3, Ha3, Ga3⟩ := id (P3)
 have hin3 := inb_of (j := p11) Sa3 ⟨hp1, hp2⟩
 have hat3 : cl3.slots[(p11).toNatClampNeg]? = some (.ref o6) := Has.at Ha3 hin3 hrd
 obtain ⟨_, T4, L4, X4, hQ4, st4⟩ := yv X2 hx hZ hown hby hml (y := yn1) (own_w hw 85 rfl) (own_w hw 86 rfl) (own_w hw 88 rfl) (own_w hw 87 rfl) (own_w hw 89 rfl) (own_w hw 36 rfl) e2 P4 [] [] (rm2 l Z a0 hw [] o6 q7 h0 n0 O0 g_o6 P5) 59 #[.val (.ref o1), .val (.int p5), .val (.int p6), .val (.int p8), .val (.ref o7), .val (.int p10), .val (.int p11)] rfl d4_59 (lenOf pd1 rfl) 0 1 15
 have pre5 : Go p e below T2 (mkF m 59 #[.val (.ref o1), .val (.int p5), .val (.int p6), .val (.int p8), .val (.ref o7), .val (.int p10), .val (.int p11)] [(.ref o6)]) E0 := fun t k => by
  refine pre0 _ ?_
  refine yil X0 hx hby d4_43 rfl ?_
  refine st1 _ ?_
  refine yno X1 hx hby d4_49 (tlt hp0).2.1 ?_
  refine st2 _ ?_
  refine yil X2 hx hby d4_56 rfl ?_
  refine X2.aaload hx (j := p11) (v := (.ref o6)) (by rw [e2]; exact Ar3.1) (State.isArrayOf_alike hZ.alike Ar3.2.1) rfl Ar3.2.2 hin3 hat3 (g := (mkF m 58 #[.val (.ref o1), .val (.int p5), .val (.int p6), .val (.int p8), .val (.ref o7), .val (.int p10), .val (.int p11)] [(.int p11), (.ref o5)])) rfl rfl (hb hby d4_58) _ ?_
  exact k
 rcases hQ4 with ⟨hc6, rfl, Nq7, e8⟩ | ⟨hc9, rfl, Nq10, e11⟩
 ·
  have N4 := Fr.app N0 Nq7
  obtain ⟨T12, X12, e12, st12⟩ := yag X4 hx hZ hown hby (own_w hw 11 rfl) e8 P2 69 #[.val (.ref o1), .val (.int p5), .val (.int p6), .val (.int p8), .val (.ref o7), .val (.int p10), .val (.int p11)] [(.int p10), (.ref o7)] d4_69 d4_70 rfl
  obtain ⟨cl13, Ar13, qa13, Sa13, Na13, Ha13, Ga13⟩ := id (P3)
  have hin13 := inb_of (j := p11) Sa13 ⟨hp1, hp2⟩
  have hat13 : cl13.slots[(p11).toNatClampNeg]? = some (.ref o6) := Has.at Ha13 hin13 hrd
  obtain ⟨cl14, Ar14, qa14, Sa14, Na14, Ha14, Ga14⟩ := id (P6)
  have hin14 := inb_of (j := p10) Sa14 ⟨hp3, hp4⟩
  obtain ⟨T15, h15, X15, e15, W15, st15⟩ := stR X12 hx hZ e12 Ar14 (j := p10) hin14 rfl (Sto.ofV Ar14 qa14 Ov_kc9 (Ins.self P4)) (g := (mkF m 76 #[.val (.ref o1), .val (.int p5), .val (.int p6), .val (.int p8), .val (.ref o7), .val (.int p10), .val (.int p11)] [(.ref o6), (.int p10), (.ref o7)])) rfl rfl (hb hby d4_76)
  have V15 : Arv Z h15 o7 kc9 (.object cn6) p12 (vs2.set ix1 (.ref o6)) .null := Arv.set Ar14 qa14 Sa14 Na14 Ha14 Ga14 rfl W15 ix1 hj hi
  have N15 := Fr.snoc X15 N4 g_o7
  have pre16 : Go p e below T15 (mkF m 43 #[.val (.ref o1), .val (.int p5), .val (.int p6), .val (.int p8), .val (.ref o7), .val (.int (p10 + (1 : Int32))), .val (.int (p11 + (1 : Int32)))] []) E0 := fun t k => by
   refine pre5 _ ?_
   refine st4 _ ?_
   refine yfn X4 hx hby d4_62 ((if0 _ _).trans (feq (by decide : ¬ ((1 : Int32) = (0 : Int32)))).1) ?_
   refine yal X4 hx hby d4_65 rfl rfl ?_
   refine yil X4 hx hby d4_67 rfl ?_
   refine st12 _ ?_
   refine yil X12 hx hby d4_73 rfl ?_
   refine X12.aaload hx (j := p11) (v := (.ref o6)) (by rw [e12]; exact Ar13.1) (State.isArrayOf_alike hZ.alike Ar13.2.1) rfl Ar13.2.2 hin13 hat13 (g := (mkF m 75 #[.val (.ref o1), .val (.int p5), .val (.int p6), .val (.int p8), .val (.ref o7), .val (.int p10), .val (.int p11)] [(.int p11), (.ref o5), (.int p10), (.ref o7)])) rfl rfl (hb hby d4_75) _ ?_
   refine st15 _ ?_
   refine XS.iinc X15.here hx rfl (hb hby d4_77) rfl (l' := #[.val (.ref o1), .val (.int p5), .val (.int p6), .val (.int p8), .val (.ref o7), .val (.int (p10 + (1 : Int32))), .val (.int p11)]) rfl ?_
   refine XS.iinc X15.here hx rfl (hb hby d4_80) rfl (l' := #[.val (.ref o1), .val (.int p5), .val (.int p6), .val (.int p8), .val (.ref o7), .val (.int (p10 + (1 : Int32))), .val (.int (p11 + (1 : Int32)))]) rfl ?_
   refine ygo X15 hx hby 83 43 rfl d4_83 (by decide) ?_
   exact k
  have KL : Keep h0 h15 [o7] := ((Keep.refl h0 [o7]).wr W15 (Or.inl (List.mem_of_getElem? (i := 0) rfl)))
  have f17 := (P7.wr W15)
  exact ⟨_, _, X15, N15, (by rw [e15]; exact KL), (by rw [e15]; exact V15), (by rw [e15]; exact f17), pre16⟩
 ·
  exact absurd hp5 hc9
set_option maxRecDepth 65536 in
set_option maxHeartbeats 40000000 in
theorem mv_8a {p : Program} {l : Launch} {e : Env} {s : State} {m : MethodId} {below : List Frame} {meth : Method} {c : Code} {E0 T0 : State} {locs : List Loc} {Z : State} {a0 : Array Value} (hw : HW a0 Z) {o6 : Addr} {p11 : Int32} {p4 : Int32} {p9 : Int32} {q7 : Int64} {o1 : Addr} {o5 : Addr} {kc8 : ClassId} {p5 : Int32} {p6 : Int32} {p8 : Int32} {o7 : Addr} {p10 : Int32} {vs : List Value} {h0 : Heap} {n0 : Nat} (O0 : Old Z n0 h0)
    (hx : p.tables.exec = Jvm.exec) (hby : c.code = prog_41_method_10_code) (hml : c.maxLocals = 7) (hown : s.vm.findClass cn7 = some m.cls) (hret : meth.sig.returnType = none) (hlk : meth.locks = false) (hZ : Z.Warmed39 s.vm)
    (X0 : Stand p l e ({ frames := 1, cells := 1, slots := 15, locals := 13 } : Room) s m #[(.ref o1)] below meth c T0 locs 1 15) (e0 : T0.heap = h0) (N0 : Fr n0 locs) (pre0 : Go p e below T0 (mkF m 43 #[.val (.ref o1), .val (.int p5), .val (.int p6), .val (.int p8), .val (.ref o7), .val (.int p10), .val (.int p11)] []) E0) (g_o6 : n0 ≤ o6) (hp0 : p11 < p4) (hp1 : ¬ (p11 < (0 : Int32))) (hp2 : p11 < p9) (hp3 : ¬ (q7 = (9223372036854775807 : Int64))) (P1 : Fld Z h0 o1 cn7 "end" "I" (.int p4)) (P2 : Fld Z h0 o1 cn7 "slots" cn3 (.ref o5)) (P3 : Arv Z h0 o5 kc8 (.object cn6) p9 vs .null) (P4 : Exa Z h0 o6 cn6) (P5 : Fld Z h0 o6 cn6 "removed" "J" (.long q7)) (hrd : vs.getD p11.toNatClampNeg .null = .ref o6) :
    (∃ (T' : State) (lc : List Loc), Stand p l e ({ frames := 1, cells := 1, slots := 15, locals := 13 } : Room) s m #[(.ref o1)] below meth c T' lc 1 15 ∧ Fr n0 lc ∧ T'.heap = h0 ∧ Go p e below T' (mkF m 43 #[.val (.ref o1), .val (.int p5), .val (.int p6), .val (.int p8), .val (.ref o7), .val (.int p10), .val (.int (p11 + (1 : Int32)))] []) E0) := by
 obtain ⟨T1, X1, e1, st1⟩ := yag X0 hx hZ hown hby (w_24 hw) e0 P1 45 #[.val (.ref o1), .val (.int p5), .val (.int p6), .val (.int p8), .val (.ref o7), .val (.int p10), .val (.int p11)] [(.int p11)] d4_45 d4_46 rfl
 obtain ⟨T2, X2, e2, st2⟩ := yag X1 hx hZ hown hby (own_w hw 11 rfl) e1 P2 52 #[.val (.ref o1), .val (.int p5), .val (.int p6), .val (.int p8), .val (.ref o7), .val (.int p10), .val (.int p11)] [] d4_52 d4_53 rfl
 obtain ⟨cl3, Ar3, qa3, Sa3, Na3, Ha3, Ga3⟩ := id (P3)
 have hin3 := inb_of (j := p11) Sa3 ⟨hp1, hp2⟩
 have hat3 : cl3.slots[(p11).toNatClampNeg]? = some (.ref o6) := Has.at Ha3 hin3 hrd
 obtain ⟨_, T4, L4, X4, hQ4, st4⟩ := yv X2 hx hZ hown hby hml (y := yn1) (own_w hw 85 rfl) (own_w hw 86 rfl) (own_w hw 88 rfl) (own_w hw 87 rfl) (own_w hw 89 rfl) (own_w hw 36 rfl) e2 P4 [] [] (rm2 l Z a0 hw [] o6 q7 h0 n0 O0 g_o6 P5) 59 #[.val (.ref o1), .val (.int p5), .val (.int p6), .val (.int p8), .val (.ref o7), .val (.int p10), .val (.int p11)] rfl d4_59 (lenOf pd1 rfl) 0 1 15
 have pre5 : Go p e below T2 (mkF m 59 #[.val (.ref o1), .val (.int p5), .val (.int p6), .val (.int p8), .val (.ref o7), .val (.int p10), .val (.int p11)] [(.ref o6)]) E0 := fun t k => by
  refine pre0 _ ?_
  refine yil X0 hx hby d4_43 rfl ?_
  refine st1 _ ?_
  refine yno X1 hx hby d4_49 (tlt hp0).2.1 ?_
  refine st2 _ ?_
  refine yil X2 hx hby d4_56 rfl ?_
  refine X2.aaload hx (j := p11) (v := (.ref o6)) (by rw [e2]; exact Ar3.1) (State.isArrayOf_alike hZ.alike Ar3.2.1) rfl Ar3.2.2 hin3 hat3 (g := (mkF m 58 #[.val (.ref o1), .val (.int p5), .val (.int p6), .val (.int p8), .val (.ref o7), .val (.int p10), .val (.int p11)] [(.int p11), (.ref o5)])) rfl rfl (hb hby d4_58) _ ?_
  exact k
 rcases hQ4 with ⟨hc6, rfl, Nq7, e8⟩ | ⟨hc9, rfl, Nq10, e11⟩
 ·
  exact absurd hc6 hp3
 ·
  have N4 := Fr.app N0 Nq10
  have pre12 : Go p e below T4 (mkF m 43 #[.val (.ref o1), .val (.int p5), .val (.int p6), .val (.int p8), .val (.ref o7), .val (.int p10), .val (.int (p11 + (1 : Int32)))] []) E0 := fun t k => by
   refine pre5 _ ?_
   refine st4 _ ?_
   refine XS.ifYes X4.here hx rfl (pc0 := 62) (pc' := 80) rfl (hb hby d4_62) rfl ((if0 _ _).trans (teq (by decide : (0 : Int32) = (0 : Int32))).1) (by decide) (by decide) ?_
   refine XS.iinc X4.here hx rfl (hb hby d4_80) rfl (l' := #[.val (.ref o1), .val (.int p5), .val (.int p6), .val (.int p8), .val (.ref o7), .val (.int p10), .val (.int (p11 + (1 : Int32)))]) rfl ?_
   refine ygo X4 hx hby 83 43 rfl d4_83 (by decide) ?_
   exact k
  exact ⟨_, _, X4, N4, e11, pre12⟩
set_option maxRecDepth 65536 in
set_option maxHeartbeats 40000000 in
theorem mv_6a {p : Program} {l : Launch} {e : Env} {s : State} {m : MethodId} {below : List Frame} {meth : Method} {c : Code} {E0 T0 : State} {locs : List Loc} {Z : State} {a0 : Array Value} (hw : HW a0 Z) {p11 : Int32} {p4 : Int32} {o1 : Addr} {p5 : Int32} {p6 : Int32} {p8 : Int32} {o7 : Addr} {p10 : Int32} {h0 : Heap} {n0 : Nat} (O0 : Old Z n0 h0)
    (hx : p.tables.exec = Jvm.exec) (hby : c.code = prog_41_method_10_code) (hml : c.maxLocals = 7) (hown : s.vm.findClass cn7 = some m.cls) (hret : meth.sig.returnType = none) (hlk : meth.locks = false) (hZ : Z.Warmed39 s.vm)
    (X0 : Stand p l e ({ frames := 1, cells := 1, slots := 15, locals := 13 } : Room) s m #[(.ref o1)] below meth c T0 locs 1 15) (e0 : T0.heap = h0) (N0 : Fr n0 locs) (pre0 : Go p e below T0 (mkF m 43 #[.val (.ref o1), .val (.int p5), .val (.int p6), .val (.int p8), .val (.ref o7), .val (.int p10), .val (.int p11)] []) E0) (hp0 : ¬ (p11 < p4)) (P1 : Fld Z h0 o1 cn7 "end" "I" (.int p4)) :
    (∃ (T' : State) (lc : List Loc), Stand p l e ({ frames := 1, cells := 1, slots := 15, locals := 13 } : Room) s m #[(.ref o1)] below meth c T' lc 1 15 ∧ Fr n0 lc ∧ T'.heap = h0 ∧ Go p e below T' (mkF m 86 #[.val (.ref o1), .val (.int p5), .val (.int p6), .val (.int p8), .val (.ref o7), .val (.int p10), .val (.int p11)] []) E0) := by
 obtain ⟨T1, X1, e1, st1⟩ := yag X0 hx hZ hown hby (w_24 hw) e0 P1 45 #[.val (.ref o1), .val (.int p5), .val (.int p6), .val (.int p8), .val (.ref o7), .val (.int p10), .val (.int p11)] [(.int p11)] d4_45 d4_46 rfl
 have pre2 : Go p e below T1 (mkF m 86 #[.val (.ref o1), .val (.int p5), .val (.int p6), .val (.int p8), .val (.ref o7), .val (.int p10), .val (.int p11)] []) E0 := fun t k => by
  refine pre0 _ ?_
  refine yil X0 hx hby d4_43 rfl ?_
  refine st1 _ ?_
  refine yye X1 hx hby 49 86 rfl d4_49 (flt hp0).2.1 (by decide) ?_
  exact k
 exact ⟨_, _, X1, N0, e1, pre2⟩
def l424_0 (o1 : Addr) (p5 p6 p8 : Int32) (o7 : Addr) (p10 p11 : Int32) : Array Slot := #[.val (.ref o1), .val (.int p5), .val (.int p6), .val (.int p8), .val (.ref o7), .val (.int p10), .val (.int p11)]
set_option maxRecDepth 65536 in
set_option maxHeartbeats 40000000 in
theorem mv_7a {p : Program} {l : Launch} {e : Env} {s : State} {m : MethodId} {below : List Frame} {meth : Method} {c : Code} {E0 T0 : State} {locs : List Loc} {Z : State} {a0 : Array Value} (hw : HW a0 Z) {o1 : Addr} {o5 : Addr} {p13 : Int32} {p14 : Int32} {p15 : Int32} {p16 : Int32} {p17 : Int32} {p5 : Int32} {p6 : Int32} {p8 : Int32} {o7 : Addr} {p10 : Int32} {p11 : Int32} {h0 : Heap} {n0 : Nat} (O0 : Old Z n0 h0)
    (hx : p.tables.exec = Jvm.exec) (hby : c.code = prog_41_method_10_code) (hml : c.maxLocals = 7) (hown : s.vm.findClass cn7 = some m.cls) (hret : meth.sig.returnType = none) (hlk : meth.locks = false) (hZ : Z.Warmed39 s.vm)
    (X0 : Stand p l e ({ frames := 1, cells := 1, slots := 15, locals := 13 } : Room) s m #[(.ref o1)] below meth c T0 locs 1 15) (e0 : T0.heap = h0) (N0 : Fr n0 locs) (pre0 : Go p e below T0 (mkF m 86 (l424_0 o1 p5 p6 p8 o7 p10 p11) []) E0) (g_o1 : n0 ≤ o1) (P0 : Exa Z h0 o1 cn7) (P1 : Fld Z h0 o1 cn7 "slots" cn3 (.ref o5)) (P2 : Fld Z h0 o1 cn7 "low" "I" (.int p13)) (P3 : Fld Z h0 o1 cn7 "first" "I" (.int p14)) (P4 : Fld Z h0 o1 cn7 "end" "I" (.int p15)) (P5 : Fld Z h0 o1 cn7 "removed" "I" (.int p16)) (P6 : Fld Z h0 o1 cn7 "addsFirst" "Z" (.int p17)) :
    (∃ (s₂ : State) (L : List Loc), Steps p.tables e below E0 s₂ ∧ s₂.status = .running ∧ Ended s₂ below (.returned none) ∧ Fr n0 L ∧ FrameEnd s (.returned none) s₂ L 1 15 ∧ Keep h0 s₂.heap [o1] ∧ (Exa Z s₂.heap o1 cn7) ∧ (Fld Z s₂.heap o1 cn7 "addsFirst" "Z" (.int p17)) ∧ (Fld Z s₂.heap o1 cn7 "end" "I" (.int p10)) ∧ (Fld Z s₂.heap o1 cn7 "first" "I" (.int p8)) ∧ (Fld Z s₂.heap o1 cn7 "low" "I" (.int p8)) ∧ (Fld Z s₂.heap o1 cn7 "removed" "I" (.int 0)) ∧ (Fld Z s₂.heap o1 cn7 "slots" cn3 (.ref o7))) := by
 obtain ⟨T1, h1, X1, e1, W1, st1⟩ := yp X0 hx hZ hown hby (own_w hw 11 rfl) e0 P1 P0 (own_w hw 12 rfl) (w_1 hw) (ty := (.array (.object cn6))) (v := (.ref o7)) (by decide) rfl rfl 89 (l424_0 o1 p5 p6 p8 o7 p10 p11) [] d4_89
 have N1 := Fr.snoc X1 N0 g_o1
 have Fw1 := P1.same W1
 have f2 := (P2.other W1 (Or.inr (sn0 hw)))
 have f3 := (P0.wr W1)
 obtain ⟨T4, h4, X4, e4, W4, st4⟩ := yp X1 hx hZ hown hby (own_w hw 77 rfl) e1 f2 f3 (own_w hw 78 rfl) (w_1 hw) (ty := .int) (v := (.int p8)) (by decide) rfl rfl 94 (l424_0 o1 p5 p6 p8 o7 p10 p11) [] d4_94
 have N4 := Fr.snoc X4 N1 g_o1
 have Fw4 := f2.same W4
 have f5 := ((P3.other W1 (Or.inr (sn1 hw))).other W4 (Or.inr (sn2 hw)))
 have f6 := (f3.wr W4)
 obtain ⟨T7, h7, X7, e7, W7, st7⟩ := yp X4 hx hZ hown hby (w_26 hw) e4 f5 f6 (own_w hw 27 rfl) (w_1 hw) (ty := .int) (v := (.int p8)) (by decide) rfl rfl 99 (l424_0 o1 p5 p6 p8 o7 p10 p11) [] d4_99
 have N7 := Fr.snoc X7 N4 g_o1
 have Fw7 := f5.same W7
 have f8 := (((P4.other W1 (Or.inr (sn3 hw))).other W4 (Or.inr (sn4 hw))).other W7 (Or.inr (sn5 hw)))
 have f9 := (f6.wr W7)
 obtain ⟨T10, h10, X10, e10, W10, st10⟩ := yp X7 hx hZ hown hby (w_24 hw) e7 f8 f9 (own_w hw 25 rfl) (w_1 hw) (ty := .int) (v := (.int p10)) (by decide) rfl rfl 105 (l424_0 o1 p5 p6 p8 o7 p10 p11) [] d4_105
 have N10 := Fr.snoc X10 N7 g_o1
 have Fw10 := f8.same W10
 have f11 := ((((P5.other W1 (Or.inr (sn6 hw))).other W4 (Or.inr (sn7 hw))).other W7 (Or.inr (sn8 hw))).other W10 (Or.inr (sn9 hw)))
 have f12 := (f9.wr W10)
 obtain ⟨T13, h13, X13, e13, W13, st13⟩ := yp X10 hx hZ hown hby (own_w hw 28 rfl) e10 f11 f12 (own_w hw 29 rfl) (w_1 hw) (ty := .int) (v := (.int 0)) (by decide) rfl rfl 110 (l424_0 o1 p5 p6 p8 o7 p10 p11) [] d4_110
 have N13 := Fr.snoc X13 N10 g_o1
 have Fw13 := f11.same W13
 obtain ⟨fs, hr, hrun, hended, hW, hsame⟩ := X13.leave (v := none) (fun _ => rfl)
 have KL : Keep h0 h13 [o1] := ((((((Keep.refl h0 [o1]).wr W1 (Or.inl (List.mem_of_getElem? (i := 0) rfl))).wr W4 (Or.inl (List.mem_of_getElem? (i := 0) rfl))).wr W7 (Or.inl (List.mem_of_getElem? (i := 0) rfl))).wr W10 (Or.inl (List.mem_of_getElem? (i := 0) rfl))).wr W13 (Or.inl (List.mem_of_getElem? (i := 0) rfl)))
 have f14 := (f12.wr W13)
 have f15 := (((((P6.other W1 (Or.inr (sn10 hw))).other W4 (Or.inr (sn11 hw))).other W7 (Or.inr (sn12 hw))).other W10 (Or.inr (sn13 hw))).other W13 (Or.inr (sn14 hw)))
 have f16 := (Fw10.other W13 (Or.inr (sn15 hw)))
 have f17 := ((Fw7.other W10 (Or.inr (sn17 hw))).other W13 (Or.inr (sn18 hw)))
 have f18 := (((Fw4.other W7 (Or.inr (sn20 hw))).other W10 (Or.inr (sn21 hw))).other W13 (Or.inr (sn22 hw)))
 have f19 := ((((Fw1.other W4 (Or.inr (sn25 hw))).other W7 (Or.inr (sn26 hw))).other W10 (Or.inr (sn27 hw))).other W13 (Or.inr (sn28 hw)))
 refine ⟨_, _, pre0 _ ?_, hrun, hended, N13, ⟨⟨_, rfl⟩, hW, hsame.mono (by decide) (by decide)⟩, (by show _; rw [show (T13.setFrames fs).heap = _ from e13]; exact KL), (by show _; rw [show (T13.setFrames fs).heap = _ from e13]; exact f14), (by show _; rw [show (T13.setFrames fs).heap = _ from e13]; exact f15), (by show _; rw [show (T13.setFrames fs).heap = _ from e13]; exact f16), (by show _; rw [show (T13.setFrames fs).heap = _ from e13]; exact f17), (by show _; rw [show (T13.setFrames fs).heap = _ from e13]; exact f18), (by show _; rw [show (T13.setFrames fs).heap = _ from e13]; exact Fw13), (by show _; rw [show (T13.setFrames fs).heap = _ from e13]; exact f19)⟩
 show Steps p.tables e below (T0.setTop (mkF m 86 (l424_0 o1 p5 p6 p8 o7 p10 p11) [])) _
 refine yan X0 hx hby d4_86 rfl rfl ?_
 refine yal X0 hx hby d4_87 rfl rfl ?_
 refine st1 _ ?_
 refine yan X1 hx hby d4_92 rfl rfl ?_
 refine yin X1 hx hby d4_93 rfl ?_
 refine st4 _ ?_
 refine yan X4 hx hby d4_97 rfl rfl ?_
 refine yin X4 hx hby d4_98 rfl ?_
 refine st7 _ ?_
 refine yan X7 hx hby d4_102 rfl rfl ?_
 refine yil X7 hx hby d4_103 rfl ?_
 refine st10 _ ?_
 refine yan X10 hx hby d4_108 rfl rfl ?_
 refine yic X10 hx hby d4_109 ?_
 refine st13 _ ?_
 show Steps p.tables e below (T13.setTop (mkF m 113 (l424_0 o1 p5 p6 p8 o7 p10 p11) [])) _
 exact X13.returnOut hx hret (hb hby d4_113) hr
theorem mv_loopa {p : Program} {l : Launch} {e : Env} {s : State} {m : MethodId} {below : List Frame} {meth : Method} {c : Code} {E0 : State} {Z : State} {a0 : Array Value} (hw : HW a0 Z) {o1 sa o7 : Addr} {p5 p6 p8 : Int32} {ka k7 : ClassId} {vs : List Value} {n n7 n0 : Nat} {mk : Addr → Int64}
    (hx : p.tables.exec = Jvm.exec) (hby : c.code = prog_41_method_10_code) (hml : c.maxLocals = 7) (hown : s.vm.findClass cn7 = some m.cls) (hret : meth.sig.returnType = none) (hlk : meth.locks = false) (hZ : Z.Warmed39 s.vm) (hn : n ≤ 64) (hn7 : n7 ≤ 64) (g7 : n0 ≤ o7) (ov : Ovr Z k7 cn6) (h71 : o1 ≠ o7) (h7s : sa ≠ o7) :
    ∀ (rest : List Addr) (i t : Nat) (vs2 : List Value) (h0 : Heap) (T0 : State) (locs : List Loc), Old Z n0 h0 → Stand p l e ({ frames := 1, cells := 1, slots := 15, locals := 13 } : Room) s m #[(.ref o1)] below meth c T0 locs 1 15 → T0.heap = h0 → Fr n0 locs →
      Go p e below T0 (mkF m 43 #[.val (.ref o1), .val (.int p5), .val (.int p6), .val (.int p8), .val (.ref o7), .val (.int (N32 t)), .val (.int (N32 i))] []) E0 → Fld Z h0 o1 cn7 "end" "I" (.int (N32 (i + rest.length))) → Fld Z h0 o1 cn7 "slots" cn3 (.ref sa) →
      Arv Z h0 sa ka (.object cn6) (N32 n) vs .null → i + rest.length ≤ n → (∀ j (hj : j < rest.length), vs.getD (i + j) .null = .ref rest[j]) → CF Z h0 n0 rest mk →
      Arv Z h0 o7 k7 (.object cn6) (N32 n7) vs2 .null → Exa Z h0 o7 cn3 → vs2.length = n7 → t + (rest.filter (lv mk)).length ≤ n7 →
      ∃ (T' : State) (lc : List Loc) (w : List Value), Stand p l e ({ frames := 1, cells := 1, slots := 15, locals := 13 } : Room) s m #[(.ref o1)] below meth c T' lc 1 15 ∧ Fr n0 lc ∧ Keep h0 T'.heap [o7] ∧ Arv Z T'.heap o7 k7 (.object cn6) (N32 n7) w .null ∧ Exa Z T'.heap o7 cn3 ∧ w.length = n7 ∧ (∀ j, j < t → w.getD j .null = vs2.getD j .null) ∧ (∀ j (hj : j < (rest.filter (lv mk)).length), w.getD (t + j) .null = .ref (rest.filter (lv mk))[j]) ∧
        Go p e below T' (mkF m 86 #[.val (.ref o1), .val (.int p5), .val (.int p6), .val (.int p8), .val (.ref o7), .val (.int (N32 (t + (rest.filter (lv mk)).length))), .val (.int (N32 (i + rest.length)))] []) E0 := by
  intro rest
  induction rest with
  | nil =>
    intro i t vs2 h0 T0 locs O0 X0 e0 N0 pre0 Pe Ps PA hle hrd hcf P7 E7 hv2 ht
    obtain ⟨T', lc, X', N', e', pre'⟩ := mv_6a hw O0 hx hby hml hown hret hlk hZ X0 e0 N0 pre0 (fun q => absurd ((n_lt (by simp at hle; omega) (by simp at hle; simp; omega)).mp q) (by simp)) Pe
    refine ⟨T', lc, vs2, X', N', ?_, ?_, ?_, hv2, fun j _ => rfl, fun j hj => absurd hj (by simp), pre'⟩
    · rw [e']; exact Keep.refl _ _
    · rw [e']; exact P7
    · rw [e']; exact E7
  | cons a rest ih =>
    intro i t vs2 h0 T0 locs O0 X0 e0 N0 pre0 Pe Ps PA hle hrd hcf P7 E7 hv2 ht
    have hl : i + (rest.length + 1) ≤ n := by simpa using hle
    have ea : i + (a :: rest).length = (i + 1) + rest.length := by simp; omega
    rw [ea] at Pe ⊢
    obtain ⟨ga, Ea, Fa⟩ := hcf a (List.mem_cons_self ..)
    have hr0 : vs.getD (N32 i).toNatClampNeg .null = .ref a := by rw [n_nat (by omega)]; exact hrd 0 (by simp)
    have hrd' : ∀ j (hj : j < rest.length), vs.getD (i + 1 + j) .null = .ref rest[j] := fun j hj => by
      have := hrd (j + 1) (by simp; omega)
      rw [show i + 1 + j = i + (j + 1) by omega]; simpa using this
    have i1 : N32 i + (1 : Int32) = N32 (i + 1) := n_add i 1
    have t1 : N32 t + (1 : Int32) = N32 (t + 1) := n_add t 1
    have hcf' : CF Z h0 n0 rest mk := fun c hc => hcf c (List.mem_cons_of_mem _ hc)
    by_cases hm : mk a = MX
    · have hf : (a :: rest).filter (lv mk) = a :: rest.filter (lv mk) := by simp [lv, hm]
      rw [hf] at ht ⊢
      have ht' : t + ((rest.filter (lv mk)).length + 1) ≤ n7 := by simpa using ht
      have na : o7 ≠ a := ne_exa E7 Ea (by decide)
      rcases mv_5a hw O0 hx hby hml hown hret hlk hZ X0 e0 N0 pre0 g7 ga ov ((n_lt (by omega) (by omega)).mpr (by omega)) (n_nn (by omega)) ((n_lt (by omega) (by omega)).mpr (by omega)) (n_nn (by omega)) ((n_lt (by omega) (by omega)).mpr (by omega)) hm Pe Ps PA Ea Fa P7 E7 hr0 (n_nat (by omega)) (by omega) with ⟨T', lc, X', N', K', P7', E7', pre'⟩
      · rw [i1, t1] at pre'
        obtain ⟨T2, lc2, w, X2, N2, K2, A2, E2, w1, w2, w3, pre2⟩ := ih (i + 1) (t + 1) (vs2.set t (.ref a)) T'.heap T' lc (O0.keep K' (allS g7 all0)) X' rfl N' pre' (Pe.keep K' (ninS h71 nin0)) (Ps.keep K' (ninS h71 nin0)) (PA.keep K' (ninS h7s nin0)) (by omega) hrd'
          (fun c hc => by obtain ⟨gc, Ec, Fc⟩ := hcf' c hc; exact ⟨gc, Ec.keep K', Fc.keep K' (ninS (fun q => (ne_exa E7 Ec (by decide)) q.symm) nin0)⟩) P7' E7' (by simpa using hv2) (by omega)
        have el : t + (a :: rest.filter (lv mk)).length = t + 1 + (rest.filter (lv mk)).length := by simp; omega
        refine ⟨T2, lc2, w, X2, N2, K'.trans K2 (fun x hx => Or.inl hx), A2, E2, w1, fun j hj => ?_, fun j hj => ?_, by rw [el]; exact pre2⟩
        · rw [w2 j (by omega)]; simp only [List.getD_eq_getElem?_getD]; rw [List.getElem?_set_ne (by omega)]
        · cases j with
          | zero => rw [Nat.add_zero, w2 t (by omega)]; simp only [List.getD_eq_getElem?_getD]; rw [List.getElem?_set_self (by omega)]; rfl
          | succ j => rw [show t + (j + 1) = t + 1 + j by omega]; have := w3 j (by simpa using hj); simpa using this
    · have hf : (a :: rest).filter (lv mk) = rest.filter (lv mk) := by simp [lv, hm]
      rw [hf] at ht ⊢
      obtain ⟨T', lc, X', N', e', pre'⟩ := mv_8a hw O0 hx hby hml hown hret hlk hZ X0 e0 N0 pre0 ga ((n_lt (by omega) (by omega)).mpr (by omega)) (n_nn (by omega)) ((n_lt (by omega) (by omega)).mpr (by omega)) hm Pe Ps PA Ea Fa hr0
      rw [i1] at pre'
      exact ih (i + 1) t vs2 h0 T' lc O0 X' e' N' pre' Pe Ps PA (by omega) hrd' hcf' P7 E7 hv2 ht
theorem ef_mva (m : MethodId) (x0 : Addr) : entryFrame m #[(.ref x0)] 7 = mkF m 0 #[.val (.ref x0), .unset, .unset, .unset, .unset, .unset, .unset] [] := by first | (simp [entryFrame, mkF, argsToLocals, Value.category]; done) | rfl
def QMVa (Z : State) (o1 : Addr) (C : List Addr) (mk : Addr → Int64) (af : Int32) (k : Nat) (h0 : Heap) (n0 : Nat) (v : Option Value) (h : Heap) (L : List Loc) : Prop :=
  v = none ∧ Fr n0 L ∧ Keep h0 h [o1] ∧ ∃ sa ka vs n lo en D, LS Z h n0 o1 sa ka vs n lo lo en 0 af ∧ LD C D mk vs n lo lo en 0 af ∧ en < n ∧ (af = 1 → 0 < lo) ∧ n0 ≤ sa ∧ h0.size ≤ sa ∧ en - lo - 0 = k
set_option maxHeartbeats 4000000 in
theorem m_mva (l : Launch) (Z : State) (a0 : Array Value) (hw : HW a0 Z) (ws : List Jvm.Cond) (o1 : Addr) (C D : List Addr) (mk : Addr → Int64) (sa : Addr) (ka : ClassId) (vs : List Value) (n lo fi en re : Nat) (af : Int32) (h0 : Heap) (n0 : Nat) (O0 : Old Z n0 h0) (HC : CF Z h0 n0 C mk) (HS : LS Z h0 n0 o1 sa ka vs n lo fi en re af) (HD : LD C D mk vs n lo fi en re af) (hB : en - fi - re ≤ 5) :
    MF l yn4 prog_41_method_10_code 7 none ws ({ frames := 1, cells := 1, slots := 15, locals := 13 } : Room) #[(.ref o1)] Z h0 (QMVa Z o1 C mk af (en - fi - re) h0 n0) := by
  refine MetFree.of_bodySF (plainFor_of_name pn0) hisR ?_
  intro p e s m args below meth c s₁ Bd hml hP hK
  obtain ⟨rfl, hZ, hh⟩ := hP
  obtain ⟨hx, hby, hown, hret, hlk, X0, e0, N0⟩ := own_bd Bd hh n0
  have pre0 := own_ct s₁ (p := p) (e := e) (below := below) (ef_mva m o1)
  revert pre0
  generalize s₁.setTop (entryFrame m #[(.ref o1)] 7) = E0
  intro pre0
  obtain ⟨go, PE, Ps, Pl, Pf, Pe, Pr, Pa, PA, PX, dso⟩ := id HS
  obtain ⟨d1, d2, d3, d4, d5, d6, d7, d8, d9, d10, d11, d12, d13⟩ := id HD
  have hlen : (D.drop (fi - lo)).length = en - fi := by rw [List.length_drop]; omega
  have hcnt : (D.drop (fi - lo)).length = (D.drop (fi - lo)).countP (fun c => decide (mk c ≠ MX)) + (D.drop (fi - lo)).countP (lv mk) := by
    rw [List.length_eq_countP_add_countP (fun c => decide (mk c ≠ MX))]
    congr 1
    apply List.countP_congr; intro x _; simp [lv]
  rw [← d12, hlen] at hcnt
  have hfl : ((D.drop (fi - lo)).filter (lv mk)).length = en - fi - re := by
    rw [← List.countP_eq_length_filter]; omega
  have hre : re ≤ en - fi := by omega
  generalize hk : en - fi - re = k at hB hfl ⊢
  obtain ⟨T1, lc1, X1, N1, e1, pre1⟩ := mv_0a hw O0 hx hby hml hown hret hlk hZ X0 e0 N0 pre0 go PE Pe Pf Pr
  rw [n_sub d7, n_sub hre, hk] at pre1
  obtain ⟨r, hr, T2, lc2, X2, N2, e2, pre2⟩ : ∃ r : Nat, (4 ≤ r ∧ k ≤ r ∧ r ≤ 5) ∧ ∃ (T' : State) (lc : List Loc), Stand p l e ({ frames := 1, cells := 1, slots := 15, locals := 13 } : Room) s m #[(.ref o1)] below meth c T' lc 0 0 ∧ Fr n0 lc ∧ T'.heap = h0 ∧ Go p e below T' (mkF m 11 #[.val (.ref o1), .val (.int (N32 k)), .val (.int (N32 r)), .unset, .unset, .unset, .unset] []) E0 := by
    rcases mv_1a hw O0 hx hby hml hown hret hlk hZ X1 e1 N1 pre1 with ⟨T', lc, hc, r⟩ | ⟨T', lc, hc, r⟩
    · exact ⟨k, ⟨Nat.le_of_lt ((n_lt (a := 4) (by omega) (by omega)).mp hc), Nat.le_refl _, hB⟩, T', lc, r⟩
    · exact ⟨4, ⟨Nat.le_refl _, Nat.le_of_not_lt (fun q => hc ((n_lt (a := 4) (by omega) (by omega)).mpr q)), by omega⟩, T', lc, r⟩
  obtain ⟨b, hb1, hb2, T3, lc3, X3, N3, e3, pre3⟩ : ∃ b : Nat, b ≤ r ∧ (af = 1 → 0 < b) ∧ ∃ (T' : State) (lc : List Loc), Stand p l e ({ frames := 1, cells := 1, slots := 15, locals := 13 } : Room) s m #[(.ref o1)] below meth c T' lc 0 0 ∧ Fr n0 lc ∧ T'.heap = h0 ∧ Go p e below T' (mkF m 24 #[.val (.ref o1), .val (.int (N32 k)), .val (.int (N32 r)), .val (.int (N32 b)), .unset, .unset, .unset] []) E0 := by
    rcases mv_2a hw O0 hx hby hml hown hret hlk hZ X2 e2 N2 pre2 Pa with ⟨T', lc, hc, r⟩ | ⟨T', lc, hc, r'⟩
    · exact ⟨0, Nat.zero_le _, fun q => absurd (q.symm.trans hc) (by decide), T', lc, r⟩
    · exact ⟨r, Nat.le_refl _, fun _ => by omega, T', lc, r'⟩
  obtain ⟨T4, lc4, X4, N4, e4, pre4⟩ := mv_3a hw O0 hx hby hml hown hret hlk hZ X3 e3 N3 pre3
  rw [n_add, n_add] at pre4
  generalize hn7 : b + k + r = n7 at pre4
  obtain ⟨T5, lc5, o7, k7, X5, N5, K5, g7, ov, A5, E5, pre5⟩ := mv_4a hw O0 hx hby hml hown hret hlk hZ X4 e4 N4 pre4 (by rw [n_int (by omega)]; omega) Pf
  have O5 := O0.keep K5 all0
  have gg7 : n0 ≤ o7 := Nat.le_trans (own_oz O0) g7
  have h71 : o1 ≠ o7 := Nat.ne_of_lt (Nat.lt_of_lt_of_le PE.lt g7)
  have h7s : sa ≠ o7 := Nat.ne_of_lt (Nat.lt_of_lt_of_le PA.lt g7)
  have A5' := A5.pad (pad_rep [] .null n7)
  obtain ⟨T6, lc6, w, X6, N6, K6, A6, E6, w1, w2, w3, pre6⟩ := mv_loopa hw hx hby hml hown hret hlk hZ d9 (n7 := n7) (by omega) gg7 ov h71 h7s (D.drop (fi - lo)) fi b ([] ++ List.replicate n7 .null) T5.heap T5 lc5 O5 X5 rfl N5 pre5 (by rw [hlen, show fi + (en - fi) = en by omega]; exact Pe.keep K5 nin0) (Ps.keep K5 nin0) (PA.keep K5 nin0) (by omega)
    (fun j hj => by
      have hj2 : fi - lo + j < D.length := by rw [List.length_drop] at hj; omega
      have := d2 (fi - lo + j) hj2
      rw [show lo + (fi - lo + j) = fi + j by omega] at this
      rw [this, List.getElem_drop])
    (fun c hc => by obtain ⟨gc, Ec, Fc⟩ := HC c (d4 c (List.mem_of_mem_drop hc)); exact ⟨gc, Ec.keep K5, Fc.keep K5 nin0⟩) A5' E5 (by simp) (by rw [hfl]; omega)
  have O6 := O5.keep K6 (allS gg7 all0)
  obtain ⟨s₂, L, st, hr', he, NL, FE, K7, E7, F0, F1, F2, F3, F4, F5⟩ := mv_7a hw O6 hx hby hml hown hret hlk hZ X6 rfl N6 pre6 go ((PE.keep K5).keep K6) ((Ps.keep K5 nin0).keep K6 (ninS h71 nin0)) ((Pl.keep K5 nin0).keep K6 (ninS h71 nin0)) ((Pf.keep K5 nin0).keep K6 (ninS h71 nin0)) ((Pe.keep K5 nin0).keep K6 (ninS h71 nin0)) ((Pr.keep K5 nin0).keep K6 (ninS h71 nin0)) ((Pa.keep K5 nin0).keep K6 (ninS h71 nin0))
  have K8 : Keep h0 s₂.heap [o1] := ((k_mono K5 (fun x hx => absurd hx List.not_mem_nil)).trans K6 (fun x hx => by cases List.mem_singleton.mp hx; exact Or.inr g7)).trans K7 (fun x hx => Or.inl hx)
  refine ⟨s₂, _, st, hr', he, _, _, rfl, ⟨rfl, NL, K8, o7, k7, w, n7, b, b + ((D.drop (fi - lo)).filter (lv mk)).length, (D.drop (fi - lo)).filter (lv mk), ?_, ?_, by rw [hfl]; omega, hb2, gg7, g7, by rw [hfl]; omega⟩, FE⟩
  · exact ⟨go, E7, F5, F3, F2, F1, F4, F0, A6.keep K7 (ninS (Ne.symm h71) nin0), Or.inr ⟨gg7, ov, E6.keep K7⟩, Ne.symm h71⟩
  · refine ⟨rfl, w3, (d3.sublist (List.drop_sublist _ _)).sublist List.filter_sublist, fun c hc => d4 c (List.mem_of_mem_drop ((List.mem_filter.mp hc).1)), fun c hc q => ?_, Nat.le_refl _, Nat.le_add_right _ _, by rw [hfl]; omega, by omega, w1, fun c hc => absurd hc (by simp), ?_, d13⟩
    · rw [Nat.sub_self, List.drop_zero]; exact List.mem_filter.mpr ⟨d5 c hc q, by simp [lv, q]⟩
    · rw [Nat.sub_self, List.drop_zero]; symm; rw [List.countP_eq_zero]; intro x hx; have := (List.mem_filter.mp hx).2; simp [lv] at this; simp [this]
set_option maxRecDepth 65536 in
set_option maxHeartbeats 40000000 in
theorem al_0a {p : Program} {l : Launch} {e : Env} {s : State} {m : MethodId} {below : List Frame} {meth : Method} {c : Code} {E0 T0 : State} {locs : List Loc} {Z : State} {a0 : Array Value} (hw : HW a0 Z) {o1 : Addr} {p3 : Int32} {o4 : Addr} {kc8 : ClassId} {p5 : Int32} {o2 : Addr} {vs : List Value} {h0 : Heap} {n0 : Nat} (O0 : Old Z n0 h0)
    (hx : p.tables.exec = Jvm.exec) (hby : c.code = prog_41_method_6_code) (hml : c.maxLocals = 2) (hown : s.vm.findClass cn7 = some m.cls) (hret : meth.sig.returnType = none) (hlk : meth.locks = false) (hZ : Z.Warmed39 s.vm)
    (X0 : Stand p l e ({ frames := 2, cells := 1, slots := 15, locals := 31 } : Room) s m #[(.ref o1), (.ref o2)] below meth c T0 locs 0 0) (e0 : T0.heap = h0) (N0 : Fr n0 locs) (pre0 : Go p e below T0 (mkF m 0 #[.val (.ref o1), .val (.ref o2)] []) E0) (P1 : Fld Z h0 o1 cn7 "end" "I" (.int p3)) (P2 : Fld Z h0 o1 cn7 "slots" cn3 (.ref o4)) (P3 : Arv Z h0 o4 kc8 (.object cn6) p5 vs .null) :
    (∃ (T' : State) (lc : List Loc), (p3 = p5) ∧ Stand p l e ({ frames := 2, cells := 1, slots := 15, locals := 31 } : Room) s m #[(.ref o1), (.ref o2)] below meth c T' lc 0 0 ∧ Fr n0 lc ∧ T'.heap = h0 ∧ Go p e below T' (mkF m 13 #[.val (.ref o1), .val (.ref o2)] [(.ref o1)]) E0)
    ∨ (∃ (T' : State) (lc : List Loc), (¬ (p3 = p5)) ∧ Stand p l e ({ frames := 2, cells := 1, slots := 15, locals := 31 } : Room) s m #[(.ref o1), (.ref o2)] below meth c T' lc 0 0 ∧ Fr n0 lc ∧ T'.heap = h0 ∧ Go p e below T' (mkF m 16 #[.val (.ref o1), .val (.ref o2)] []) E0) := by
 obtain ⟨T1, X1, e1, st1⟩ := yag X0 hx hZ hown hby (w_24 hw) e0 P1 0 #[.val (.ref o1), .val (.ref o2)] [] d5_0 d5_1 rfl
 obtain ⟨T2, X2, e2, st2⟩ := yag X1 hx hZ hown hby (own_w hw 11 rfl) e1 P2 4 #[.val (.ref o1), .val (.ref o2)] [(.int p3)] d5_4 d5_5 rfl
 obtain ⟨cl3, Ar3, qa3, Sa3, Na3, Ha3, Ga3⟩ := id (P3)
 have pre4 : Go p e below T2 (mkF m 9 #[.val (.ref o1), .val (.ref o2)] [(.int p5), (.int p3)]) E0 := fun t k => by
  refine pre0 _ ?_
  refine st1 _ ?_
  refine st2 _ ?_
  refine X2.arraylength hx (by rw [e2]; exact Ar3.1) (State.isArrayOf_alike hZ.alike Ar3.2.1) (g := (mkF m 8 #[.val (.ref o1), .val (.ref o2)] [(.ref o4), (.int p3)])) rfl rfl (hb hby d5_8) _ ?_
  rw [len_of Sa3 Na3]
  exact k
 by_cases hc5 : p3 = p5
 ·
  have pre6 : Go p e below T2 (mkF m 13 #[.val (.ref o1), .val (.ref o2)] [(.ref o1)]) E0 := fun t k => by
   refine pre4 _ ?_
   refine yno X2 hx hby d5_9 (teq hc5).2 ?_
   refine yan X2 hx hby d5_12 rfl rfl ?_
   exact k
  exact (Or.inl ⟨_, _, hc5, X2, N0, e2, pre6⟩)
 ·
  have pre7 : Go p e below T2 (mkF m 16 #[.val (.ref o1), .val (.ref o2)] []) E0 := fun t k => by
   refine pre4 _ ?_
   refine yye X2 hx hby 9 16 rfl d5_9 (feq hc5).2 (by decide) ?_
   exact k
  exact (Or.inr ⟨_, _, hc5, X2, N0, e2, pre7⟩)
def l427_0 (o1 o2 : Addr) : Array Slot := #[.val (.ref o1), .val (.ref o2)]
set_option maxRecDepth 65536 in
set_option maxHeartbeats 40000000 in
theorem al_1a {p : Program} {l : Launch} {e : Env} {s : State} {m : MethodId} {below : List Frame} {meth : Method} {c : Code} {E0 T0 : State} {locs : List Loc} {Z : State} {a0 : Array Value} (hw : HW a0 Z) {o1 : Addr} {o4 : Addr} {kc8 : ClassId} {p3 : Int32} {p5 : Int32} {o2 : Addr} {p13 : Int32} {p14 : Int32} {p16 : Int32} {p17 : Int32} {vs : List Value} {ix1 : Nat} {h0 : Heap} {n0 : Nat} (O0 : Old Z n0 h0)
    (hx : p.tables.exec = Jvm.exec) (hby : c.code = prog_41_method_6_code) (hml : c.maxLocals = 2) (hown : s.vm.findClass cn7 = some m.cls) (hret : meth.sig.returnType = none) (hlk : meth.locks = false) (hZ : Z.Warmed39 s.vm)
    (X0 : Stand p l e ({ frames := 2, cells := 1, slots := 15, locals := 31 } : Room) s m #[(.ref o1), (.ref o2)] below meth c T0 locs 1 15) (e0 : T0.heap = h0) (N0 : Fr n0 locs) (pre0 : Go p e below T0 (mkF m 16 (l427_0 o1 o2) []) E0) (g_o1 : n0 ≤ o1) (g_o4 : n0 ≤ o4) (Ov_kc8 : Ovr Z kc8 cn6) (hp0 : ¬ (p3 < (0 : Int32))) (hp1 : p3 < p5) (P0 : Exa Z h0 o1 cn7) (P1 : Fld Z h0 o1 cn7 "end" "I" (.int p3)) (P2 : Fld Z h0 o1 cn7 "slots" cn3 (.ref o4)) (P3 : Arv Z h0 o4 kc8 (.object cn6) p5 vs .null) (P4 : Exa Z h0 o4 cn3) (P5 : Exa Z h0 o2 cn6) (P6 : Fld Z h0 o1 cn7 "low" "I" (.int p13)) (P7 : Fld Z h0 o1 cn7 "first" "I" (.int p14)) (P8 : Fld Z h0 o1 cn7 "removed" "I" (.int p16)) (P9 : Fld Z h0 o1 cn7 "addsFirst" "Z" (.int p17)) (hj : p3.toNatClampNeg = ix1) (hi : ix1 < vs.length) :
    (∃ (s₂ : State) (L : List Loc), Steps p.tables e below E0 s₂ ∧ s₂.status = .running ∧ Ended s₂ below (.returned none) ∧ Fr n0 L ∧ FrameEnd s (.returned none) s₂ L 1 15 ∧ Keep h0 s₂.heap [o4, o1] ∧ (Arv Z s₂.heap o4 kc8 (.object cn6) p5 (vs.set ix1 (.ref o2)) .null) ∧ (Exa Z s₂.heap o4 cn3) ∧ (Exa Z s₂.heap o1 cn7) ∧ (Fld Z s₂.heap o1 cn7 "addsFirst" "Z" (.int p17)) ∧ (Fld Z s₂.heap o1 cn7 "end" "I" (.int (p3 + (1 : Int32)))) ∧ (Fld Z s₂.heap o1 cn7 "first" "I" (.int p14)) ∧ (Fld Z s₂.heap o1 cn7 "low" "I" (.int p13)) ∧ (Fld Z s₂.heap o1 cn7 "removed" "I" (.int p16)) ∧ (Fld Z s₂.heap o1 cn7 "slots" cn3 (.ref o4))) := by
 obtain ⟨T1, X1, e1, st1⟩ := yag X0 hx hZ hown hby (own_w hw 11 rfl) e0 P2 16 (l427_0 o1 o2) [] d5_16 d5_17 rfl
 obtain ⟨T2, X2, e2, st2⟩ := yag X1 hx hZ hown hby (w_24 hw) e1 P1 20 (l427_0 o1 o2) [(.ref o4)] d5_20 d5_21 rfl
 obtain ⟨cl3, Ar3, qa3, Sa3, Na3, Ha3, Ga3⟩ := id (P3)
 have hin3 := inb_of (j := p3) Sa3 ⟨hp0, hp1⟩
 obtain ⟨T4, h4, X4, e4, W4, st4⟩ := stR X2 hx hZ e2 Ar3 (j := p3) hin3 rfl (Sto.ofV Ar3 qa3 Ov_kc8 (Ins.self P5)) (g := (mkF m 25 (l427_0 o1 o2) [(.ref o2), (.int p3), (.ref o4)])) rfl rfl (hb hby d5_25)
 have V4 : Arv Z h4 o4 kc8 (.object cn6) p5 (vs.set ix1 (.ref o2)) .null := Arv.set Ar3 qa3 Sa3 Na3 Ha3 Ga3 rfl W4 ix1 hj hi
 have N4 := Fr.snoc X4 N0 g_o4
 have f5 := (P0.wr W4)
 have f6 := (P4.wr W4)
 have ne7 : o1 ≠ o4 := ne_exa f5 f6 (by decide)
 have f8 := (P1.other W4 (Or.inl ne7))
 obtain ⟨T9, X9, e9, st9⟩ := yg X4 hx hZ hown hby (w_24 hw) e4 f8 28 (l427_0 o1 o2) [(.ref o1)] d5_28
 obtain ⟨T10, h10, X10, e10, W10, st10⟩ := yp X9 hx hZ hown hby (w_24 hw) e9 f8 f5 (own_w hw 25 rfl) (w_1 hw) (ty := .int) (v := (.int (p3 + (1 : Int32)))) (by decide) rfl rfl 33 (l427_0 o1 o2) [] d5_33
 have N10 := Fr.snoc X10 N4 g_o1
 have Fw10 := f8.same W10
 obtain ⟨fs, hr, hrun, hended, hW, hsame⟩ := X10.leave (v := none) (fun _ => rfl)
 have KL : Keep h0 h10 [o4, o1] := (((Keep.refl h0 [o4, o1]).wr W4 (Or.inl (List.mem_of_getElem? (i := 0) rfl))).wr W10 (Or.inl (List.mem_of_getElem? (i := 1) rfl)))
 have f11 := (V4.other W10 (Ne.symm ne7))
 have f12 := (f6.wr W10)
 have f13 := (f5.wr W10)
 have f14 := ((P9.other W4 (Or.inl ne7)).other W10 (Or.inr (sn13 hw)))
 have f15 := ((P7.other W4 (Or.inl ne7)).other W10 (Or.inr (sn17 hw)))
 have f16 := ((P6.other W4 (Or.inl ne7)).other W10 (Or.inr (sn21 hw)))
 have f17 := ((P8.other W4 (Or.inl ne7)).other W10 (Or.inr (sn9 hw)))
 have f18 := ((P2.other W4 (Or.inl ne7)).other W10 (Or.inr (sn27 hw)))
 refine ⟨_, _, pre0 _ ?_, hrun, hended, N10, ⟨⟨_, rfl⟩, hW, hsame.mono (by decide) (by decide)⟩, (by show _; rw [show (T10.setFrames fs).heap = _ from e10]; exact KL), (by show _; rw [show (T10.setFrames fs).heap = _ from e10]; exact f11), (by show _; rw [show (T10.setFrames fs).heap = _ from e10]; exact f12), (by show _; rw [show (T10.setFrames fs).heap = _ from e10]; exact f13), (by show _; rw [show (T10.setFrames fs).heap = _ from e10]; exact f14), (by show _; rw [show (T10.setFrames fs).heap = _ from e10]; exact Fw10), (by show _; rw [show (T10.setFrames fs).heap = _ from e10]; exact f15), (by show _; rw [show (T10.setFrames fs).heap = _ from e10]; exact f16), (by show _; rw [show (T10.setFrames fs).heap = _ from e10]; exact f17), (by show _; rw [show (T10.setFrames fs).heap = _ from e10]; exact f18)⟩
 show Steps p.tables e below (T0.setTop (mkF m 16 (l427_0 o1 o2) [])) _
 refine st1 _ ?_
 refine st2 _ ?_
 refine yan X2 hx hby d5_24 rfl rfl ?_
 refine st4 _ ?_
 refine yan X4 hx hby d5_26 rfl rfl ?_
 refine XS.dup X4.here hx rfl (hb hby d5_27) rfl rfl ?_
 refine st9 _ ?_
 refine yic X9 hx hby d5_31 ?_
 refine yad X9 hx hby d5_32 ?_
 refine st10 _ ?_
 show Steps p.tables e below (T10.setTop (mkF m 36 (l427_0 o1 o2) [])) _
 exact X10.returnOut hx hret (hb hby d5_36) hr
theorem ef_ala (m : MethodId) (x0 x1 : Addr) : entryFrame m #[(.ref x0), (.ref x1)] 2 = mkF m 0 #[.val (.ref x0), .val (.ref x1)] [] := by first | (simp [entryFrame, mkF, argsToLocals, Value.category]; done) | rfl
set_option maxHeartbeats 4000000 in
theorem m_ala (l : Launch) (Z : State) (a0 : Array Value) (hw : HW a0 Z) (ws : List Jvm.Cond) (o1 c0 mm : Addr) (C : List Addr) (mk : Addr → Int64) (k : Nat) (h0 : Heap) (n0 : Nat) (O0 : Old Z n0 h0) (HC : CF Z h0 n0 (c0 :: C) mk) (hcC : c0 ∉ C) (hm : mk c0 = MX) (hmm : mm < h0.size) (HI : LInv Z h0 n0 o1 mm C mk k) (hB : k ≤ 5) :
    MF l yn5 prog_41_method_6_code 2 none ws ({ frames := 2, cells := 1, slots := 15, locals := 31 } : Room) #[(.ref o1), (.ref c0)] Z h0 (QAL Z o1 mm (c0 :: C) mk (k + 1) h0 n0) := by
  refine MetFree.of_bodySF (plainFor_of_name pn0) hisR ?_
  intro p e s m args below meth c s₁ Bd hml hP hK
  obtain ⟨rfl, hZ, hh⟩ := hP
  obtain ⟨hx, hby, hown, hret, hlk, X0, e0, N0⟩ := own_bd Bd hh n0
  have pre0 := own_ct s₁ (p := p) (e := e) (below := below) (ef_ala m o1 c0)
  revert pre0
  generalize s₁.setTop (entryFrame m #[(.ref o1), (.ref c0)] 2) = E0
  intro pre0
  have tail : ∀ (T : State) (lc : List Loc) (h1 : Heap) sa ka vs n lo fi en re af D, Old Z n0 h1 → Stand p l e ({ frames := 2, cells := 1, slots := 15, locals := 31 } : Room) s m #[(.ref o1), (.ref c0)] below meth c T lc 1 15 → T.heap = h1 → Fr n0 lc → Go p e below T (mkF m 16 #[.val (.ref o1), .val (.ref c0)] []) E0 → LS Z h1 n0 o1 sa ka vs n lo fi en re af → LD C D mk vs n lo fi en re af → en < n → sa ≠ mm → en - fi - re = k → re ≤ en - fi →
      CF Z h1 n0 (c0 :: C) mk → (∃ w, Keep h0 h1 w ∧ (∀ x ∈ w, x = o1)) → (sa < h0.size → Exa Z h0 sa cn3) → n0 ≤ o1 →
      ∃ s₂ o, Steps p.tables e below E0 s₂ ∧ s₂.status = .running ∧ Ended s₂ below o ∧ ∃ v L, o = .returned v ∧ QAL Z o1 mm (c0 :: C) mk (k + 1) h0 n0 v s₂.heap L ∧ FrameEnd s o s₂ L 1 15 := by
    intro T lc h1 sa ka vs n lo fi en re af D O1 X e1 N pre HS HD hen hsm hk hre HC1 ⟨w, K, hwo⟩ hE go
    obtain ⟨-, PE, Ps, Pl, Pf, Pe, Pr, Pa, PA, PX, dso⟩ := id HS
    obtain ⟨gs, ov, PX⟩ := PX.resolve_left (by omega)
    have n64 : n ≤ 64 := HD.2.2.2.2.2.2.2.2.1
    have hfe : fi ≤ en := HD.2.2.2.2.2.2.1
    have hvl : vs.length = n := HD.2.2.2.2.2.2.2.2.2.1
    obtain ⟨s₂, L, st, hr, he, NL, FE, K2, A2, X2, E2, F1, F2, F3, F4, F5, F6⟩ := al_1a hw O1 hx hby hml hown hret hlk hZ X e1 N pre go gs ov (n_nn (by omega)) ((n_lt (by omega) (by omega)).mpr hen) PE Pe Ps PA PX (HC1 c0 (List.mem_cons_self ..)).2.1 Pl Pf Pr Pa (n_nat (by omega)) (by omega)
    rw [show N32 en + (1 : Int32) = N32 (en + 1) from n_add en 1] at F2
    refine ⟨s₂, _, st, hr, he, _, _, rfl, ⟨rfl, NL, ?_, sa, ka, _, n, lo, fi, en + 1, re, af, D ++ [c0], ?_, ld_snoc HD hcC hm hen, hsm, by omega⟩, FE⟩
    · by_cases hs : sa < h0.size
      · refine ⟨[sa, o1], ?_, fun x hx => ?_⟩
        · exact (k_mono K (fun x hx => by rw [hwo x hx]; simp)).trans K2 (fun x hx => Or.inl hx)
        · rcases List.mem_cons.mp hx with rfl | hx
          · exact ⟨gs, Or.inr ⟨hE hs, hsm⟩⟩
          · cases List.mem_singleton.mp hx; exact ⟨go, Or.inl rfl⟩
      · refine ⟨[o1], ?_, fun x hx => by cases List.mem_singleton.mp hx; exact ⟨go, Or.inl rfl⟩⟩
        refine (k_mono K (fun x hx => by rw [hwo x hx]; simp)).trans K2 (fun x hx => ?_)
        rcases List.mem_cons.mp hx with rfl | hx
        · exact Or.inr (Nat.le_of_not_lt hs)
        · exact Or.inl hx
    · exact ⟨go, E2, F6, F4, F3, F2, F5, F1, A2, Or.inr ⟨gs, ov, X2⟩, dso⟩
  obtain ⟨sa, ka, vs, n, lo, fi, en, re, af, D, HS, HD, dmm, hk⟩ := id HI
  obtain ⟨go, PE, Ps, Pl, Pf, Pe, Pr, Pa, PA, PX, dso⟩ := id HS
  have hlen : (D.drop (fi - lo)).length = en - fi := by have := HD.1; rw [List.length_drop]; have := HD.2.2.2.2.2.1; have := HD.2.2.2.2.2.2.1; omega
  have hre : re ≤ en - fi := by rw [HD.2.2.2.2.2.2.2.2.2.2.2.1, ← hlen]; exact List.countP_le_length
  have hle := HD.2.2.2.2.2.2.2.1
  have n64 := HD.2.2.2.2.2.2.2.2.1
  rcases al_0a hw O0 hx hby hml hown hret hlk hZ X0 e0 N0 pre0 Pe Ps PA with ⟨T1, lc1, hc, X1, N1, e1, pre1⟩ | ⟨T1, lc1, hc, X1, N1, e1, pre1⟩
  · obtain ⟨_, T2, L2, X2, hQ, st2⟩ := own_pb X1 hx hZ hown (y := yn4) (own_w hw 65 rfl) (own_w hw 66 rfl) (own_selp (mvT hZ (own_w hw 22 rfl)) rfl (Cond.privateMethod_at (mvP hZ (own_w hw 67 rfl) (args := #[]))) (mvT hZ (own_w hw 66 rfl)) (by decide)) (own_w hw 67 rfl) (own_w hw 68 rfl) (w_2 hw) e1 PE (argsL := []) (rest := []) (m_mva l Z a0 hw [] o1 C D mk sa ka vs n lo fi en re af h0 n0 O0 (fun x hx => HC x (List.mem_cons_of_mem _ hx)) HS HD (by omega)) (g := (mkF m 13 #[.val (.ref o1), .val (.ref c0)] [(.ref o1)])) rfl (by rw [hml]; rfl) rfl (hb hby d5_13) (lenOf pd0 rfl) (W := 0) (c1 := 1) (s1 := 15)
    obtain ⟨rfl, NL, K, sa', ka', vs', n', lo', en', D', HS', HD', hen, hlo, gsa, hsz, hk'⟩ := hQ
    have no : ∀ x ∈ c0 :: C, x ∉ [o1] := fun x hx q => (ne_exa PE (HC x hx).2.1 (by decide)) (List.mem_singleton.mp q).symm
    exact tail T2 _ T2.heap sa' ka' vs' n' lo' lo' en' 0 af D' (O0.keep K (allS go all0)) X2 rfl (Fr.app N1 NL) (fun t k => pre1 _ (st2 _ k)) HS' HD' hen (Nat.ne_of_gt (Nat.lt_of_lt_of_le hmm hsz)) (by omega) (Nat.zero_le _) (fun x hx => by obtain ⟨a1, a2, a3⟩ := HC x hx; exact ⟨a1, a2.keep K, a3.keep K (no x hx)⟩) ⟨[o1], K, fun x hx => List.mem_singleton.mp hx⟩ (fun q => absurd hsz (Nat.not_le_of_lt q)) go
  · have hen : en < n := Nat.lt_of_le_of_ne hle (fun q => hc (by rw [q]))
    exact tail T1 lc1 h0 sa ka vs n lo fi en re af D O0 (X1.more (by decide) (by decide)) e1 N1 pre1 HS HD hen dmm hk hre HC ⟨[], Keep.refl _ _, fun x hx => absurd hx List.not_mem_nil⟩ (fun _ => (PX.resolve_left (by omega)).2.2) go
set_option maxRecDepth 65536 in
set_option maxHeartbeats 40000000 in
theorem fa_0a {p : Program} {l : Launch} {e : Env} {s : State} {m : MethodId} {below : List Frame} {meth : Method} {c : Code} {E0 T0 : State} {locs : List Loc} {Z : State} {a0 : Array Value} (hw : HW a0 Z) {o1 : Addr} {o4 : Addr} {p13 : Int32} {p14 : Int32} {p15 : Int32} {p16 : Int32} {p17 : Int32} {o2 : Addr} {h0 : Heap} {n0 : Nat} (O0 : Old Z n0 h0)
    (hx : p.tables.exec = Jvm.exec) (hby : c.code = prog_41_method_7_code) (hml : c.maxLocals = 2) (hown : s.vm.findClass cn7 = some m.cls) (hret : meth.sig.returnType = none) (hlk : meth.locks = false) (hZ : Z.Warmed39 s.vm)
    (X0 : Stand p l e ({ frames := 2, cells := 1, slots := 15, locals := 31 } : Room) s m #[(.ref o1), (.ref o2)] below meth c T0 locs 0 0) (e0 : T0.heap = h0) (N0 : Fr n0 locs) (pre0 : Go p e below T0 (mkF m 0 #[.val (.ref o1), .val (.ref o2)] []) E0) (g_o1 : n0 ≤ o1) (P0 : Exa Z h0 o1 cn7) (P1 : Fld Z h0 o1 cn7 "slots" cn3 (.ref o4)) (P2 : Fld Z h0 o1 cn7 "low" "I" (.int p13)) (P3 : Fld Z h0 o1 cn7 "first" "I" (.int p14)) (P4 : Fld Z h0 o1 cn7 "end" "I" (.int p15)) (P5 : Fld Z h0 o1 cn7 "removed" "I" (.int p16)) (P6 : Fld Z h0 o1 cn7 "addsFirst" "Z" (.int p17)) :
    (∃ (T' : State) (lc : List Loc), (p13 = (0 : Int32)) ∧ Stand p l e ({ frames := 2, cells := 1, slots := 15, locals := 31 } : Room) s m #[(.ref o1), (.ref o2)] below meth c T' lc 0 0 ∧ Fr n0 lc ∧ Keep h0 T'.heap [o1] ∧ (Exa Z T'.heap o1 cn7) ∧ (Fld Z T'.heap o1 cn7 "addsFirst" "Z" (.int 1)) ∧ (Fld Z T'.heap o1 cn7 "end" "I" (.int p15)) ∧ (Fld Z T'.heap o1 cn7 "first" "I" (.int p14)) ∧ (Fld Z T'.heap o1 cn7 "low" "I" (.int p13)) ∧ (Fld Z T'.heap o1 cn7 "removed" "I" (.int p16)) ∧ (Fld Z T'.heap o1 cn7 "slots" cn3 (.ref o4)) ∧ Go p e below T' (mkF m 13 #[.val (.ref o1), .val (.ref o2)] [(.ref o1)]) E0)
    ∨ (∃ (T' : State) (lc : List Loc), (¬ (p13 = (0 : Int32))) ∧ Stand p l e ({ frames := 2, cells := 1, slots := 15, locals := 31 } : Room) s m #[(.ref o1), (.ref o2)] below meth c T' lc 0 0 ∧ Fr n0 lc ∧ Keep h0 T'.heap [o1] ∧ (Exa Z T'.heap o1 cn7) ∧ (Fld Z T'.heap o1 cn7 "addsFirst" "Z" (.int 1)) ∧ (Fld Z T'.heap o1 cn7 "end" "I" (.int p15)) ∧ (Fld Z T'.heap o1 cn7 "first" "I" (.int p14)) ∧ (Fld Z T'.heap o1 cn7 "low" "I" (.int p13)) ∧ (Fld Z T'.heap o1 cn7 "removed" "I" (.int p16)) ∧ (Fld Z T'.heap o1 cn7 "slots" cn3 (.ref o4)) ∧ Go p e below T' (mkF m 16 #[.val (.ref o1), .val (.ref o2)] []) E0) := by
 obtain ⟨T1, h1, X1, e1, W1, st1⟩ := putFN X0 hx hZ hown (own_w hw 74 rfl) Via.refl e0 P6 P0 (Or.inl (own_w hw 75 rfl)) (w_1 hw) (ty := .boolean) (v' := (.int 1)) (by decide) rfl (by decide) (g := (mkF m 2 #[.val (.ref o1), .val (.ref o2)] [(.int 1), (.ref o1)])) rfl rfl (hb hby d6_2)
 have N1 := Fr.snoc X1 N0 g_o1
 have Fw1 := P6.same W1
 have f2 := (P2.other W1 (Or.inr (sn23 hw)))
 obtain ⟨T3, X3, e3, st3⟩ := yag X1 hx hZ hown hby (own_w hw 77 rfl) e1 f2 5 #[.val (.ref o1), .val (.ref o2)] [] d6_5 d6_6 rfl
 have pre4 : Go p e below T3 (mkF m 9 #[.val (.ref o1), .val (.ref o2)] [(.int p13)]) E0 := fun t k => by
  refine pre0 _ ?_
  refine yan X0 hx hby d6_0 rfl rfl ?_
  refine yic X0 hx hby d6_1 ?_
  refine st1 _ ?_
  refine st3 _ ?_
  exact k
 by_cases hc5 : p13 = (0 : Int32)
 ·
  have pre6 : Go p e below T3 (mkF m 9 #[.val (.ref o1), .val (.ref o2)] [(.int 0)]) E0 := fun t k => pre4 t (by rw [hc5]; exact k)
  have pre7 : Go p e below T3 (mkF m 13 #[.val (.ref o1), .val (.ref o2)] [(.ref o1)]) E0 := fun t k => by
   refine pre6 _ ?_
   refine yfn X3 hx hby d6_9 ((if0 _ _).trans (teq (by decide : (0 : Int32) = (0 : Int32))).2) ?_
   refine yan X3 hx hby d6_12 rfl rfl ?_
   exact k
  have KL : Keep h0 h1 [o1] := ((Keep.refl h0 [o1]).wr W1 (Or.inl (List.mem_of_getElem? (i := 0) rfl)))
  have f8 := (P0.wr W1)
  have f9 := (P4.other W1 (Or.inr (sn16 hw)))
  have f10 := (P3.other W1 (Or.inr (sn19 hw)))
  have f11 := (P5.other W1 (Or.inr (sn24 hw)))
  have f12 := (P1.other W1 (Or.inr (sn29 hw)))
  exact (Or.inl ⟨_, _, hc5, X3, N1, (by rw [e3]; exact KL), (by rw [e3]; exact f8), (by rw [e3]; exact Fw1), (by rw [e3]; exact f9), (by rw [e3]; exact f10), (by rw [e3]; exact f2), (by rw [e3]; exact f11), (by rw [e3]; exact f12), pre7⟩)
 ·
  have pre13 : Go p e below T3 (mkF m 16 #[.val (.ref o1), .val (.ref o2)] []) E0 := fun t k => by
   refine pre4 _ ?_
   refine XS.ifYes X3.here hx rfl (pc0 := 9) (pc' := 16) rfl (hb hby d6_9) rfl ((if0 _ _).trans (feq hc5).2) (by decide) (by decide) ?_
   exact k
  have KL : Keep h0 h1 [o1] := ((Keep.refl h0 [o1]).wr W1 (Or.inl (List.mem_of_getElem? (i := 0) rfl)))
  have f14 := (P0.wr W1)
  have f15 := (P4.other W1 (Or.inr (sn16 hw)))
  have f16 := (P3.other W1 (Or.inr (sn19 hw)))
  have f17 := (P5.other W1 (Or.inr (sn24 hw)))
  have f18 := (P1.other W1 (Or.inr (sn29 hw)))
  exact (Or.inr ⟨_, _, hc5, X3, N1, (by rw [e3]; exact KL), (by rw [e3]; exact f14), (by rw [e3]; exact Fw1), (by rw [e3]; exact f15), (by rw [e3]; exact f16), (by rw [e3]; exact f2), (by rw [e3]; exact f17), (by rw [e3]; exact f18), pre13⟩)
set_option maxRecDepth 65536 in
set_option maxHeartbeats 40000000 in
theorem fa_1a {p : Program} {l : Launch} {e : Env} {s : State} {m : MethodId} {below : List Frame} {meth : Method} {c : Code} {E0 T0 : State} {locs : List Loc} {Z : State} {a0 : Array Value} (hw : HW a0 Z) {o1 : Addr} {o4 : Addr} {p13 : Int32} {p14 : Int32} {p15 : Int32} {p16 : Int32} {p17 : Int32} {o2 : Addr} {h0 : Heap} {n0 : Nat} (O0 : Old Z n0 h0)
    (hx : p.tables.exec = Jvm.exec) (hby : c.code = prog_41_method_7_code) (hml : c.maxLocals = 2) (hown : s.vm.findClass cn7 = some m.cls) (hret : meth.sig.returnType = none) (hlk : meth.locks = false) (hZ : Z.Warmed39 s.vm)
    (X0 : Stand p l e ({ frames := 2, cells := 1, slots := 15, locals := 31 } : Room) s m #[(.ref o1), (.ref o2)] below meth c T0 locs 1 15) (e0 : T0.heap = h0) (N0 : Fr n0 locs) (pre0 : Go p e below T0 (mkF m 16 #[.val (.ref o1), .val (.ref o2)] []) E0) (g_o1 : n0 ≤ o1) (P0 : Exa Z h0 o1 cn7) (P1 : Fld Z h0 o1 cn7 "slots" cn3 (.ref o4)) (P2 : Fld Z h0 o1 cn7 "low" "I" (.int p13)) (P3 : Fld Z h0 o1 cn7 "first" "I" (.int p14)) (P4 : Fld Z h0 o1 cn7 "end" "I" (.int p15)) (P5 : Fld Z h0 o1 cn7 "removed" "I" (.int p16)) (P6 : Fld Z h0 o1 cn7 "addsFirst" "Z" (.int p17)) :
    (∃ (T' : State) (lc : List Loc), Stand p l e ({ frames := 2, cells := 1, slots := 15, locals := 31 } : Room) s m #[(.ref o1), (.ref o2)] below meth c T' lc 1 15 ∧ Fr n0 lc ∧ Keep h0 T'.heap [o1] ∧ (Exa Z T'.heap o1 cn7) ∧ (Fld Z T'.heap o1 cn7 "addsFirst" "Z" (.int p17)) ∧ (Fld Z T'.heap o1 cn7 "end" "I" (.int p15)) ∧ (Fld Z T'.heap o1 cn7 "first" "I" (.int p14)) ∧ (Fld Z T'.heap o1 cn7 "low" "I" (.int (p13 - (1 : Int32)))) ∧ (Fld Z T'.heap o1 cn7 "removed" "I" (.int (p16 + (p14 - p13)))) ∧ (Fld Z T'.heap o1 cn7 "slots" cn3 (.ref o4)) ∧ Go p e below T' (mkF m 44 #[.val (.ref o1), .val (.ref o2)] []) E0) := by
 obtain ⟨T1, X1, e1, st1⟩ := yg X0 hx hZ hown hby (own_w hw 28 rfl) e0 P5 18 #[.val (.ref o1), .val (.ref o2)] [(.ref o1)] d6_18
 obtain ⟨T2, X2, e2, st2⟩ := yag X1 hx hZ hown hby (w_26 hw) e1 P3 21 #[.val (.ref o1), .val (.ref o2)] [(.int p16), (.ref o1)] d6_21 d6_22 rfl
 obtain ⟨T3, X3, e3, st3⟩ := yag X2 hx hZ hown hby (own_w hw 77 rfl) e2 P2 25 #[.val (.ref o1), .val (.ref o2)] [(.int p14), (.int p16), (.ref o1)] d6_25 d6_26 rfl
 obtain ⟨T4, h4, X4, e4, W4, st4⟩ := yp X3 hx hZ hown hby (own_w hw 28 rfl) e3 P5 P0 (own_w hw 29 rfl) (w_1 hw) (ty := .int) (v := (.int (p16 + (p14 - p13)))) (by decide) rfl rfl 31 #[.val (.ref o1), .val (.ref o2)] [] d6_31
 have N4 := Fr.snoc X4 N0 g_o1
 have Fw4 := P5.same W4
 have f5 := (P2.other W4 (Or.inr (sn22 hw)))
 obtain ⟨T6, X6, e6, st6⟩ := yg X4 hx hZ hown hby (own_w hw 77 rfl) e4 f5 36 #[.val (.ref o1), .val (.ref o2)] [(.ref o1)] d6_36
 have f7 := (P0.wr W4)
 obtain ⟨T8, h8, X8, e8, W8, st8⟩ := yp X6 hx hZ hown hby (own_w hw 77 rfl) e6 f5 f7 (own_w hw 78 rfl) (w_1 hw) (ty := .int) (v := (.int (p13 - (1 : Int32)))) (by decide) rfl rfl 41 #[.val (.ref o1), .val (.ref o2)] [] d6_41
 have N8 := Fr.snoc X8 N4 g_o1
 have Fw8 := f5.same W8
 have pre9 : Go p e below T8 (mkF m 44 #[.val (.ref o1), .val (.ref o2)] []) E0 := fun t k => by
  refine pre0 _ ?_
  refine yan X0 hx hby d6_16 rfl rfl ?_
  refine XS.dup X0.here hx rfl (hb hby d6_17) rfl rfl ?_
  refine st1 _ ?_
  refine st2 _ ?_
  refine st3 _ ?_
  refine ysu X3 hx hby d6_29 ?_
  refine yad X3 hx hby d6_30 ?_
  refine st4 _ ?_
  refine yan X4 hx hby d6_34 rfl rfl ?_
  refine XS.dup X4.here hx rfl (hb hby d6_35) rfl rfl ?_
  refine st6 _ ?_
  refine yic X6 hx hby d6_39 ?_
  refine ysu X6 hx hby d6_40 ?_
  refine st8 _ ?_
  exact k
 have KL : Keep h0 h8 [o1] := (((Keep.refl h0 [o1]).wr W4 (Or.inl (List.mem_of_getElem? (i := 0) rfl))).wr W8 (Or.inl (List.mem_of_getElem? (i := 0) rfl)))
 have f10 := (f7.wr W8)
 have f11 := ((P6.other W4 (Or.inr (sn14 hw))).other W8 (Or.inr (sn11 hw)))
 have f12 := ((P4.other W4 (Or.inr (sn15 hw))).other W8 (Or.inr (sn4 hw)))
 have f13 := ((P3.other W4 (Or.inr (sn18 hw))).other W8 (Or.inr (sn2 hw)))
 have f14 := (Fw4.other W8 (Or.inr (sn7 hw)))
 have f15 := ((P1.other W4 (Or.inr (sn28 hw))).other W8 (Or.inr (sn25 hw)))
 exact ⟨_, _, X8, N8, (by rw [e8]; exact KL), (by rw [e8]; exact f10), (by rw [e8]; exact f11), (by rw [e8]; exact f12), (by rw [e8]; exact f13), (by rw [e8]; exact Fw8), (by rw [e8]; exact f14), (by rw [e8]; exact f15), pre9⟩
def l431_0 (o1 o2 : Addr) : Array Slot := #[.val (.ref o1), .val (.ref o2)]
set_option maxRecDepth 65536 in
set_option maxHeartbeats 40000000 in
theorem fa_2a {p : Program} {l : Launch} {e : Env} {s : State} {m : MethodId} {below : List Frame} {meth : Method} {c : Code} {E0 T0 : State} {locs : List Loc} {Z : State} {a0 : Array Value} (hw : HW a0 Z) {o1 : Addr} {o4 : Addr} {kc8 : ClassId} {p13 : Int32} {p5 : Int32} {p14 : Int32} {p15 : Int32} {p16 : Int32} {p17 : Int32} {o2 : Addr} {vs : List Value} {ix1 : Nat} {h0 : Heap} {n0 : Nat} (O0 : Old Z n0 h0)
    (hx : p.tables.exec = Jvm.exec) (hby : c.code = prog_41_method_7_code) (hml : c.maxLocals = 2) (hown : s.vm.findClass cn7 = some m.cls) (hret : meth.sig.returnType = none) (hlk : meth.locks = false) (hZ : Z.Warmed39 s.vm)
    (X0 : Stand p l e ({ frames := 2, cells := 1, slots := 15, locals := 31 } : Room) s m #[(.ref o1), (.ref o2)] below meth c T0 locs 1 15) (e0 : T0.heap = h0) (N0 : Fr n0 locs) (pre0 : Go p e below T0 (mkF m 44 (l431_0 o1 o2) []) E0) (g_o1 : n0 ≤ o1) (g_o4 : n0 ≤ o4) (Ov_kc8 : Ovr Z kc8 cn6) (hp0 : ¬ (p13 < (0 : Int32))) (hp1 : p13 < p5) (P0 : Exa Z h0 o1 cn7) (P1 : Fld Z h0 o1 cn7 "slots" cn3 (.ref o4)) (P2 : Fld Z h0 o1 cn7 "low" "I" (.int p13)) (P3 : Fld Z h0 o1 cn7 "first" "I" (.int p14)) (P4 : Fld Z h0 o1 cn7 "end" "I" (.int p15)) (P5 : Fld Z h0 o1 cn7 "removed" "I" (.int p16)) (P6 : Fld Z h0 o1 cn7 "addsFirst" "Z" (.int p17)) (P7 : Arv Z h0 o4 kc8 (.object cn6) p5 vs .null) (P8 : Exa Z h0 o4 cn3) (P9 : Exa Z h0 o2 cn6) (hj : p13.toNatClampNeg = ix1) (hi : ix1 < vs.length) :
    (∃ (s₂ : State) (L : List Loc), Steps p.tables e below E0 s₂ ∧ s₂.status = .running ∧ Ended s₂ below (.returned none) ∧ Fr n0 L ∧ FrameEnd s (.returned none) s₂ L 1 15 ∧ Keep h0 s₂.heap [o4, o1] ∧ (Arv Z s₂.heap o4 kc8 (.object cn6) p5 (vs.set ix1 (.ref o2)) .null) ∧ (Exa Z s₂.heap o4 cn3) ∧ (Exa Z s₂.heap o1 cn7) ∧ (Fld Z s₂.heap o1 cn7 "addsFirst" "Z" (.int p17)) ∧ (Fld Z s₂.heap o1 cn7 "end" "I" (.int p15)) ∧ (Fld Z s₂.heap o1 cn7 "first" "I" (.int p13)) ∧ (Fld Z s₂.heap o1 cn7 "low" "I" (.int p13)) ∧ (Fld Z s₂.heap o1 cn7 "removed" "I" (.int p16)) ∧ (Fld Z s₂.heap o1 cn7 "slots" cn3 (.ref o4))) := by
 obtain ⟨T1, X1, e1, st1⟩ := yag X0 hx hZ hown hby (own_w hw 11 rfl) e0 P1 44 (l431_0 o1 o2) [] d6_44 d6_45 rfl
 obtain ⟨T2, X2, e2, st2⟩ := yag X1 hx hZ hown hby (own_w hw 77 rfl) e1 P2 48 (l431_0 o1 o2) [(.ref o4)] d6_48 d6_49 rfl
 obtain ⟨cl3, Ar3, qa3, Sa3, Na3, Ha3, Ga3⟩ := id (P7)
 have hin3 := inb_of (j := p13) Sa3 ⟨hp0, hp1⟩
 obtain ⟨T4, h4, X4, e4, W4, st4⟩ := stR X2 hx hZ e2 Ar3 (j := p13) hin3 rfl (Sto.ofV Ar3 qa3 Ov_kc8 (Ins.self P9)) (g := (mkF m 53 (l431_0 o1 o2) [(.ref o2), (.int p13), (.ref o4)])) rfl rfl (hb hby d6_53)
 have V4 : Arv Z h4 o4 kc8 (.object cn6) p5 (vs.set ix1 (.ref o2)) .null := Arv.set Ar3 qa3 Sa3 Na3 Ha3 Ga3 rfl W4 ix1 hj hi
 have N4 := Fr.snoc X4 N0 g_o4
 have f5 := (P0.wr W4)
 have f6 := (P8.wr W4)
 have ne7 : o1 ≠ o4 := ne_exa f5 f6 (by decide)
 have f8 := (P2.other W4 (Or.inl ne7))
 obtain ⟨T9, X9, e9, st9⟩ := yag X4 hx hZ hown hby (own_w hw 77 rfl) e4 f8 55 (l431_0 o1 o2) [(.ref o1)] d6_55 d6_56 rfl
 have f10 := (P3.other W4 (Or.inl ne7))
 obtain ⟨T11, h11, X11, e11, W11, st11⟩ := yp X9 hx hZ hown hby (w_26 hw) e9 f10 f5 (own_w hw 27 rfl) (w_1 hw) (ty := .int) (v := (.int p13)) (by decide) rfl rfl 59 (l431_0 o1 o2) [] d6_59
 have N11 := Fr.snoc X11 N4 g_o1
 have Fw11 := f10.same W11
 obtain ⟨fs, hr, hrun, hended, hW, hsame⟩ := X11.leave (v := none) (fun _ => rfl)
 have KL : Keep h0 h11 [o4, o1] := (((Keep.refl h0 [o4, o1]).wr W4 (Or.inl (List.mem_of_getElem? (i := 0) rfl))).wr W11 (Or.inl (List.mem_of_getElem? (i := 1) rfl)))
 have f12 := (V4.other W11 (Ne.symm ne7))
 have f13 := (f6.wr W11)
 have f14 := (f5.wr W11)
 have f15 := ((P6.other W4 (Or.inl ne7)).other W11 (Or.inr (sn12 hw)))
 have f16 := ((P4.other W4 (Or.inl ne7)).other W11 (Or.inr (sn5 hw)))
 have f17 := (f8.other W11 (Or.inr (sn20 hw)))
 have f18 := ((P5.other W4 (Or.inl ne7)).other W11 (Or.inr (sn8 hw)))
 have f19 := ((P1.other W4 (Or.inl ne7)).other W11 (Or.inr (sn26 hw)))
 refine ⟨_, _, pre0 _ ?_, hrun, hended, N11, ⟨⟨_, rfl⟩, hW, hsame.mono (by decide) (by decide)⟩, (by show _; rw [show (T11.setFrames fs).heap = _ from e11]; exact KL), (by show _; rw [show (T11.setFrames fs).heap = _ from e11]; exact f12), (by show _; rw [show (T11.setFrames fs).heap = _ from e11]; exact f13), (by show _; rw [show (T11.setFrames fs).heap = _ from e11]; exact f14), (by show _; rw [show (T11.setFrames fs).heap = _ from e11]; exact f15), (by show _; rw [show (T11.setFrames fs).heap = _ from e11]; exact f16), (by show _; rw [show (T11.setFrames fs).heap = _ from e11]; exact Fw11), (by show _; rw [show (T11.setFrames fs).heap = _ from e11]; exact f17), (by show _; rw [show (T11.setFrames fs).heap = _ from e11]; exact f18), (by show _; rw [show (T11.setFrames fs).heap = _ from e11]; exact f19)⟩
 show Steps p.tables e below (T0.setTop (mkF m 44 (l431_0 o1 o2) [])) _
 refine st1 _ ?_
 refine st2 _ ?_
 refine yan X2 hx hby d6_52 rfl rfl ?_
 refine st4 _ ?_
 refine yan X4 hx hby d6_54 rfl rfl ?_
 refine st9 _ ?_
 refine st11 _ ?_
 show Steps p.tables e below (T11.setTop (mkF m 62 (l431_0 o1 o2) [])) _
 exact X11.returnOut hx hret (hb hby d6_62) hr
set_option maxHeartbeats 4000000 in
theorem m_afa (l : Launch) (Z : State) (a0 : Array Value) (hw : HW a0 Z) (ws : List Jvm.Cond) (o1 c0 mm : Addr) (C : List Addr) (mk : Addr → Int64) (k : Nat) (h0 : Heap) (n0 : Nat) (O0 : Old Z n0 h0) (HC : CF Z h0 n0 (c0 :: C) mk) (hcC : c0 ∉ C) (hm : mk c0 = MX) (hmm : mm < h0.size) (HI : LInv Z h0 n0 o1 mm C mk k) (hB : k ≤ 5) :
    MF l yn6 prog_41_method_7_code 2 none ws ({ frames := 2, cells := 1, slots := 15, locals := 31 } : Room) #[(.ref o1), (.ref c0)] Z h0 (QAL Z o1 mm (c0 :: C) mk (k + 1) h0 n0) := by
  refine MetFree.of_bodySF (plainFor_of_name pn0) hisR ?_
  intro p e s m args below meth c s₁ Bd hml hP hK
  obtain ⟨rfl, hZ, hh⟩ := hP
  obtain ⟨hx, hby, hown, hret, hlk, X0, e0, N0⟩ := own_bd Bd hh n0
  have pre0 := own_ct s₁ (p := p) (e := e) (below := below) (ef_ala m o1 c0)
  revert pre0
  generalize s₁.setTop (entryFrame m #[(.ref o1), (.ref c0)] 2) = E0
  intro pre0
  have tail : ∀ (T : State) (lc : List Loc) (h1 : Heap) sa ka vs n lo fi en re af D, Old Z n0 h1 → Stand p l e ({ frames := 2, cells := 1, slots := 15, locals := 31 } : Room) s m #[(.ref o1), (.ref c0)] below meth c T lc 1 15 → T.heap = h1 → Fr n0 lc → Go p e below T (mkF m 16 #[.val (.ref o1), .val (.ref c0)] []) E0 → LS Z h1 n0 o1 sa ka vs n lo fi en re af → LD C D mk vs n lo fi en re af → 0 < lo → sa ≠ mm → en - fi - re = k → re ≤ en - fi →
      CF Z h1 n0 (c0 :: C) mk → Keep h0 h1 [o1] → (sa < h0.size → Exa Z h0 sa cn3) → n0 ≤ o1 →
      ∃ s₂ o, Steps p.tables e below E0 s₂ ∧ s₂.status = .running ∧ Ended s₂ below o ∧ ∃ v L, o = .returned v ∧ QAL Z o1 mm (c0 :: C) mk (k + 1) h0 n0 v s₂.heap L ∧ FrameEnd s o s₂ L 1 15 := by
    intro T lc h1 sa ka vs n lo fi en re af D O1 X e1 N pre HS HD hlo hsm hk hre HC1 K hE go
    obtain ⟨-, PE, Ps, Pl, Pf, Pe, Pr, Pa, PA, PX, dso⟩ := id HS
    have n64 : n ≤ 64 := HD.2.2.2.2.2.2.2.2.1
    have hlf : lo ≤ fi := HD.2.2.2.2.2.1
    have hfe : fi ≤ en := HD.2.2.2.2.2.2.1
    have hle : en ≤ n := HD.2.2.2.2.2.2.2.1
    have hvl : vs.length = n := HD.2.2.2.2.2.2.2.2.2.1
    obtain ⟨gs, ov, PX⟩ := PX.resolve_left (by omega)
    obtain ⟨T1, lc1, X1, N1, K1, E1, G1, G2, G3, G4, G5, G6, pre1⟩ := fa_1a hw O1 hx hby hml hown hret hlk hZ X e1 N pre go PE Ps Pl Pf Pe Pr Pa
    rw [show N32 lo - (1 : Int32) = N32 (lo - 1) from n_sub (b := 1) hlo] at G4
    rw [n_sub hlf, n_add] at G5
    have so : sa ≠ o1 := ne_exa PX PE (by decide)
    obtain ⟨s₂, L, st, hr, he, NL, FE, K2, A2, X2, E2, F1, F2, F3, F4, F5, F6⟩ := fa_2a hw (O1.keep K1 (allS go all0)) hx hby hml hown hret hlk hZ X1 rfl N1 pre1 go gs ov (n_nn (by omega)) ((n_lt (by omega) (by omega)).mpr (by omega)) E1 G6 G4 G3 G2 G5 G1 (PA.keep K1 (ninS so nin0)) (PX.keep K1) ((HC1 c0 (List.mem_cons_self ..)).2.1.keep K1) (n_nat (by omega)) (by omega)
    refine ⟨s₂, _, st, hr, he, _, _, rfl, ⟨rfl, NL, ?_, sa, ka, _, n, lo - 1, lo - 1, en, re + (fi - lo), af, c0 :: D, ?_, ld_cons HD hcC hm hlo, hsm, by omega⟩, FE⟩
    · have K3 := K.trans K1 (fun x hx => Or.inl hx)
      by_cases hs : sa < h0.size
      · refine ⟨[sa, o1], (k_mono K3 (fun x hx => List.mem_cons_of_mem _ hx)).trans K2 (fun x hx => Or.inl hx), fun x hx => ?_⟩
        rcases List.mem_cons.mp hx with rfl | hx
        · exact ⟨gs, Or.inr ⟨hE hs, hsm⟩⟩
        · cases List.mem_singleton.mp hx; exact ⟨go, Or.inl rfl⟩
      · refine ⟨[o1], K3.trans K2 (fun x hx => ?_), fun x hx => by cases List.mem_singleton.mp hx; exact ⟨go, Or.inl rfl⟩⟩
        rcases List.mem_cons.mp hx with rfl | hx
        · exact Or.inr (Nat.le_of_not_lt hs)
        · exact Or.inl hx
    · exact ⟨go, E2, F6, F4, F3, F2, F5, F1, A2, Or.inr ⟨gs, ov, X2⟩, dso⟩
  obtain ⟨sa, ka, vs, n, lo, fi, en, re, af, D, HS, HD, dmm, hk⟩ := id HI
  obtain ⟨go, PE, Ps, Pl, Pf, Pe, Pr, Pa, PA, PX, dso⟩ := id HS
  have hlen : (D.drop (fi - lo)).length = en - fi := by have := HD.1; rw [List.length_drop]; have := HD.2.2.2.2.2.1; have := HD.2.2.2.2.2.2.1; omega
  have hre : re ≤ en - fi := by rw [HD.2.2.2.2.2.2.2.2.2.2.2.1, ← hlen]; exact List.countP_le_length
  have hlf : lo ≤ fi := HD.2.2.2.2.2.1
  have hfe : fi ≤ en := HD.2.2.2.2.2.2.1
  have hle : en ≤ n := HD.2.2.2.2.2.2.2.1
  have n64 : n ≤ 64 := HD.2.2.2.2.2.2.2.2.1
  have no : ∀ x ∈ c0 :: C, x ∉ [o1] := fun x hx q => (ne_exa PE (HC x hx).2.1 (by decide)) (List.mem_singleton.mp q).symm
  have hPX : ∀ {h : Heap}, Keep h0 h [o1] → ((n = 0 ∧ sa < n0) ∨ (n0 ≤ sa ∧ Ovr Z ka cn6 ∧ Exa Z h sa cn3)) := fun K => PX.imp id (fun q => ⟨q.1, q.2.1, q.2.2.keep K⟩)
  rcases fa_0a hw O0 hx hby hml hown hret hlk hZ X0 e0 N0 pre0 go PE Ps Pl Pf Pe Pr Pa with ⟨T1, lc1, hc, X1, N1, K1, E1, G1, G2, G3, G4, G5, G6, pre1⟩ | ⟨T1, lc1, hc, X1, N1, K1, E1, G1, G2, G3, G4, G5, G6, pre1⟩
  · have O1 := O0.keep K1 (allS go all0)
    have HC1 : CF Z T1.heap n0 (c0 :: C) mk := fun x hx => by obtain ⟨a1, a2, a3⟩ := HC x hx; exact ⟨a1, a2.keep K1, a3.keep K1 (no x hx)⟩
    have HS1 : LS Z T1.heap n0 o1 sa ka vs n lo fi en re 1 := ⟨go, E1, G6, G4, G3, G2, G5, G1, PA.keep K1 (ninS dso nin0), hPX K1, dso⟩
    obtain ⟨_, T2, L2, X2, hQ, st2⟩ := own_pb X1 hx hZ hown (y := yn4) (own_w hw 65 rfl) (own_w hw 66 rfl) (own_selp (mvT hZ (own_w hw 22 rfl)) rfl (Cond.privateMethod_at (mvP hZ (own_w hw 67 rfl) (args := #[]))) (mvT hZ (own_w hw 66 rfl)) (by decide)) (own_w hw 67 rfl) (own_w hw 68 rfl) (w_2 hw) rfl E1 (argsL := []) (rest := []) (m_mva l Z a0 hw [] o1 C D mk sa ka vs n lo fi en re 1 T1.heap n0 O1 (fun x hx => HC1 x (List.mem_cons_of_mem _ hx)) HS1 (ld_af HD) (by omega)) (g := (mkF m 13 #[.val (.ref o1), .val (.ref c0)] [(.ref o1)])) rfl (by rw [hml]; rfl) rfl (hb hby d6_13) (lenOf pd0 rfl) (W := 0) (c1 := 1) (s1 := 15)
    obtain ⟨rfl, NL, K, sa', ka', vs', n', lo', en', D', HS', HD', hen, hlo, gsa, hsz, hk'⟩ := hQ
    have hsz0 : h0.size ≤ sa' := Nat.le_trans K1.1 hsz
    exact tail T2 _ T2.heap sa' ka' vs' n' lo' lo' en' 0 1 D' (O1.keep K (allS go all0)) X2 rfl (Fr.app N1 NL) (fun t k => pre1 _ (st2 _ k)) HS' HD' (hlo rfl) (Nat.ne_of_gt (Nat.lt_of_lt_of_le hmm hsz0)) (by omega) (Nat.zero_le _) (fun x hx => by obtain ⟨a1, a2, a3⟩ := HC1 x hx; exact ⟨a1, a2.keep K, a3.keep K (no x hx)⟩) (K1.trans K (fun x hx => Or.inl hx)) (fun q => absurd hsz0 (Nat.not_le_of_lt q)) go
  · have hlo : 0 < lo := Nat.pos_of_ne_zero (fun q => hc (by rw [q]; rfl))
    obtain ⟨gs, ov, PX1⟩ := PX.resolve_left (by omega)
    have so : sa ≠ o1 := ne_exa PX1 PE (by decide)
    exact tail T1 lc1 T1.heap sa ka vs n lo fi en re 1 D (O0.keep K1 (allS go all0)) (X1.more (by decide) (by decide)) rfl N1 pre1 ⟨go, E1, G6, G4, G3, G2, G5, G1, PA.keep K1 (ninS dso nin0), hPX K1, dso⟩ (ld_af HD) hlo dmm hk hre (fun x hx => by obtain ⟨a1, a2, a3⟩ := HC x hx; exact ⟨a1, a2.keep K1, a3.keep K1 (no x hx)⟩) K1 (fun _ => PX1) go
set_option maxRecDepth 65536 in
set_option maxHeartbeats 40000000 in
theorem re_0a {p : Program} {l : Launch} {e : Env} {s : State} {m : MethodId} {below : List Frame} {meth : Method} {c : Code} {E0 T0 : State} {locs : List Loc} {Z : State} {a0 : Array Value} (hw : HW a0 Z) {o1 : Addr} {o2 : Addr} {o4 : Addr} {p13 : Int32} {p14 : Int32} {p15 : Int32} {p16 : Int32} {p17 : Int32} {q5 : Int64} {q3 : Int64} {h0 : Heap} {n0 : Nat} (O0 : Old Z n0 h0)
    (hx : p.tables.exec = Jvm.exec) (hby : c.code = prog_41_method_8_code) (hml : c.maxLocals = 4) (hown : s.vm.findClass cn7 = some m.cls) (hret : meth.sig.returnType = none) (hlk : meth.locks = false) (hZ : Z.Warmed39 s.vm)
    (X0 : Stand p l e ({ frames := 2, cells := 1, slots := 15, locals := 31 } : Room) s m #[(.ref o1), (.ref o2), (.long q3)] below meth c T0 locs 0 0) (e0 : T0.heap = h0) (N0 : Fr n0 locs) (pre0 : Go p e below T0 (mkF m 0 #[.val (.ref o1), .val (.ref o2), .val (.long q3), .second] []) E0) (g_o1 : n0 ≤ o1) (g_o2 : n0 ≤ o2) (P0 : Exa Z h0 o1 cn7) (P1 : Fld Z h0 o1 cn7 "slots" cn3 (.ref o4)) (P2 : Fld Z h0 o1 cn7 "low" "I" (.int p13)) (P3 : Fld Z h0 o1 cn7 "first" "I" (.int p14)) (P4 : Fld Z h0 o1 cn7 "end" "I" (.int p15)) (P5 : Fld Z h0 o1 cn7 "removed" "I" (.int p16)) (P6 : Fld Z h0 o1 cn7 "addsFirst" "Z" (.int p17)) (P7 : Exa Z h0 o2 cn6) (P8 : Fld Z h0 o2 cn6 "removed" "J" (.long q5)) :
    (∃ (T' : State) (lc : List Loc), Stand p l e ({ frames := 2, cells := 1, slots := 15, locals := 31 } : Room) s m #[(.ref o1), (.ref o2), (.long q3)] below meth c T' lc 0 0 ∧ Fr n0 lc ∧ Keep h0 T'.heap [o2, o1] ∧ (Exa Z T'.heap o2 cn6) ∧ (Fld Z T'.heap o2 cn6 "removed" "J" (.long q3)) ∧ (Exa Z T'.heap o1 cn7) ∧ (Fld Z T'.heap o1 cn7 "addsFirst" "Z" (.int p17)) ∧ (Fld Z T'.heap o1 cn7 "end" "I" (.int p15)) ∧ (Fld Z T'.heap o1 cn7 "first" "I" (.int p14)) ∧ (Fld Z T'.heap o1 cn7 "low" "I" (.int p13)) ∧ (Fld Z T'.heap o1 cn7 "removed" "I" (.int (p16 + (1 : Int32)))) ∧ (Fld Z T'.heap o1 cn7 "slots" cn3 (.ref o4)) ∧ Go p e below T' (mkF m 15 #[.val (.ref o1), .val (.ref o2), .val (.long q3), .second] []) E0) := by
 obtain ⟨_, T1, L1, X1, hQ1, st1⟩ := yv X0 hx hZ hown hby hml (y := yn2) (own_w hw 95 rfl) (own_w hw 96 rfl) (own_w hw 98 rfl) (own_w hw 97 rfl) (own_w hw 99 rfl) (own_w hw 36 rfl) e0 P7 [(.long q3)] [] (rm3 l Z a0 hw [] o2 q5 q3 h0 n0 O0 g_o2 P7 P8) 2 #[.val (.ref o1), .val (.ref o2), .val (.long q3), .second] rfl d7_2 (lenOf pd2 rfl) 0 0 0
 obtain ⟨rfl, Nq2, K3, f4, f5⟩ := hQ1
 have N1 := Fr.app N0 Nq2
 have f6 := (P0.keep K3)
 have ne7 : o1 ≠ o2 := ne_exa f6 f4 (by decide)
 have f8 := (P5.keep K3 (ninS ne7 nin0))
 obtain ⟨T9, X9, e9, st9⟩ := yg X1 hx hZ hown hby (own_w hw 28 rfl) rfl f8 7 #[.val (.ref o1), .val (.ref o2), .val (.long q3), .second] [(.ref o1)] d7_7
 obtain ⟨T10, h10, X10, e10, W10, st10⟩ := yp X9 hx hZ hown hby (own_w hw 28 rfl) e9 f8 f6 (own_w hw 29 rfl) (w_1 hw) (ty := .int) (v := (.int (p16 + (1 : Int32)))) (by decide) rfl rfl 12 #[.val (.ref o1), .val (.ref o2), .val (.long q3), .second] [] d7_12
 have N10 := Fr.snoc X10 N1 g_o1
 have Fw10 := f8.same W10
 have pre11 : Go p e below T10 (mkF m 15 #[.val (.ref o1), .val (.ref o2), .val (.long q3), .second] []) E0 := fun t k => by
  refine pre0 _ ?_
  refine yan X0 hx hby d7_0 rfl rfl ?_
  refine XS.lloadN X0.here hx rfl (hb hby d7_1) rfl ?_
  refine st1 _ ?_
  refine yan X1 hx hby d7_5 rfl rfl ?_
  refine XS.dup X1.here hx rfl (hb hby d7_6) rfl rfl ?_
  refine st9 _ ?_
  refine yic X9 hx hby d7_10 ?_
  refine yad X9 hx hby d7_11 ?_
  refine st10 _ ?_
  exact k
 have KL : Keep h0 h10 [o2, o1] := (((Keep.refl h0 [o2, o1]).trans K3 (allS (Or.inl (List.mem_of_getElem? (i := 0) rfl)) all0)).wr W10 (Or.inl (List.mem_of_getElem? (i := 1) rfl)))
 have f12 := (f4.wr W10)
 have f13 := (f5.other W10 (Or.inl (Ne.symm ne7)))
 have f14 := (f6.wr W10)
 have f15 := ((P6.keep K3 (ninS ne7 nin0)).other W10 (Or.inr (sn14 hw)))
 have f16 := ((P4.keep K3 (ninS ne7 nin0)).other W10 (Or.inr (sn15 hw)))
 have f17 := ((P3.keep K3 (ninS ne7 nin0)).other W10 (Or.inr (sn18 hw)))
 have f18 := ((P2.keep K3 (ninS ne7 nin0)).other W10 (Or.inr (sn22 hw)))
 have f19 := ((P1.keep K3 (ninS ne7 nin0)).other W10 (Or.inr (sn28 hw)))
 exact ⟨_, _, X10, N10, (by rw [e10]; exact KL), (by rw [e10]; exact f12), (by rw [e10]; exact f13), (by rw [e10]; exact f14), (by rw [e10]; exact f15), (by rw [e10]; exact f16), (by rw [e10]; exact f17), (by rw [e10]; exact f18), (by rw [e10]; exact Fw10), (by rw [e10]; exact f19), pre11⟩
set_option maxRecDepth 65536 in
set_option maxHeartbeats 40000000 in
theorem re_1a {p : Program} {l : Launch} {e : Env} {s : State} {m : MethodId} {below : List Frame} {meth : Method} {c : Code} {E0 T0 : State} {locs : List Loc} {Z : State} {a0 : Array Value} (hw : HW a0 Z) {o1 : Addr} {o6 : Addr} {p14 : Int32} {p15 : Int32} {p9 : Int32} {o4 : Addr} {p13 : Int32} {p16 : Int32} {p17 : Int32} {kc8 : ClassId} {q7 : Int64} {o2 : Addr} {q3 : Int64} {vs : List Value} {h0 : Heap} {n0 : Nat} (O0 : Old Z n0 h0)
    (hx : p.tables.exec = Jvm.exec) (hby : c.code = prog_41_method_8_code) (hml : c.maxLocals = 4) (hown : s.vm.findClass cn7 = some m.cls) (hret : meth.sig.returnType = none) (hlk : meth.locks = false) (hZ : Z.Warmed39 s.vm)
    (X0 : Stand p l e ({ frames := 2, cells := 1, slots := 15, locals := 31 } : Room) s m #[(.ref o1), (.ref o2), (.long q3)] below meth c T0 locs 0 0) (e0 : T0.heap = h0) (N0 : Fr n0 locs) (pre0 : Go p e below T0 (mkF m 15 #[.val (.ref o1), .val (.ref o2), .val (.long q3), .second] []) E0) (g_o1 : n0 ≤ o1) (g_o6 : n0 ≤ o6) (hp0 : p14 < p15) (hp1 : ¬ (p14 < (0 : Int32))) (hp2 : p14 < p9) (P0 : Exa Z h0 o1 cn7) (P1 : Fld Z h0 o1 cn7 "slots" cn3 (.ref o4)) (P2 : Fld Z h0 o1 cn7 "low" "I" (.int p13)) (P3 : Fld Z h0 o1 cn7 "first" "I" (.int p14)) (P4 : Fld Z h0 o1 cn7 "end" "I" (.int p15)) (P5 : Fld Z h0 o1 cn7 "removed" "I" (.int p16)) (P6 : Fld Z h0 o1 cn7 "addsFirst" "Z" (.int p17)) (P7 : Arv Z h0 o4 kc8 (.object cn6) p9 vs .null) (P8 : Exa Z h0 o6 cn6) (P9 : Fld Z h0 o6 cn6 "removed" "J" (.long q7)) (hrd : vs.getD p14.toNatClampNeg .null = .ref o6) :
    (∃ (T' : State) (lc : List Loc), (q7 = (9223372036854775807 : Int64)) ∧ Stand p l e ({ frames := 2, cells := 1, slots := 15, locals := 31 } : Room) s m #[(.ref o1), (.ref o2), (.long q3)] below meth c T' lc 0 0 ∧ Fr n0 lc ∧ T'.heap = h0 ∧ Go p e below T' (mkF m 64 #[.val (.ref o1), .val (.ref o2), .val (.long q3), .second] []) E0)
    ∨ (∃ (T' : State) (lc : List Loc), (¬ (q7 = (9223372036854775807 : Int64))) ∧ Stand p l e ({ frames := 2, cells := 1, slots := 15, locals := 31 } : Room) s m #[(.ref o1), (.ref o2), (.long q3)] below meth c T' lc 0 0 ∧ Fr n0 lc ∧ Keep h0 T'.heap [o1] ∧ (Exa Z T'.heap o1 cn7) ∧ (Fld Z T'.heap o1 cn7 "addsFirst" "Z" (.int p17)) ∧ (Fld Z T'.heap o1 cn7 "end" "I" (.int p15)) ∧ (Fld Z T'.heap o1 cn7 "first" "I" (.int (p14 + (1 : Int32)))) ∧ (Fld Z T'.heap o1 cn7 "low" "I" (.int p13)) ∧ (Fld Z T'.heap o1 cn7 "removed" "I" (.int (p16 - (1 : Int32)))) ∧ (Fld Z T'.heap o1 cn7 "slots" cn3 (.ref o4)) ∧ Go p e below T' (mkF m 15 #[.val (.ref o1), .val (.ref o2), .val (.long q3), .second] []) E0) := by
 obtain ⟨T1, X1, e1, st1⟩ := yag X0 hx hZ hown hby (w_26 hw) e0 P3 15 #[.val (.ref o1), .val (.ref o2), .val (.long q3), .second] [] d7_15 d7_16 rfl
 obtain ⟨T2, X2, e2, st2⟩ := yag X1 hx hZ hown hby (w_24 hw) e1 P4 19 #[.val (.ref o1), .val (.ref o2), .val (.long q3), .second] [(.int p14)] d7_19 d7_20 rfl
 obtain ⟨T3, X3, e3, st3⟩ := yag X2 hx hZ hown hby (own_w hw 11 rfl) e2 P1 26 #[.val (.ref o1), .val (.ref o2), .val (.long q3), .second] [] d7_26 d7_27 rfl
 obtain ⟨T4, X4, e4, st4⟩ := yag X3 hx hZ hown hby (w_26 hw) e3 P3 30 #[.val (.ref o1), .val (.ref o2), .val (.long q3), .second] [(.ref o4)] d7_30 d7_31 rfl
 obtain ⟨cl5, Ar5, qa5, Sa5, Na5, Ha5, Ga5⟩ := id (P7)
 have hin5 := inb_of (j := p14) Sa5 ⟨hp1, hp2⟩
 have hat5 : cl5.slots[(p14).toNatClampNeg]? = some (.ref o6) := Has.at Ha5 hin5 hrd
 obtain ⟨_, T6, L6, X6, hQ6, st6⟩ := yv X4 hx hZ hown hby hml (y := yn1) (own_w hw 85 rfl) (own_w hw 86 rfl) (own_w hw 88 rfl) (own_w hw 87 rfl) (own_w hw 89 rfl) (own_w hw 36 rfl) e4 P8 [] [] (rm2 l Z a0 hw [] o6 q7 h0 n0 O0 g_o6 P9) 35 #[.val (.ref o1), .val (.ref o2), .val (.long q3), .second] rfl d7_35 (lenOf pd1 rfl) 0 0 0
 have pre7 : Go p e below T4 (mkF m 35 #[.val (.ref o1), .val (.ref o2), .val (.long q3), .second] [(.ref o6)]) E0 := fun t k => by
  refine pre0 _ ?_
  refine st1 _ ?_
  refine st2 _ ?_
  refine yno X2 hx hby d7_23 (tlt hp0).2.1 ?_
  refine st3 _ ?_
  refine st4 _ ?_
  refine X4.aaload hx (j := p14) (v := (.ref o6)) (by rw [e4]; exact Ar5.1) (State.isArrayOf_alike hZ.alike Ar5.2.1) rfl Ar5.2.2 hin5 hat5 (g := (mkF m 34 #[.val (.ref o1), .val (.ref o2), .val (.long q3), .second] [(.int p14), (.ref o4)])) rfl rfl (hb hby d7_34) _ ?_
  exact k
 rcases hQ6 with ⟨hc8, rfl, Nq9, e10⟩ | ⟨hc11, rfl, Nq12, e13⟩
 ·
  have N6 := Fr.app N0 Nq9
  have pre14 : Go p e below T6 (mkF m 64 #[.val (.ref o1), .val (.ref o2), .val (.long q3), .second] []) E0 := fun t k => by
   refine pre7 _ ?_
   refine st6 _ ?_
   refine XS.ifYes X6.here hx rfl (pc0 := 38) (pc' := 64) rfl (hb hby d7_38) rfl ((if0 _ _).trans (feq (by decide : ¬ ((1 : Int32) = (0 : Int32)))).2) (by decide) (by decide) ?_
   exact k
  exact (Or.inl ⟨_, _, hc8, X6, N6, e10, pre14⟩)
 ·
  have N6 := Fr.app N0 Nq12
  obtain ⟨T15, X15, e15, st15⟩ := yg X6 hx hZ hown hby (w_26 hw) e13 P3 43 #[.val (.ref o1), .val (.ref o2), .val (.long q3), .second] [(.ref o1)] d7_43
  obtain ⟨T16, h16, X16, e16, W16, st16⟩ := yp X15 hx hZ hown hby (w_26 hw) e15 P3 P0 (own_w hw 27 rfl) (w_1 hw) (ty := .int) (v := (.int (p14 + (1 : Int32)))) (by decide) rfl rfl 48 #[.val (.ref o1), .val (.ref o2), .val (.long q3), .second] [] d7_48
  have N16 := Fr.snoc X16 N6 g_o1
  have Fw16 := P3.same W16
  have f17 := (P5.other W16 (Or.inr (sn8 hw)))
  obtain ⟨T18, X18, e18, st18⟩ := yg X16 hx hZ hown hby (own_w hw 28 rfl) e16 f17 53 #[.val (.ref o1), .val (.ref o2), .val (.long q3), .second] [(.ref o1)] d7_53
  have f19 := (P0.wr W16)
  obtain ⟨T20, h20, X20, e20, W20, st20⟩ := yp X18 hx hZ hown hby (own_w hw 28 rfl) e18 f17 f19 (own_w hw 29 rfl) (w_1 hw) (ty := .int) (v := (.int (p16 - (1 : Int32)))) (by decide) rfl rfl 58 #[.val (.ref o1), .val (.ref o2), .val (.long q3), .second] [] d7_58
  have N20 := Fr.snoc X20 N16 g_o1
  have Fw20 := f17.same W20
  have pre21 : Go p e below T20 (mkF m 15 #[.val (.ref o1), .val (.ref o2), .val (.long q3), .second] []) E0 := fun t k => by
   refine pre7 _ ?_
   refine st6 _ ?_
   refine yfn X6 hx hby d7_38 ((if0 _ _).trans (teq (by decide : (0 : Int32) = (0 : Int32))).2) ?_
   refine yan X6 hx hby d7_41 rfl rfl ?_
   refine XS.dup X6.here hx rfl (hb hby d7_42) rfl rfl ?_
   refine st15 _ ?_
   refine yic X15 hx hby d7_46 ?_
   refine yad X15 hx hby d7_47 ?_
   refine st16 _ ?_
   refine yan X16 hx hby d7_51 rfl rfl ?_
   refine XS.dup X16.here hx rfl (hb hby d7_52) rfl rfl ?_
   refine st18 _ ?_
   refine yic X18 hx hby d7_56 ?_
   refine ysu X18 hx hby d7_57 ?_
   refine st20 _ ?_
   refine ygo X20 hx hby 61 15 rfl d7_61 (by decide) ?_
   exact k
  have KL : Keep h0 h20 [o1] := (((Keep.refl h0 [o1]).wr W16 (Or.inl (List.mem_of_getElem? (i := 0) rfl))).wr W20 (Or.inl (List.mem_of_getElem? (i := 0) rfl)))
  have f22 := (f19.wr W20)
  have f23 := ((P6.other W16 (Or.inr (sn12 hw))).other W20 (Or.inr (sn14 hw)))
  have f24 := ((P4.other W16 (Or.inr (sn5 hw))).other W20 (Or.inr (sn15 hw)))
  have f25 := (Fw16.other W20 (Or.inr (sn18 hw)))
  have f26 := ((P2.other W16 (Or.inr (sn20 hw))).other W20 (Or.inr (sn22 hw)))
  have f27 := ((P1.other W16 (Or.inr (sn26 hw))).other W20 (Or.inr (sn28 hw)))
  exact (Or.inr ⟨_, _, hc11, X20, N20, (by rw [e20]; exact KL), (by rw [e20]; exact f22), (by rw [e20]; exact f23), (by rw [e20]; exact f24), (by rw [e20]; exact f25), (by rw [e20]; exact f26), (by rw [e20]; exact Fw20), (by rw [e20]; exact f27), pre21⟩)
set_option maxRecDepth 65536 in
set_option maxHeartbeats 40000000 in
theorem re_2a {p : Program} {l : Launch} {e : Env} {s : State} {m : MethodId} {below : List Frame} {meth : Method} {c : Code} {E0 T0 : State} {locs : List Loc} {Z : State} {a0 : Array Value} (hw : HW a0 Z) {p14 : Int32} {p15 : Int32} {o1 : Addr} {o2 : Addr} {q3 : Int64} {h0 : Heap} {n0 : Nat} (O0 : Old Z n0 h0)
    (hx : p.tables.exec = Jvm.exec) (hby : c.code = prog_41_method_8_code) (hml : c.maxLocals = 4) (hown : s.vm.findClass cn7 = some m.cls) (hret : meth.sig.returnType = none) (hlk : meth.locks = false) (hZ : Z.Warmed39 s.vm)
    (X0 : Stand p l e ({ frames := 2, cells := 1, slots := 15, locals := 31 } : Room) s m #[(.ref o1), (.ref o2), (.long q3)] below meth c T0 locs 0 0) (e0 : T0.heap = h0) (N0 : Fr n0 locs) (pre0 : Go p e below T0 (mkF m 15 #[.val (.ref o1), .val (.ref o2), .val (.long q3), .second] []) E0) (hp0 : ¬ (p14 < p15)) (P3 : Fld Z h0 o1 cn7 "first" "I" (.int p14)) (P4 : Fld Z h0 o1 cn7 "end" "I" (.int p15)) :
    (∃ (T' : State) (lc : List Loc), Stand p l e ({ frames := 2, cells := 1, slots := 15, locals := 31 } : Room) s m #[(.ref o1), (.ref o2), (.long q3)] below meth c T' lc 0 0 ∧ Fr n0 lc ∧ T'.heap = h0 ∧ Go p e below T' (mkF m 64 #[.val (.ref o1), .val (.ref o2), .val (.long q3), .second] []) E0) := by
 obtain ⟨T1, X1, e1, st1⟩ := yag X0 hx hZ hown hby (w_26 hw) e0 P3 15 #[.val (.ref o1), .val (.ref o2), .val (.long q3), .second] [] d7_15 d7_16 rfl
 obtain ⟨T2, X2, e2, st2⟩ := yag X1 hx hZ hown hby (w_24 hw) e1 P4 19 #[.val (.ref o1), .val (.ref o2), .val (.long q3), .second] [(.int p14)] d7_19 d7_20 rfl
 have pre3 : Go p e below T2 (mkF m 64 #[.val (.ref o1), .val (.ref o2), .val (.long q3), .second] []) E0 := fun t k => by
  refine pre0 _ ?_
  refine st1 _ ?_
  refine st2 _ ?_
  refine yye X2 hx hby 23 64 rfl d7_23 (flt hp0).2.1 (by decide) ?_
  exact k
 exact ⟨_, _, X2, N0, e2, pre3⟩
theorem ef5 (m : MethodId) (x0 : Addr) : entryFrame m #[(.ref x0)] 1 = mkF m 0 #[.val (.ref x0)] [] := by first | (simp [entryFrame, mkF, argsToLocals, Value.category]; done) | rfl
def Q5 (Z : State) (o1 : Addr) (p2 p3 p5 : Int32) (h0 : Heap) (n0 : Nat) (v : Option Value) (h : Heap) (L : List Loc) : Prop :=
  (v = some (.int ((p2 - p3) - p5)) ∧ Fr n0 L ∧ h = h0)
set_option maxRecDepth 65536 in
set_option maxHeartbeats 40000000 in
theorem rm5 (l : Launch) (Z : State) (a0 : Array Value) (hw : HW a0 Z) (ws : List Jvm.Cond) (o1 : Addr) (p2 p3 p5 : Int32) (h0 : Heap) (n0 : Nat) (O0 : Old Z n0 h0) (g_o1 : n0 ≤ o1) (P1 : Fld Z h0 o1 cn7 "end" "I" (.int p2)) (P2 : Fld Z h0 o1 cn7 "first" "I" (.int p3)) (P4 : Fld Z h0 o1 cn7 "removed" "I" (.int p5)) :
    MF l yn0 prog_41_method_5_code 1 (some .int) ws ({ frames := 0, cells := 0, slots := 0, locals := 0 } : Room) #[(.ref o1)] Z h0 (Q5 Z o1 p2 p3 p5 h0 n0) := by
 refine MetFree.of_bodySF (plainFor_of_name pn0) hisR ?_
 intro p e s m args below meth c s₁ Bd hml hP hK
 obtain ⟨rfl, hZ, hh⟩ := hP
 obtain ⟨hx, hby, hown, hret, hlk, X0, e0, N0⟩ := own_bd Bd hh n0
 have pre0 := own_ct s₁ (p := p) (e := e) (below := below) (ef5 m o1)
 obtain ⟨T1, X1, e1, st1⟩ := yag X0 hx hZ hown hby (w_24 hw) e0 P1 0 #[.val (.ref o1)] [] d0_0 d0_1 rfl
 obtain ⟨T2, X2, e2, st2⟩ := yag X1 hx hZ hown hby (w_26 hw) e1 P2 4 #[.val (.ref o1)] [(.int p2)] d0_4 d0_5 rfl
 obtain ⟨T3, X3, e3, st3⟩ := yag X2 hx hZ hown hby (own_w hw 28 rfl) e2 P4 9 #[.val (.ref o1)] [(.int (p2 - p3))] d0_9 d0_10 rfl
 obtain ⟨fs, hr, hrun, hended, hW, hsame⟩ := X3.leave (v := some (.int ((p2 - p3) - p5))) (fun h => by rw [hret] at h; cases h)
 refine ⟨_, _, pre0 _ ?_, hrun, hended, _, _, rfl, ?_, ⟨_, rfl⟩, hW, hsame.mono (by decide) (by decide)⟩
 ·
  refine st1 _ ?_
  refine st2 _ ?_
  refine ysu X2 hx hby d0_8 ?_
  refine st3 _ ?_
  refine ysu X3 hx hby d0_13 ?_
  show Steps p.tables e below (T3.setTop (mkF m 14 #[.val (.ref o1)] [(.int ((p2 - p3) - p5))])) _
  exact retI X3 hx hret (hb hby d0_14) hr
 ·
  show Q5 Z o1 p2 p3 p5 h0 n0 _ T3.heap _
  rw [e3]
  exact ⟨rfl, N0, rfl⟩
set_option maxRecDepth 65536 in
set_option maxHeartbeats 40000000 in
theorem re_3a {p : Program} {l : Launch} {e : Env} {s : State} {m : MethodId} {below : List Frame} {meth : Method} {c : Code} {E0 T0 : State} {locs : List Loc} {Z : State} {a0 : Array Value} (hw : HW a0 Z) {o1 : Addr} {p13 : Int32} {p14 : Int32} {p15 : Int32} {p16 : Int32} {o2 : Addr} {q3 : Int64} {h0 : Heap} {n0 : Nat} (O0 : Old Z n0 h0)
    (hx : p.tables.exec = Jvm.exec) (hby : c.code = prog_41_method_8_code) (hml : c.maxLocals = 4) (hown : s.vm.findClass cn7 = some m.cls) (hret : meth.sig.returnType = none) (hlk : meth.locks = false) (hZ : Z.Warmed39 s.vm)
    (X0 : Stand p l e ({ frames := 2, cells := 1, slots := 15, locals := 31 } : Room) s m #[(.ref o1), (.ref o2), (.long q3)] below meth c T0 locs 0 0) (e0 : T0.heap = h0) (N0 : Fr n0 locs) (pre0 : Go p e below T0 (mkF m 64 #[.val (.ref o1), .val (.ref o2), .val (.long q3), .second] []) E0) (g_o1 : n0 ≤ o1) (P0 : Exa Z h0 o1 cn7) (P1 : Fld Z h0 o1 cn7 "low" "I" (.int p13)) (P2 : Fld Z h0 o1 cn7 "first" "I" (.int p14)) (P3 : Fld Z h0 o1 cn7 "end" "I" (.int p15)) (P4 : Fld Z h0 o1 cn7 "removed" "I" (.int p16)) :
    (∃ (T' : State) (lc : List Loc), (((p15 - p14) - p16) < (4 : Int32)) ∧ ((4 : Int32) < ((p14 - p13) + p16)) ∧ Stand p l e ({ frames := 2, cells := 1, slots := 15, locals := 31 } : Room) s m #[(.ref o1), (.ref o2), (.long q3)] below meth c T' lc 0 0 ∧ Fr n0 lc ∧ T'.heap = h0 ∧ Go p e below T' (mkF m 90 #[.val (.ref o1), .val (.ref o2), .val (.long q3), .second] [(.ref o1)]) E0)
    ∨ (∃ (T' : State) (lc : List Loc), (((p15 - p14) - p16) < (4 : Int32)) ∧ (¬ ((4 : Int32) < ((p14 - p13) + p16))) ∧ Stand p l e ({ frames := 2, cells := 1, slots := 15, locals := 31 } : Room) s m #[(.ref o1), (.ref o2), (.long q3)] below meth c T' lc 0 0 ∧ Fr n0 lc ∧ T'.heap = h0 ∧ Go p e below T' (mkF m 93 #[.val (.ref o1), .val (.ref o2), .val (.long q3), .second] []) E0)
    ∨ (∃ (T' : State) (lc : List Loc), (¬ (((p15 - p14) - p16) < (4 : Int32))) ∧ (((p15 - p14) - p16) < ((p14 - p13) + p16)) ∧ Stand p l e ({ frames := 2, cells := 1, slots := 15, locals := 31 } : Room) s m #[(.ref o1), (.ref o2), (.long q3)] below meth c T' lc 0 0 ∧ Fr n0 lc ∧ T'.heap = h0 ∧ Go p e below T' (mkF m 90 #[.val (.ref o1), .val (.ref o2), .val (.long q3), .second] [(.ref o1)]) E0)
    ∨ (∃ (T' : State) (lc : List Loc), (¬ (((p15 - p14) - p16) < (4 : Int32))) ∧ (¬ (((p15 - p14) - p16) < ((p14 - p13) + p16))) ∧ Stand p l e ({ frames := 2, cells := 1, slots := 15, locals := 31 } : Room) s m #[(.ref o1), (.ref o2), (.long q3)] below meth c T' lc 0 0 ∧ Fr n0 lc ∧ T'.heap = h0 ∧ Go p e below T' (mkF m 93 #[.val (.ref o1), .val (.ref o2), .val (.long q3), .second] []) E0) := by
 obtain ⟨T1, X1, e1, st1⟩ := yag X0 hx hZ hown hby (w_26 hw) e0 P2 64 #[.val (.ref o1), .val (.ref o2), .val (.long q3), .second] [] d7_64 d7_65 rfl
 obtain ⟨T2, X2, e2, st2⟩ := yag X1 hx hZ hown hby (own_w hw 77 rfl) e1 P1 68 #[.val (.ref o1), .val (.ref o2), .val (.long q3), .second] [(.int p14)] d7_68 d7_69 rfl
 obtain ⟨T3, X3, e3, st3⟩ := yag X2 hx hZ hown hby (own_w hw 28 rfl) e2 P4 73 #[.val (.ref o1), .val (.ref o2), .val (.long q3), .second] [(.int (p14 - p13))] d7_73 d7_74 rfl
 obtain ⟨_, T4, L4, X4, hQ4, st4⟩ := yv X3 hx hZ hown hby hml (y := yn0) (own_w hw 69 rfl) (own_w hw 20 rfl) (own_w hw 22 rfl) (own_w hw 21 rfl) (own_w hw 23 rfl) (w_2 hw) e3 P0 [] [(.int ((p14 - p13) + p16))] (rm5 l Z a0 hw [] o1 p15 p14 p16 h0 n0 O0 g_o1 P3 P2 P4) 79 #[.val (.ref o1), .val (.ref o2), .val (.long q3), .second] rfl d7_79 (lenOf pd3 rfl) 1 0 0
 obtain ⟨rfl, Nq5, e6⟩ := hQ4
 have N4 := Fr.app N0 Nq5
 obtain ⟨_, T7, L7, X7, hQ7, st7⟩ := own_cs X4 hx hZ hown (y := yn3) (own_w hw 70 rfl) (own_w hw 71 rfl) (own_w hw 73 rfl) (own_w hw 72 rfl) e6 (argsL := [(.int ((p15 - p14) - p16)), (.int 4)]) (rest := [(.int ((p14 - p13) + p16))]) (rm4 l Z a0 hw [] (((p15 - p14) - p16)) ((4 : Int32)) h0 n0 O0 ) (g := (mkF m 83 #[.val (.ref o1), .val (.ref o2), .val (.long q3), .second] [(.int 4), (.int ((p15 - p14) - p16)), (.int ((p14 - p13) + p16))])) rfl (by rw [hml]; rfl) rfl (hb hby d7_83) (lenOf pd4 rfl) (W := 1) (c1 := 0) (s1 := 0)
 have pre8 : Go p e below T4 (mkF m 83 #[.val (.ref o1), .val (.ref o2), .val (.long q3), .second] [(.int 4), (.int ((p15 - p14) - p16)), (.int ((p14 - p13) + p16))]) E0 := fun t k => by
  refine pre0 _ ?_
  refine st1 _ ?_
  refine st2 _ ?_
  refine ysu X2 hx hby d7_72 ?_
  refine st3 _ ?_
  refine yad X3 hx hby d7_77 ?_
  refine yan X3 hx hby d7_78 rfl rfl ?_
  refine st4 _ ?_
  refine yic X4 hx hby d7_82 ?_
  exact k
 rcases hQ7 with ⟨hc9, rfl, Nq10, e11⟩ | ⟨hc12, rfl, Nq13, e14⟩
 ·
  have N7 := Fr.app N4 Nq10
  have pre15 : Go p e below T7 (mkF m 86 #[.val (.ref o1), .val (.ref o2), .val (.long q3), .second] [(.int 4), (.int ((p14 - p13) + p16))]) E0 := fun t k => by
   refine pre8 _ ?_
   refine st7 _ ?_
   exact k
  by_cases hc16 : (4 : Int32) < ((p14 - p13) + p16)
  ·
   have pre17 : Go p e below T7 (mkF m 90 #[.val (.ref o1), .val (.ref o2), .val (.long q3), .second] [(.ref o1)]) E0 := fun t k => by
    refine pre15 _ ?_
    refine yno X7 hx hby d7_86 (tlt hc16).2.2.2 ?_
    refine yan X7 hx hby d7_89 rfl rfl ?_
    exact k
   exact (Or.inl ⟨_, _, hc9, hc16, X7, N7, e11, pre17⟩)
  ·
   have pre18 : Go p e below T7 (mkF m 93 #[.val (.ref o1), .val (.ref o2), .val (.long q3), .second] []) E0 := fun t k => by
    refine pre15 _ ?_
    refine yye X7 hx hby 86 93 rfl d7_86 (flt hc16).2.2.2 (by decide) ?_
    exact k
   exact (Or.inr (Or.inl ⟨_, _, hc9, hc16, X7, N7, e11, pre18⟩))
 ·
  have N7 := Fr.app N4 Nq13
  have pre19 : Go p e below T7 (mkF m 86 #[.val (.ref o1), .val (.ref o2), .val (.long q3), .second] [(.int ((p15 - p14) - p16)), (.int ((p14 - p13) + p16))]) E0 := fun t k => by
   refine pre8 _ ?_
   refine st7 _ ?_
   exact k
  by_cases hc20 : ((p15 - p14) - p16) < ((p14 - p13) + p16)
  ·
   have pre21 : Go p e below T7 (mkF m 90 #[.val (.ref o1), .val (.ref o2), .val (.long q3), .second] [(.ref o1)]) E0 := fun t k => by
    refine pre19 _ ?_
    refine yno X7 hx hby d7_86 (tlt hc20).2.2.2 ?_
    refine yan X7 hx hby d7_89 rfl rfl ?_
    exact k
   exact (Or.inr (Or.inr (Or.inl ⟨_, _, hc12, hc20, X7, N7, e14, pre21⟩)))
  ·
   have pre22 : Go p e below T7 (mkF m 93 #[.val (.ref o1), .val (.ref o2), .val (.long q3), .second] []) E0 := fun t k => by
    refine pre19 _ ?_
    refine yye X7 hx hby 86 93 rfl d7_86 (flt hc20).2.2.2 (by decide) ?_
    exact k
   exact (Or.inr (Or.inr (Or.inr ⟨_, _, hc12, hc20, X7, N7, e14, pre22⟩)))
set_option maxRecDepth 65536 in
set_option maxHeartbeats 40000000 in
theorem re_4a {p : Program} {l : Launch} {e : Env} {s : State} {m : MethodId} {below : List Frame} {meth : Method} {c : Code} {E0 T0 : State} {locs : List Loc} {Z : State} {a0 : Array Value} (hw : HW a0 Z) {o1 : Addr} {o2 : Addr} {q3 : Int64} {h0 : Heap} {n0 : Nat} (O0 : Old Z n0 h0)
    (hx : p.tables.exec = Jvm.exec) (hby : c.code = prog_41_method_8_code) (hml : c.maxLocals = 4) (hown : s.vm.findClass cn7 = some m.cls) (hret : meth.sig.returnType = none) (hlk : meth.locks = false) (hZ : Z.Warmed39 s.vm)
    (X0 : Stand p l e ({ frames := 2, cells := 1, slots := 15, locals := 31 } : Room) s m #[(.ref o1), (.ref o2), (.long q3)] below meth c T0 locs 1 15) (e0 : T0.heap = h0) (N0 : Fr n0 locs) (pre0 : Go p e below T0 (mkF m 93 #[.val (.ref o1), .val (.ref o2), .val (.long q3), .second] []) E0) :
    (∃ (s₂ : State) (L : List Loc), Steps p.tables e below E0 s₂ ∧ s₂.status = .running ∧ Ended s₂ below (.returned none) ∧ Fr n0 L ∧ FrameEnd s (.returned none) s₂ L 1 15 ∧ s₂.heap = h0) := by
 obtain ⟨fs, hr, hrun, hended, hW, hsame⟩ := X0.leave (v := none) (fun _ => rfl)
 refine ⟨_, _, pre0 _ ?_, hrun, hended, N0, ⟨⟨_, rfl⟩, hW, hsame.mono (by decide) (by decide)⟩, e0⟩
 show Steps p.tables e below (T0.setTop (mkF m 93 #[.val (.ref o1), .val (.ref o2), .val (.long q3), .second] [])) _
 exact X0.returnOut hx hret (hb hby d7_93) hr
theorem re_loopa {p : Program} {l : Launch} {e : Env} {s : State} {m : MethodId} {below : List Frame} {meth : Method} {c : Code} {E0 : State} {Z : State} {a0 : Array Value} (hw : HW a0 Z) {o1 c0 sa : Addr} {q2 : Int64} {ka : ClassId} {vs : List Value} {n lo en n0 : Nat} {af : Int32} {C D : List Addr} {mk : Addr → Int64}
    (hx : p.tables.exec = Jvm.exec) (hby : c.code = prog_41_method_8_code) (hml : c.maxLocals = 4) (hown : s.vm.findClass cn7 = some m.cls) (hret : meth.sig.returnType = none) (hlk : meth.locks = false) (hZ : Z.Warmed39 s.vm) :
    ∀ (d fi re : Nat) (h0 : Heap) (T0 : State) (locs : List Loc), en - fi = d → Old Z n0 h0 → Stand p l e ({ frames := 2, cells := 1, slots := 15, locals := 31 } : Room) s m #[(.ref o1), (.ref c0), (.long q2)] below meth c T0 locs 0 0 → T0.heap = h0 → Fr n0 locs →
      Go p e below T0 (mkF m 15 #[.val (.ref o1), .val (.ref c0), .val (.long q2), .second] []) E0 → LS Z h0 n0 o1 sa ka vs n lo fi en re af → LD C D mk vs n lo fi en re af → CF Z h0 n0 C mk →
      ∃ (T' : State) (lc : List Loc) (fi' re' : Nat), Stand p l e ({ frames := 2, cells := 1, slots := 15, locals := 31 } : Room) s m #[(.ref o1), (.ref c0), (.long q2)] below meth c T' lc 0 0 ∧ Fr n0 lc ∧ Keep h0 T'.heap [o1] ∧ LS Z T'.heap n0 o1 sa ka vs n lo fi' en re' af ∧ LD C D mk vs n lo fi' en re' af ∧ en - fi' - re' = en - fi - re ∧
        Go p e below T' (mkF m 64 #[.val (.ref o1), .val (.ref c0), .val (.long q2), .second] []) E0 := by
  intro d
  induction d with
  | zero =>
    intro fi re h0 T0 locs hd O0 X0 e0 N0 pre0 HS HD HC
    obtain ⟨go, PE, Ps, Pl, Pf, Pe, Pr, Pa, PA, PX, dso⟩ := id HS
    obtain ⟨d1, d2, d3, d4, d5, d6, d7, d8, d9, d10, d11, d12, d13⟩ := id HD
    obtain ⟨T', lc, X', N', e', pre'⟩ := re_2a hw O0 hx hby hml hown hret hlk hZ X0 e0 N0 pre0 (fun q => absurd ((n_lt (by omega) (by omega)).mp q) (by omega)) Pf Pe
    refine ⟨T', lc, fi, re, X', N', ?_, ?_, HD, rfl, pre'⟩
    · rw [e']; exact Keep.refl _ _
    · rw [e']; exact HS
  | succ d ih =>
    intro fi re h0 T0 locs hd O0 X0 e0 N0 pre0 HS HD HC
    obtain ⟨go, PE, Ps, Pl, Pf, Pe, Pr, Pa, PA, PX, dso⟩ := id HS
    obtain ⟨d1, d2, d3, d4, d5, d6, d7, d8, d9, d10, d11, d12, d13⟩ := id HD
    have hi : fi - lo < D.length := by omega
    obtain ⟨a, ha⟩ : ∃ a, D[fi - lo]? = some a := ⟨_, List.getElem?_eq_getElem hi⟩
    have ea : D[fi - lo] = a := (List.getElem?_eq_some_iff.mp ha).2
    have hrd : vs.getD (N32 fi).toNatClampNeg .null = .ref a := by
      rw [n_nat (by omega)]; have z := d2 (fi - lo) hi; rw [show lo + (fi - lo) = fi by omega, ea] at z; exact z
    obtain ⟨ga, Ea, Fa⟩ := HC a (d4 a (ea ▸ List.getElem_mem hi))
    rcases re_1a hw O0 hx hby hml hown hret hlk hZ X0 e0 N0 pre0 go ga ((n_lt (by omega) (by omega)).mpr (by omega)) (n_nn (by omega)) ((n_lt (by omega) (by omega)).mpr (by omega)) PE Ps Pl Pf Pe Pr Pa PA Ea Fa hrd with ⟨T', lc, hm, X', N', e', pre'⟩ | ⟨T', lc, hm, X', N', K', G0, G1, G2, G3, G4, G5, G6, pre'⟩
    · refine ⟨T', lc, fi, re, X', N', ?_, ?_, HD, rfl, pre'⟩
      · rw [e']; exact Keep.refl _ _
      · rw [e']; exact HS
    · obtain ⟨HD', hre⟩ := ld_adv HD (by omega) ha hm
      rw [show N32 fi + (1 : Int32) = N32 (fi + 1) from n_add fi 1] at G3
      rw [show N32 re - (1 : Int32) = N32 (re - 1) from n_sub (b := 1) hre] at G5
      have HS' : LS Z T'.heap n0 o1 sa ka vs n lo (fi + 1) en (re - 1) af := ⟨go, G0, G6, G4, G3, G2, G5, G1, PA.keep K' (ninS dso nin0), PX.imp id (fun q => ⟨q.1, q.2.1, q.2.2.keep K'⟩), dso⟩
      obtain ⟨T2, lc2, fi', re', X2, N2, K2, HS2, HD2, hk2, pre2⟩ := ih (fi + 1) (re - 1) T'.heap T' lc (by omega) (O0.keep K' (allS go all0)) X' rfl N' pre' HS' HD'
        (fun x hx => by obtain ⟨a1, a2, a3⟩ := HC x hx; exact ⟨a1, a2.keep K', a3.keep K' (ninS (Ne.symm (ne_exa PE a2 (by decide))) nin0)⟩)
      exact ⟨T2, lc2, fi', re', X2, N2, K'.trans K2 (fun x hx => Or.inl hx), HS2, HD2, by omega, pre2⟩
theorem ef_rma (m : MethodId) (x0 x1 : Addr) (x2 : Int64) : entryFrame m #[(.ref x0), (.ref x1), (.long x2)] 4 = mkF m 0 #[.val (.ref x0), .val (.ref x1), .val (.long x2), .second] [] := by first | (simp [entryFrame, mkF, argsToLocals, Value.category]; done) | rfl
set_option maxHeartbeats 4000000 in
theorem m_rma (l : Launch) (Z : State) (a0 : Array Value) (hw : HW a0 Z) (ws : List Jvm.Cond) (o1 c0 mm : Addr) (C : List Addr) (mk : Addr → Int64) (q2 : Int64) (k : Nat) (h0 : Heap) (n0 : Nat) (O0 : Old Z n0 h0) (hq : q2 ≠ MX) (HC : CF Z h0 n0 C mk) (hc : c0 ∈ C) (hm : mk c0 = MX) (hmm : mm < h0.size) (HI : LInv Z h0 n0 o1 mm C mk k) (hB : k ≤ 5) :
    MF l yn7 prog_41_method_8_code 4 none ws ({ frames := 2, cells := 1, slots := 15, locals := 31 } : Room) #[(.ref o1), (.ref c0), (.long q2)] Z h0 (QRM Z o1 c0 mm C (up mk c0 q2) (k - 1) h0 n0) := by
  refine MetFree.of_bodySF (plainFor_of_name pn0) hisR ?_
  intro p e s m args below meth c s₁ Bd hml hP hK
  obtain ⟨rfl, hZ, hh⟩ := hP
  obtain ⟨hx, hby, hown, hret, hlk, X0, e0, N0⟩ := own_bd Bd hh n0
  have pre0 := own_ct s₁ (p := p) (e := e) (below := below) (ef_rma m o1 c0 q2)
  revert pre0
  generalize s₁.setTop (entryFrame m #[(.ref o1), (.ref c0), (.long q2)] 4) = E0
  intro pre0
  have tail : ∀ (T : State) (lc : List Loc) (h1 : Heap), Old Z n0 h1 → Stand p l e ({ frames := 2, cells := 1, slots := 15, locals := 31 } : Room) s m #[(.ref o1), (.ref c0), (.long q2)] below meth c T lc 1 15 → T.heap = h1 → Fr n0 lc → Go p e below T (mkF m 93 #[.val (.ref o1), .val (.ref c0), .val (.long q2), .second] []) E0 →
      LInv Z h1 n0 o1 mm C (up mk c0 q2) (k - 1) → CF Z h1 n0 C (up mk c0 q2) → Keep h0 h1 [c0, o1] →
      ∃ s₂ o, Steps p.tables e below E0 s₂ ∧ s₂.status = .running ∧ Ended s₂ below o ∧ ∃ v L, o = .returned v ∧ QRM Z o1 c0 mm C (up mk c0 q2) (k - 1) h0 n0 v s₂.heap L ∧ FrameEnd s o s₂ L 1 15 := by
    intro T lc h1 O1 X e1 N pre HI1 HC1 K
    obtain ⟨s₂, L, st, hr, he, NL, FE, eH⟩ := re_4a hw O1 hx hby hml hown hret hlk hZ X e1 N pre
    exact ⟨s₂, _, st, hr, he, _, _, rfl, ⟨rfl, NL, by rw [eH]; exact K, by rw [eH]; exact HC1, by rw [eH]; exact HI1⟩, FE⟩
  obtain ⟨sa, ka, vs, n, lo, fi, en, re, af, D, HS, HD, dmm, hk⟩ := id HI
  obtain ⟨go, PE, Ps, Pl, Pf, Pe, Pr, Pa, PA, PX, dso⟩ := id HS
  obtain ⟨gc, Ec, Fc⟩ := HC c0 hc
  have hpos := ld_pos HD hc hm
  have hle : en ≤ n := HD.2.2.2.2.2.2.2.1
  obtain ⟨gs, ov, PX1⟩ := PX.resolve_left (by omega)
  have sc : sa ≠ c0 := ne_exa PX1 Ec (by decide)
  have no : ∀ x ∈ C, o1 ≠ x := fun x hx => ne_exa PE (HC x hx).2.1 (by decide)
  obtain ⟨T1, lc1, X1, N1, K1, Ec1, Fc1, G0, G1, G2, G3, G4, G5, G6, pre1⟩ := re_0a hw O0 hx hby hml hown hret hlk hZ X0 e0 N0 pre0 go gc PE Ps Pl Pf Pe Pr Pa Ec Fc
  rw [show N32 re + (1 : Int32) = N32 (re + 1) from n_add re 1] at G5
  have O1 := O0.keep K1 (allS gc (allS go all0))
  have HS1 : LS Z T1.heap n0 o1 sa ka vs n lo fi en (re + 1) af := ⟨go, G0, G6, G4, G3, G2, G5, G1, PA.keep K1 (ninS sc (ninS dso nin0)), Or.inr ⟨gs, ov, PX1.keep K1⟩, dso⟩
  have HC1 : CF Z T1.heap n0 C (up mk c0 q2) := fun x hx => by
    obtain ⟨a1, a2, a3⟩ := HC x hx
    by_cases ex : x = c0
    · subst ex; rw [up_s]; exact ⟨a1, Ec1, Fc1⟩
    · rw [up_n mk q2 ex]; exact ⟨a1, a2.keep K1, a3.keep K1 (ninS ex (ninS (Ne.symm (no x hx)) nin0))⟩
  obtain ⟨T2, lc2, fi', re', X2, N2, K2, HS2, HD2, hk2, pre2⟩ := re_loopa hw hx hby hml hown hret hlk hZ (en - fi) fi (re + 1) T1.heap T1 lc1 rfl O1 X1 rfl N1 pre1 HS1 (ld_rm HD hc hm hq) HC1
  have O2 := O1.keep K2 (allS go all0)
  have K02 : Keep h0 T2.heap [c0, o1] := K1.trans K2 (fun x hx => by cases List.mem_singleton.mp hx; exact Or.inl (List.mem_cons_of_mem _ (List.mem_singleton.mpr rfl)))
  have HC2 : CF Z T2.heap n0 C (up mk c0 q2) := fun x hx => by obtain ⟨a1, a2, a3⟩ := HC1 x hx; exact ⟨a1, a2.keep K2, a3.keep K2 (ninS (Ne.symm (no x hx)) nin0)⟩
  have HI2 : LInv Z T2.heap n0 o1 mm C (up mk c0 q2) (k - 1) := ⟨sa, ka, vs, n, lo, fi', en, re', af, D, HS2, HD2, dmm, by omega⟩
  obtain ⟨-, PE2, -, Pl2, Pf2, Pe2, Pr2, -, -, -, -⟩ := id HS2
  have fin : ∀ (T : State) (lc : List Loc), Stand p l e ({ frames := 2, cells := 1, slots := 15, locals := 31 } : Room) s m #[(.ref o1), (.ref c0), (.long q2)] below meth c T lc 0 0 → Fr n0 lc → T.heap = T2.heap → Go p e below T (mkF m 93 #[.val (.ref o1), .val (.ref c0), .val (.long q2), .second] []) E0 →
      ∃ s₂ o, Steps p.tables e below E0 s₂ ∧ s₂.status = .running ∧ Ended s₂ below o ∧ ∃ v L, o = .returned v ∧ QRM Z o1 c0 mm C (up mk c0 q2) (k - 1) h0 n0 v s₂.heap L ∧ FrameEnd s o s₂ L 1 15 :=
    fun T lc X N eT pre => tail T lc T2.heap O2 (X.more (by decide) (by decide)) eT N pre HI2 HC2 K02
  have mov : ∀ (T : State) (lc : List Loc), Stand p l e ({ frames := 2, cells := 1, slots := 15, locals := 31 } : Room) s m #[(.ref o1), (.ref c0), (.long q2)] below meth c T lc 0 0 → Fr n0 lc → T.heap = T2.heap → Go p e below T (mkF m 90 #[.val (.ref o1), .val (.ref c0), .val (.long q2), .second] [(.ref o1)]) E0 →
      ∃ s₂ o, Steps p.tables e below E0 s₂ ∧ s₂.status = .running ∧ Ended s₂ below o ∧ ∃ v L, o = .returned v ∧ QRM Z o1 c0 mm C (up mk c0 q2) (k - 1) h0 n0 v s₂.heap L ∧ FrameEnd s o s₂ L 1 15 := by
    intro T lc X N eT pre
    obtain ⟨_, T3, L3, X3, hQ, st3⟩ := own_pb X hx hZ hown (y := yn4) (own_w hw 65 rfl) (own_w hw 66 rfl) (own_selp (mvT hZ (own_w hw 22 rfl)) rfl (Cond.privateMethod_at (mvP hZ (own_w hw 67 rfl) (args := #[]))) (mvT hZ (own_w hw 66 rfl)) (by decide)) (own_w hw 67 rfl) (own_w hw 68 rfl) (w_2 hw) eT PE2 (argsL := []) (rest := []) (m_mva l Z a0 hw [] o1 C D (up mk c0 q2) sa ka vs n lo fi' en re' af T2.heap n0 O2 HC2 HS2 HD2 (by omega)) (g := (mkF m 90 #[.val (.ref o1), .val (.ref c0), .val (.long q2), .second] [(.ref o1)])) rfl (by rw [hml]; rfl) rfl (hb hby d7_90) (lenOf pd0 rfl) (W := 0) (c1 := 1) (s1 := 15)
    obtain ⟨rfl, NL, K, sa', ka', vs', n', lo', en', D', HS', HD', hen, hlo, gsa, hsz, hk'⟩ := hQ
    have hsz0 : h0.size ≤ sa' := Nat.le_trans K02.1 hsz
    exact tail T3 _ T3.heap (O2.keep K (allS go all0)) X3 rfl (Fr.app N NL) (fun t k => pre _ (st3 _ k)) ⟨sa', ka', vs', n', lo', lo', en', 0, af, D', HS', HD', Nat.ne_of_gt (Nat.lt_of_lt_of_le hmm hsz0), by omega⟩
      (fun x hx => by obtain ⟨a1, a2, a3⟩ := HC2 x hx; exact ⟨a1, a2.keep K, a3.keep K (ninS (Ne.symm (no x hx)) nin0)⟩) (K02.trans K (fun x hx => by cases List.mem_singleton.mp hx; exact Or.inl (List.mem_cons_of_mem _ (List.mem_singleton.mpr rfl))))
  rcases re_3a hw O2 hx hby hml hown hret hlk hZ X2 rfl N2 pre2 go PE2 Pl2 Pf2 Pe2 Pr2 with ⟨T3, lc3, -, -, X3, N3, e3, pre3⟩ | ⟨T3, lc3, -, -, X3, N3, e3, pre3⟩ | ⟨T3, lc3, -, -, X3, N3, e3, pre3⟩ | ⟨T3, lc3, -, -, X3, N3, e3, pre3⟩
  · exact mov T3 lc3 X3 N3 e3 pre3
  · exact fin T3 lc3 X3 N3 e3 pre3
  · exact mov T3 lc3 X3 N3 e3 pre3
  · exact fin T3 lc3 X3 N3 e3 pre3
set_option maxRecDepth 65536 in
set_option maxHeartbeats 40000000 in
theorem st_0a {p : Program} {l : Launch} {e : Env} {s : State} {m : MethodId} {below : List Frame} {meth : Method} {c : Code} {E0 T0 : State} {locs : List Loc} {Z : State} {a0 : Array Value} (hw : HW a0 Z) {o1 : Addr} {o2 : Addr} {o3 : Addr} {o4 : Addr} {o5 : Addr} {o6 : Addr} {p7 : Int32} {h0 : Heap} {n0 : Nat} (O0 : Old Z n0 h0)
    (hx : p.tables.exec = Jvm.exec) (hby : c.code = method_3_code) (hml : c.maxLocals = 10) (hown : s.vm.findClass cn8 = some m.cls) (hret : meth.sig.returnType = some .boolean) (hlk : meth.locks = false) (hZ : Z.Warmed39 s.vm)
    (X0 : Stand p l e ({ frames := 3, cells := 2, slots := 24, locals := 46 } : Room) s m #[(.ref o1), (.ref o2), (.ref o3), (.ref o4), (.ref o5), (.ref o6), (.int p7)] below meth c T0 locs 0 0) (e0 : T0.heap = h0) (N0 : Fr n0 locs) (pre0 : Go p e below T0 (mkF m 0 #[.val (.ref o1), .val (.ref o2), .val (.ref o3), .val (.ref o4), .val (.ref o5), .val (.ref o6), .val (.int p7), .unset, .unset, .unset] []) E0) :
    (∃ (T' : State) (lc : List Loc), ((3 : Int32) < (p7 &&& (7 : Int32))) ∧ ((6 : Int32) < (p7 &&& (7 : Int32))) ∧ Stand p l e ({ frames := 3, cells := 2, slots := 24, locals := 46 } : Room) s m #[(.ref o1), (.ref o2), (.ref o3), (.ref o4), (.ref o5), (.ref o6), (.int p7)] below meth c T' lc 0 0 ∧ Fr n0 lc ∧ T'.heap = h0 ∧ Go p e below T' (mkF m 166 #[.val (.ref o1), .val (.ref o2), .val (.ref o3), .val (.ref o4), .val (.ref o5), .val (.ref o6), .val (.int p7), .val (.int 7), .unset, .unset] []) E0)
    ∨ (∃ (T' : State) (lc : List Loc), ((3 : Int32) < (p7 &&& (7 : Int32))) ∧ (¬ ((6 : Int32) < (p7 &&& (7 : Int32)))) ∧ Stand p l e ({ frames := 3, cells := 2, slots := 24, locals := 46 } : Room) s m #[(.ref o1), (.ref o2), (.ref o3), (.ref o4), (.ref o5), (.ref o6), (.int p7)] below meth c T' lc 0 0 ∧ Fr n0 lc ∧ T'.heap = h0 ∧ Go p e below T' (mkF m 102 #[.val (.ref o1), .val (.ref o2), .val (.ref o3), .val (.ref o4), .val (.ref o5), .val (.ref o6), .val (.int p7), .val (.int (p7 &&& (7 : Int32))), .unset, .unset] []) E0)
    ∨ (∃ (T' : State) (lc : List Loc), (¬ ((3 : Int32) < (p7 &&& (7 : Int32)))) ∧ Stand p l e ({ frames := 3, cells := 2, slots := 24, locals := 46 } : Room) s m #[(.ref o1), (.ref o2), (.ref o3), (.ref o4), (.ref o5), (.ref o6), (.int p7)] below meth c T' lc 0 0 ∧ Fr n0 lc ∧ T'.heap = h0 ∧ Go p e below T' (mkF m 13 #[.val (.ref o1), .val (.ref o2), .val (.ref o3), .val (.ref o4), .val (.ref o5), .val (.ref o6), .val (.int p7), .val (.int (p7 &&& (7 : Int32))), .unset, .unset] []) E0) := by
 have pre1 : Go p e below T0 (mkF m 10 #[.val (.ref o1), .val (.ref o2), .val (.ref o3), .val (.ref o4), .val (.ref o5), .val (.ref o6), .val (.int p7), .val (.int (p7 &&& (7 : Int32))), .unset, .unset] [(.int 3), (.int (p7 &&& (7 : Int32)))]) E0 := fun t k => by
  refine pre0 _ ?_
  refine yil X0 hx hby d9_0 rfl ?_
  refine XS.bipush X0.here hx rfl (hb hby d9_2) ?_
  refine XS.iand X0.here hx rfl (hb hby d9_4) rfl ?_
  refine yis X0 hx hby d9_5 (l' := #[.val (.ref o1), .val (.ref o2), .val (.ref o3), .val (.ref o4), .val (.ref o5), .val (.ref o6), .val (.int p7), .val (.int (p7 &&& (7 : Int32))), .unset, .unset]) rfl ?_
  refine yil X0 hx hby d9_7 rfl ?_
  refine yic X0 hx hby d9_9 ?_
  exact k
 by_cases hc2 : (3 : Int32) < (p7 &&& (7 : Int32))
 ·
  have pre3 : Go p e below T0 (mkF m 99 #[.val (.ref o1), .val (.ref o2), .val (.ref o3), .val (.ref o4), .val (.ref o5), .val (.ref o6), .val (.int p7), .val (.int (p7 &&& (7 : Int32))), .unset, .unset] [(.int 6), (.int (p7 &&& (7 : Int32)))]) E0 := fun t k => by
   refine pre1 _ ?_
   refine yye X0 hx hby 10 95 rfl d9_10 (tlt hc2).2.2.1 (by decide) ?_
   refine yil X0 hx hby d9_95 rfl ?_
   refine XS.bipush X0.here hx rfl (hb hby d9_97) ?_
   exact k
  by_cases hc4 : (6 : Int32) < (p7 &&& (7 : Int32))
  ·
   have hq5 : (p7 &&& (7 : Int32)) = (7 : Int32) := (own_geq (n := 7) (k := (7 : Int32)) (by decide) (by have q0 := own_and (x := p7) (k := (7 : Int32)) (n := 7) (by decide) (by decide); have q1 := own_lt2 (n := 3) (k := (3 : Int32)) (by decide) hc2; have q2 := own_lt2 (n := 6) (k := (6 : Int32)) (by decide) hc4; omega))
   have pre6 : Go p e below T0 (mkF m 99 #[.val (.ref o1), .val (.ref o2), .val (.ref o3), .val (.ref o4), .val (.ref o5), .val (.ref o6), .val (.int p7), .val (.int 7), .unset, .unset] [(.int 6), (.int 7)]) E0 := fun t k => pre3 t (by rw [hq5]; exact k)
   have pre7 : Go p e below T0 (mkF m 166 #[.val (.ref o1), .val (.ref o2), .val (.ref o3), .val (.ref o4), .val (.ref o5), .val (.ref o6), .val (.int p7), .val (.int 7), .unset, .unset] []) E0 := fun t k => by
    refine pre6 _ ?_
    refine yye X0 hx hby 99 166 rfl d9_99 (tlt (by decide : (6 : Int32) < (7 : Int32))).2.2.1 (by decide) ?_
    exact k
   exact (Or.inl ⟨_, _, hc2, hc4, X0, N0, e0, pre7⟩)
  ·
   have pre8 : Go p e below T0 (mkF m 102 #[.val (.ref o1), .val (.ref o2), .val (.ref o3), .val (.ref o4), .val (.ref o5), .val (.ref o6), .val (.int p7), .val (.int (p7 &&& (7 : Int32))), .unset, .unset] []) E0 := fun t k => by
    refine pre3 _ ?_
    refine yno X0 hx hby d9_99 (flt hc4).2.2.1 ?_
    exact k
   exact (Or.inr (Or.inl ⟨_, _, hc2, hc4, X0, N0, e0, pre8⟩))
 ·
  have pre9 : Go p e below T0 (mkF m 13 #[.val (.ref o1), .val (.ref o2), .val (.ref o3), .val (.ref o4), .val (.ref o5), .val (.ref o6), .val (.int p7), .val (.int (p7 &&& (7 : Int32))), .unset, .unset] []) E0 := fun t k => by
   refine pre1 _ ?_
   refine yno X0 hx hby d9_10 (flt hc2).2.2.1 ?_
   exact k
  exact (Or.inr (Or.inr ⟨_, _, hc2, X0, N0, e0, pre9⟩))
theorem d10_0 : decode kd10 0 = .ok (.aload_n 0, 1) := by decide +kernel
theorem d10_1 : decode kd10 1 = .ok (.invokespecial 3, 3) := by decide +kernel
theorem d10_4 : decode kd10 4 = .ok (.aload_n 0, 1) := by decide +kernel
theorem d10_5 : decode kd10 5 = .ok (.ldc2_w 11, 3) := by decide +kernel
theorem d10_8 : decode kd10 8 = .ok (.putfield 13, 3) := by decide +kernel
theorem d10_11 : decode kd10 11 = .ok (.aload_n 0, 1) := by decide +kernel
theorem d10_12 : decode kd10 12 = .ok (.aload_n 1, 1) := by decide +kernel
theorem d10_13 : decode kd10 13 = .ok (.putfield 17, 3) := by decide +kernel
theorem sn30 {a0 : Array Value} {Z : State} (hw : HW a0 Z) : RoadKit.slotOf Z cn6 "head" cn5 ≠ RoadKit.slotOf Z cn6 "removed" "J" := slot_ne (Or.inr (own_w hw 45 rfl)) (Or.inl (own_w hw 43 rfl)) (by decide) (t := (.array (.object cn10))) (t' := .long) (by decide) (by decide)
theorem d10_16 : decode kd10 16 = .ok (.aload_n 0, 1) := by decide +kernel
theorem d10_17 : decode kd10 17 = .ok (.aload_n 2, 1) := by decide +kernel
theorem d10_18 : decode kd10 18 = .ok (.putfield 21, 3) := by decide +kernel
theorem sn31 {a0 : Array Value} {Z : State} (hw : HW a0 Z) : RoadKit.slotOf Z cn6 "goals" cn5 ≠ RoadKit.slotOf Z cn6 "removed" "J" := slot_ne (Or.inr (own_w hw 47 rfl)) (Or.inl (own_w hw 43 rfl)) (by decide) (t := (.array (.object cn10))) (t' := .long) (by decide) (by decide)
theorem sn32 {a0 : Array Value} {Z : State} (hw : HW a0 Z) : RoadKit.slotOf Z cn6 "goals" cn5 ≠ RoadKit.slotOf Z cn6 "head" cn5 := slot_ne (Or.inr (own_w hw 47 rfl)) (Or.inr (own_w hw 45 rfl)) (by decide) (t := (.array (.object cn10))) (t' := (.array (.object cn10))) (by decide) (by decide)
theorem d10_21 : decode kd10 21 = .ok (.aload_n 0, 1) := by decide +kernel
theorem d10_22 : decode kd10 22 = .ok (.aload_n 3, 1) := by decide +kernel
theorem d10_23 : decode kd10 23 = .ok (.putfield 24, 3) := by decide +kernel
theorem sn33 {a0 : Array Value} {Z : State} (hw : HW a0 Z) : RoadKit.slotOf Z cn6 "goalPredicates" cn4 ≠ RoadKit.slotOf Z cn6 "removed" "J" := slot_ne (Or.inr (own_w hw 49 rfl)) (Or.inl (own_w hw 43 rfl)) (by decide) (t := (.array (.object cn9))) (t' := .long) (by decide) (by decide)
theorem sn34 {a0 : Array Value} {Z : State} (hw : HW a0 Z) : RoadKit.slotOf Z cn6 "goalPredicates" cn4 ≠ RoadKit.slotOf Z cn6 "head" cn5 := slot_ne (Or.inr (own_w hw 49 rfl)) (Or.inr (own_w hw 45 rfl)) (by decide) (t := (.array (.object cn9))) (t' := (.array (.object cn10))) (by decide) (by decide)
theorem sn35 {a0 : Array Value} {Z : State} (hw : HW a0 Z) : RoadKit.slotOf Z cn6 "goalPredicates" cn4 ≠ RoadKit.slotOf Z cn6 "goals" cn5 := slot_ne (Or.inr (own_w hw 49 rfl)) (Or.inr (own_w hw 47 rfl)) (by decide) (t := (.array (.object cn9))) (t' := (.array (.object cn10))) (by decide) (by decide)
theorem d10_26 : decode kd10 26 = .ok (.aload_n 0, 1) := by decide +kernel
theorem d10_27 : decode kd10 27 = .ok (.aload 4, 2) := by decide +kernel
theorem d10_29 : decode kd10 29 = .ok (.putfield 28, 3) := by decide +kernel
theorem sn36 {a0 : Array Value} {Z : State} (hw : HW a0 Z) : RoadKit.slotOf Z cn6 "body" cn0 ≠ RoadKit.slotOf Z cn6 "removed" "J" := slot_ne (Or.inr (own_w hw 51 rfl)) (Or.inl (own_w hw 43 rfl)) (by decide) (t := (.object cn10)) (t' := .long) (by decide) (by decide)
theorem sn37 {a0 : Array Value} {Z : State} (hw : HW a0 Z) : RoadKit.slotOf Z cn6 "body" cn0 ≠ RoadKit.slotOf Z cn6 "head" cn5 := slot_ne (Or.inr (own_w hw 51 rfl)) (Or.inr (own_w hw 45 rfl)) (by decide) (t := (.object cn10)) (t' := (.array (.object cn10))) (by decide) (by decide)
theorem sn38 {a0 : Array Value} {Z : State} (hw : HW a0 Z) : RoadKit.slotOf Z cn6 "body" cn0 ≠ RoadKit.slotOf Z cn6 "goals" cn5 := slot_ne (Or.inr (own_w hw 51 rfl)) (Or.inr (own_w hw 47 rfl)) (by decide) (t := (.object cn10)) (t' := (.array (.object cn10))) (by decide) (by decide)
theorem sn39 {a0 : Array Value} {Z : State} (hw : HW a0 Z) : RoadKit.slotOf Z cn6 "body" cn0 ≠ RoadKit.slotOf Z cn6 "goalPredicates" cn4 := slot_ne (Or.inr (own_w hw 51 rfl)) (Or.inr (own_w hw 49 rfl)) (by decide) (t := (.object cn10)) (t' := (.array (.object cn9))) (by decide) (by decide)
theorem d10_32 : decode kd10 32 = .ok (.aload_n 0, 1) := by decide +kernel
theorem d10_33 : decode kd10 33 = .ok (.iload 5, 2) := by decide +kernel
theorem d10_35 : decode kd10 35 = .ok (.putfield 32, 3) := by decide +kernel
theorem sn40 {a0 : Array Value} {Z : State} (hw : HW a0 Z) : RoadKit.slotOf Z cn6 "variables" "I" ≠ RoadKit.slotOf Z cn6 "removed" "J" := slot_ne (Or.inr (own_w hw 53 rfl)) (Or.inl (own_w hw 43 rfl)) (by decide) (t := .int) (t' := .long) (by decide) (by decide)
theorem sn41 {a0 : Array Value} {Z : State} (hw : HW a0 Z) : RoadKit.slotOf Z cn6 "variables" "I" ≠ RoadKit.slotOf Z cn6 "head" cn5 := slot_ne (Or.inr (own_w hw 53 rfl)) (Or.inr (own_w hw 45 rfl)) (by decide) (t := .int) (t' := (.array (.object cn10))) (by decide) (by decide)
theorem sn42 {a0 : Array Value} {Z : State} (hw : HW a0 Z) : RoadKit.slotOf Z cn6 "variables" "I" ≠ RoadKit.slotOf Z cn6 "goals" cn5 := slot_ne (Or.inr (own_w hw 53 rfl)) (Or.inr (own_w hw 47 rfl)) (by decide) (t := .int) (t' := (.array (.object cn10))) (by decide) (by decide)
theorem sn43 {a0 : Array Value} {Z : State} (hw : HW a0 Z) : RoadKit.slotOf Z cn6 "variables" "I" ≠ RoadKit.slotOf Z cn6 "goalPredicates" cn4 := slot_ne (Or.inr (own_w hw 53 rfl)) (Or.inr (own_w hw 49 rfl)) (by decide) (t := .int) (t' := (.array (.object cn9))) (by decide) (by decide)
theorem sn44 {a0 : Array Value} {Z : State} (hw : HW a0 Z) : RoadKit.slotOf Z cn6 "variables" "I" ≠ RoadKit.slotOf Z cn6 "body" cn0 := slot_ne (Or.inr (own_w hw 53 rfl)) (Or.inr (own_w hw 51 rfl)) (by decide) (t := .int) (t' := (.object cn10)) (by decide) (by decide)
theorem d10_38 : decode kd10 38 = .ok (.aload_n 1, 1) := by decide +kernel
theorem d10_39 : decode kd10 39 = .ok (.arraylength, 1) := by decide +kernel
theorem d10_40 : decode kd10 40 = .ok (.ifCond .le 9, 3) := by decide +kernel
theorem d10_49 : decode kd10 49 = .ok (.aconst_null, 1) := by decide +kernel
theorem d10_50 : decode kd10 50 = .ok (.astore 6, 2) := by decide +kernel
theorem d10_52 : decode kd10 52 = .ok (.aload 6, 2) := by decide +kernel
theorem d10_54 : decode kd10 54 = .ok (.instanceof 36, 3) := by decide +kernel
theorem d10_57 : decode kd10 57 = .ok (.ifCond .eq 18, 3) := by decide +kernel
theorem d10_75 : decode kd10 75 = .ok (.aconst_null, 1) := by decide +kernel
theorem d10_76 : decode kd10 76 = .ok (.astore 7, 2) := by decide +kernel
theorem d10_78 : decode kd10 78 = .ok (.aload 7, 2) := by decide +kernel
theorem d10_80 : decode kd10 80 = .ok (.instanceof 42, 3) := by decide +kernel
theorem d10_83 : decode kd10 83 = .ok (.ifCond .eq 36, 3) := by decide +kernel
theorem d10_119 : decode kd10 119 = .ok (.aload 6, 2) := by decide +kernel
theorem d10_121 : decode kd10 121 = .ok (.instanceof 62, 3) := by decide +kernel
theorem d10_124 : decode kd10 124 = .ok (.ifCond .eq 37, 3) := by decide +kernel
theorem d10_161 : decode kd10 161 = .ok (.aload_n 0, 1) := by decide +kernel
theorem d10_162 : decode kd10 162 = .ok (.aload 7, 2) := by decide +kernel
theorem d10_164 : decode kd10 164 = .ok (.putfield 44, 3) := by decide +kernel
theorem sn45 {a0 : Array Value} {Z : State} (hw : HW a0 Z) : RoadKit.slotOf Z cn6 "keyConstant" cn2 ≠ RoadKit.slotOf Z cn6 "removed" "J" := slot_ne (Or.inr (own_w hw 55 rfl)) (Or.inl (own_w hw 43 rfl)) (by decide) (t := (.object cn12)) (t' := .long) (by decide) (by decide)
theorem sn46 {a0 : Array Value} {Z : State} (hw : HW a0 Z) : RoadKit.slotOf Z cn6 "keyConstant" cn2 ≠ RoadKit.slotOf Z cn6 "head" cn5 := slot_ne (Or.inr (own_w hw 55 rfl)) (Or.inr (own_w hw 45 rfl)) (by decide) (t := (.object cn12)) (t' := (.array (.object cn10))) (by decide) (by decide)
theorem sn47 {a0 : Array Value} {Z : State} (hw : HW a0 Z) : RoadKit.slotOf Z cn6 "keyConstant" cn2 ≠ RoadKit.slotOf Z cn6 "goals" cn5 := slot_ne (Or.inr (own_w hw 55 rfl)) (Or.inr (own_w hw 47 rfl)) (by decide) (t := (.object cn12)) (t' := (.array (.object cn10))) (by decide) (by decide)
theorem sn48 {a0 : Array Value} {Z : State} (hw : HW a0 Z) : RoadKit.slotOf Z cn6 "keyConstant" cn2 ≠ RoadKit.slotOf Z cn6 "goalPredicates" cn4 := slot_ne (Or.inr (own_w hw 55 rfl)) (Or.inr (own_w hw 49 rfl)) (by decide) (t := (.object cn12)) (t' := (.array (.object cn9))) (by decide) (by decide)
theorem sn49 {a0 : Array Value} {Z : State} (hw : HW a0 Z) : RoadKit.slotOf Z cn6 "keyConstant" cn2 ≠ RoadKit.slotOf Z cn6 "body" cn0 := slot_ne (Or.inr (own_w hw 55 rfl)) (Or.inr (own_w hw 51 rfl)) (by decide) (t := (.object cn12)) (t' := (.object cn10)) (by decide) (by decide)
theorem sn50 {a0 : Array Value} {Z : State} (hw : HW a0 Z) : RoadKit.slotOf Z cn6 "keyConstant" cn2 ≠ RoadKit.slotOf Z cn6 "variables" "I" := slot_ne (Or.inr (own_w hw 55 rfl)) (Or.inr (own_w hw 53 rfl)) (by decide) (t := (.object cn12)) (t' := .int) (by decide) (by decide)
theorem d10_167 : decode kd10 167 = .ok (.aload_n 0, 1) := by decide +kernel
theorem d10_168 : decode kd10 168 = .ok (.aconst_null, 1) := by decide +kernel
theorem d10_169 : decode kd10 169 = .ok (.putfield 51, 3) := by decide +kernel
theorem sn51 {a0 : Array Value} {Z : State} (hw : HW a0 Z) : RoadKit.slotOf Z cn6 "keyName" cn1 ≠ RoadKit.slotOf Z cn6 "removed" "J" := slot_ne (Or.inr (own_w hw 57 rfl)) (Or.inl (own_w hw 43 rfl)) (by decide) (t := (.object cn11)) (t' := .long) (by decide) (by decide)
theorem sn52 {a0 : Array Value} {Z : State} (hw : HW a0 Z) : RoadKit.slotOf Z cn6 "keyName" cn1 ≠ RoadKit.slotOf Z cn6 "head" cn5 := slot_ne (Or.inr (own_w hw 57 rfl)) (Or.inr (own_w hw 45 rfl)) (by decide) (t := (.object cn11)) (t' := (.array (.object cn10))) (by decide) (by decide)
theorem sn53 {a0 : Array Value} {Z : State} (hw : HW a0 Z) : RoadKit.slotOf Z cn6 "keyName" cn1 ≠ RoadKit.slotOf Z cn6 "goals" cn5 := slot_ne (Or.inr (own_w hw 57 rfl)) (Or.inr (own_w hw 47 rfl)) (by decide) (t := (.object cn11)) (t' := (.array (.object cn10))) (by decide) (by decide)
theorem sn54 {a0 : Array Value} {Z : State} (hw : HW a0 Z) : RoadKit.slotOf Z cn6 "keyName" cn1 ≠ RoadKit.slotOf Z cn6 "goalPredicates" cn4 := slot_ne (Or.inr (own_w hw 57 rfl)) (Or.inr (own_w hw 49 rfl)) (by decide) (t := (.object cn11)) (t' := (.array (.object cn9))) (by decide) (by decide)
theorem sn55 {a0 : Array Value} {Z : State} (hw : HW a0 Z) : RoadKit.slotOf Z cn6 "keyName" cn1 ≠ RoadKit.slotOf Z cn6 "body" cn0 := slot_ne (Or.inr (own_w hw 57 rfl)) (Or.inr (own_w hw 51 rfl)) (by decide) (t := (.object cn11)) (t' := (.object cn10)) (by decide) (by decide)
theorem sn56 {a0 : Array Value} {Z : State} (hw : HW a0 Z) : RoadKit.slotOf Z cn6 "keyName" cn1 ≠ RoadKit.slotOf Z cn6 "variables" "I" := slot_ne (Or.inr (own_w hw 57 rfl)) (Or.inr (own_w hw 53 rfl)) (by decide) (t := (.object cn11)) (t' := .int) (by decide) (by decide)
theorem sn57 {a0 : Array Value} {Z : State} (hw : HW a0 Z) : RoadKit.slotOf Z cn6 "keyName" cn1 ≠ RoadKit.slotOf Z cn6 "keyConstant" cn2 := slot_ne (Or.inr (own_w hw 57 rfl)) (Or.inr (own_w hw 55 rfl)) (by decide) (t := (.object cn11)) (t' := (.object cn12)) (by decide) (by decide)
theorem d10_172 : decode kd10 172 = .ok (.aload_n 0, 1) := by decide +kernel
theorem d10_173 : decode kd10 173 = .ok (.iconst 0, 1) := by decide +kernel
theorem d10_174 : decode kd10 174 = .ok (.putfield 59, 3) := by decide +kernel
theorem sn58 {a0 : Array Value} {Z : State} (hw : HW a0 Z) : RoadKit.slotOf Z cn6 "keyArity" "I" ≠ RoadKit.slotOf Z cn6 "removed" "J" := slot_ne (Or.inr (own_w hw 59 rfl)) (Or.inl (own_w hw 43 rfl)) (by decide) (t := .int) (t' := .long) (by decide) (by decide)
theorem sn59 {a0 : Array Value} {Z : State} (hw : HW a0 Z) : RoadKit.slotOf Z cn6 "keyArity" "I" ≠ RoadKit.slotOf Z cn6 "head" cn5 := slot_ne (Or.inr (own_w hw 59 rfl)) (Or.inr (own_w hw 45 rfl)) (by decide) (t := .int) (t' := (.array (.object cn10))) (by decide) (by decide)
theorem sn60 {a0 : Array Value} {Z : State} (hw : HW a0 Z) : RoadKit.slotOf Z cn6 "keyArity" "I" ≠ RoadKit.slotOf Z cn6 "goals" cn5 := slot_ne (Or.inr (own_w hw 59 rfl)) (Or.inr (own_w hw 47 rfl)) (by decide) (t := .int) (t' := (.array (.object cn10))) (by decide) (by decide)
theorem sn61 {a0 : Array Value} {Z : State} (hw : HW a0 Z) : RoadKit.slotOf Z cn6 "keyArity" "I" ≠ RoadKit.slotOf Z cn6 "goalPredicates" cn4 := slot_ne (Or.inr (own_w hw 59 rfl)) (Or.inr (own_w hw 49 rfl)) (by decide) (t := .int) (t' := (.array (.object cn9))) (by decide) (by decide)
theorem sn62 {a0 : Array Value} {Z : State} (hw : HW a0 Z) : RoadKit.slotOf Z cn6 "keyArity" "I" ≠ RoadKit.slotOf Z cn6 "body" cn0 := slot_ne (Or.inr (own_w hw 59 rfl)) (Or.inr (own_w hw 51 rfl)) (by decide) (t := .int) (t' := (.object cn10)) (by decide) (by decide)
theorem sn63 {a0 : Array Value} {Z : State} (hw : HW a0 Z) : RoadKit.slotOf Z cn6 "keyArity" "I" ≠ RoadKit.slotOf Z cn6 "variables" "I" := slot_ne (Or.inr (own_w hw 59 rfl)) (Or.inr (own_w hw 53 rfl)) (by decide) (t := .int) (t' := .int) (by decide) (by decide)
theorem sn64 {a0 : Array Value} {Z : State} (hw : HW a0 Z) : RoadKit.slotOf Z cn6 "keyArity" "I" ≠ RoadKit.slotOf Z cn6 "keyConstant" cn2 := slot_ne (Or.inr (own_w hw 59 rfl)) (Or.inr (own_w hw 55 rfl)) (by decide) (t := .int) (t' := (.object cn12)) (by decide) (by decide)
theorem sn65 {a0 : Array Value} {Z : State} (hw : HW a0 Z) : RoadKit.slotOf Z cn6 "keyArity" "I" ≠ RoadKit.slotOf Z cn6 "keyName" cn1 := slot_ne (Or.inr (own_w hw 59 rfl)) (Or.inr (own_w hw 57 rfl)) (by decide) (t := .int) (t' := (.object cn11)) (by decide) (by decide)
theorem d10_177 : decode kd10 177 = .ok (.return_, 1) := by decide +kernel
theorem sn66 {a0 : Array Value} {Z : State} (hw : HW a0 Z) : RoadKit.slotOf Z cn6 "removed" "J" ≠ RoadKit.slotOf Z cn6 "head" cn5 := slot_ne (Or.inl (own_w hw 43 rfl)) (Or.inr (own_w hw 45 rfl)) (by decide) (t := .long) (t' := (.array (.object cn10))) (by decide) (by decide)
theorem sn67 {a0 : Array Value} {Z : State} (hw : HW a0 Z) : RoadKit.slotOf Z cn6 "removed" "J" ≠ RoadKit.slotOf Z cn6 "goals" cn5 := slot_ne (Or.inl (own_w hw 43 rfl)) (Or.inr (own_w hw 47 rfl)) (by decide) (t := .long) (t' := (.array (.object cn10))) (by decide) (by decide)
theorem sn68 {a0 : Array Value} {Z : State} (hw : HW a0 Z) : RoadKit.slotOf Z cn6 "removed" "J" ≠ RoadKit.slotOf Z cn6 "goalPredicates" cn4 := slot_ne (Or.inl (own_w hw 43 rfl)) (Or.inr (own_w hw 49 rfl)) (by decide) (t := .long) (t' := (.array (.object cn9))) (by decide) (by decide)
theorem sn69 {a0 : Array Value} {Z : State} (hw : HW a0 Z) : RoadKit.slotOf Z cn6 "removed" "J" ≠ RoadKit.slotOf Z cn6 "body" cn0 := slot_ne (Or.inl (own_w hw 43 rfl)) (Or.inr (own_w hw 51 rfl)) (by decide) (t := .long) (t' := (.object cn10)) (by decide) (by decide)
theorem sn70 {a0 : Array Value} {Z : State} (hw : HW a0 Z) : RoadKit.slotOf Z cn6 "removed" "J" ≠ RoadKit.slotOf Z cn6 "variables" "I" := slot_ne (Or.inl (own_w hw 43 rfl)) (Or.inr (own_w hw 53 rfl)) (by decide) (t := .long) (t' := .int) (by decide) (by decide)
theorem sn71 {a0 : Array Value} {Z : State} (hw : HW a0 Z) : RoadKit.slotOf Z cn6 "removed" "J" ≠ RoadKit.slotOf Z cn6 "keyConstant" cn2 := slot_ne (Or.inl (own_w hw 43 rfl)) (Or.inr (own_w hw 55 rfl)) (by decide) (t := .long) (t' := (.object cn12)) (by decide) (by decide)
theorem sn72 {a0 : Array Value} {Z : State} (hw : HW a0 Z) : RoadKit.slotOf Z cn6 "removed" "J" ≠ RoadKit.slotOf Z cn6 "keyName" cn1 := slot_ne (Or.inl (own_w hw 43 rfl)) (Or.inr (own_w hw 57 rfl)) (by decide) (t := .long) (t' := (.object cn11)) (by decide) (by decide)
theorem sn73 {a0 : Array Value} {Z : State} (hw : HW a0 Z) : RoadKit.slotOf Z cn6 "removed" "J" ≠ RoadKit.slotOf Z cn6 "keyArity" "I" := slot_ne (Or.inl (own_w hw 43 rfl)) (Or.inr (own_w hw 59 rfl)) (by decide) (t := .long) (t' := .int) (by decide) (by decide)
def l531_0 (o1 o2 : Addr) : Array Slot := #[.val (.ref o1), .val (.ref o2), .val .null, .val .null, .val .null, .val (.int 0), .val .null, .val .null, .unset, .unset]
def l531_1 (o1 o2 : Addr) : Array Slot := #[.val (.ref o1), .val (.ref o2), .val .null, .val .null, .val .null, .val (.int 0), .val .null, .unset, .unset, .unset]
def l531_2 (o1 o2 : Addr) : Array Slot := #[.val (.ref o1), .val (.ref o2), .val .null, .val .null, .val .null, .val (.int 0), .unset, .unset, .unset, .unset]
theorem ef6 (m : MethodId) (x0 x1 : Addr) (x5 : Int32) : entryFrame m #[(.ref x0), (.ref x1), .null, .null, .null, (.int x5)] 10 = mkF m 0 #[.val (.ref x0), .val (.ref x1), .val .null, .val .null, .val .null, .val (.int x5), .unset, .unset, .unset, .unset] [] := by first | (simp [entryFrame, mkF, argsToLocals, Value.category]; done) | rfl
def Q6 (Z : State) (o1 o2 : Addr) (kc3 : ClassId) (h0 : Heap) (n0 : Nat) (v : Option Value) (h : Heap) (L : List Loc) : Prop :=
  (v = none ∧ Fr n0 L ∧ Keep h0 h [o1] ∧ (Exa Z h o1 cn6) ∧ (Fld Z h o1 cn6 "removed" "J" (.long 9223372036854775807)))
set_option maxRecDepth 65536 in
set_option maxHeartbeats 40000000 in
theorem rm6 (l : Launch) (Z : State) (a0 : Array Value) (hw : HW a0 Z) (ws : List Jvm.Cond) (o1 o2 : Addr) (kc3 : ClassId) (h0 : Heap) (n0 : Nat) (O0 : Old Z n0 h0) (g_o1 : n0 ≤ o1) (g_o2 : n0 ≤ o2) (ne_o2_o1 : o2 ≠ o1) (P0 : Exa Z h0 o1 cn6) (P1 : Fld Z h0 o1 cn6 "body" cn0 .null) (P2 : Fld Z h0 o1 cn6 "goalPredicates" cn4 .null) (P3 : Fld Z h0 o1 cn6 "goals" cn5 .null) (P4 : Fld Z h0 o1 cn6 "head" cn5 .null) (P5 : Fld Z h0 o1 cn6 "keyArity" "I" (.int 0)) (P6 : Fld Z h0 o1 cn6 "keyConstant" cn2 .null) (P7 : Fld Z h0 o1 cn6 "keyName" cn1 .null) (P8 : Fld Z h0 o1 cn6 "removed" "J" (.long 0)) (P9 : Fld Z h0 o1 cn6 "variables" "I" (.int 0)) (P10 : Arv Z h0 o2 kc3 (.object cn10) (0 : Int32) [] .null) :
    MF l yn10 prog_40_method_1_code 10 none ws ({ frames := 1, cells := 0, slots := 0, locals := 12 } : Room) #[(.ref o1), (.ref o2), .null, .null, .null, (.int 0)] Z h0 (Q6 Z o1 o2 kc3 h0 n0) := by
 refine MetFree.of_bodySF (plainFor_of_name pn2) hisR ?_
 intro p e s m args below meth c s₁ Bd hml hP hK
 obtain ⟨rfl, hZ, hh⟩ := hP
 obtain ⟨hx, hby, hown, hret, hlk, X0, e0, N0⟩ := own_bd Bd hh n0
 have hnm := (name_of_methodNamed Bd.named Bd.method).1
 have pre0 := own_ct s₁ (p := p) (e := e) (below := below) (ef6 m o1 o2 (0 : Int32))
 obtain ⟨T1, X1, e1, st1⟩ := initO X0 hx hZ hown (own_w hw 40 rfl) (own_w hw 7 rfl) (own_w hw 8 rfl) e0 (g := (mkF m 1 (l531_2 o1 o2) [(.ref o1)])) rfl (by rw [hml]; rfl) rfl (hb hby d10_1) (by decide) (W := 0) (by show 2 * 0 + _ ≤ _; exact Nat.le_of_eq rfl) (by decide)
 obtain ⟨T2, h2, X2, e2, W2, st2⟩ := yp X1 hx hZ hown hby (own_w hw 42 rfl) e1 P8 P0 (own_w hw 43 rfl) (own_w hw 35 rfl) (ty := .long) (v := (.long 9223372036854775807)) (by decide) rfl rfl 8 (l531_2 o1 o2) [] d10_8
 have N2 := Fr.snoc X2 N0 g_o1
 have Fw2 := P8.same W2
 have f3 := (P4.other W2 (Or.inr (sn30 hw)))
 have f4 := (P0.wr W2)
 obtain ⟨T5, h5, X5, e5, W5, st5⟩ := putF X2 hx hZ hown (host := "") (Or.inl (own_w hw 44 rfl)) Via.refl e2 f3 f4 (Or.inr ⟨(own_w hw 45 rfl), rfl, hnm⟩) (own_w hw 35 rfl) (ty := (.array (.object cn10))) (by decide) rfl rfl (g := (mkF m 13 (l531_2 o1 o2) [(.ref o2), (.ref o1)])) rfl rfl (hb hby d10_13)
 have N5 := Fr.snoc X5 N2 g_o1
 have f6 := ((P3.other W2 (Or.inr (sn31 hw))).other W5 (Or.inr (sn32 hw)))
 have f7 := (f4.wr W5)
 obtain ⟨T8, h8, X8, e8, W8, st8⟩ := putF X5 hx hZ hown (host := "") (Or.inl (own_w hw 46 rfl)) Via.refl e5 f6 f7 (Or.inr ⟨(own_w hw 47 rfl), rfl, hnm⟩) (own_w hw 35 rfl) (ty := (.array (.object cn10))) (by decide) rfl rfl (g := (mkF m 18 (l531_2 o1 o2) [.null, (.ref o1)])) rfl rfl (hb hby d10_18)
 have N8 := Fr.snoc X8 N5 g_o1
 have f9 := (((P2.other W2 (Or.inr (sn33 hw))).other W5 (Or.inr (sn34 hw))).other W8 (Or.inr (sn35 hw)))
 have f10 := (f7.wr W8)
 obtain ⟨T11, h11, X11, e11, W11, st11⟩ := putF X8 hx hZ hown (host := "") (Or.inl (own_w hw 48 rfl)) Via.refl e8 f9 f10 (Or.inr ⟨(own_w hw 49 rfl), rfl, hnm⟩) (own_w hw 35 rfl) (ty := (.array (.object cn9))) (by decide) rfl rfl (g := (mkF m 23 (l531_2 o1 o2) [.null, (.ref o1)])) rfl rfl (hb hby d10_23)
 have N11 := Fr.snoc X11 N8 g_o1
 have f12 := ((((P1.other W2 (Or.inr (sn36 hw))).other W5 (Or.inr (sn37 hw))).other W8 (Or.inr (sn38 hw))).other W11 (Or.inr (sn39 hw)))
 have f13 := (f10.wr W11)
 obtain ⟨T14, h14, X14, e14, W14, st14⟩ := putF X11 hx hZ hown (host := "") (Or.inl (own_w hw 50 rfl)) Via.refl e11 f12 f13 (Or.inr ⟨(own_w hw 51 rfl), rfl, hnm⟩) (own_w hw 35 rfl) (ty := (.object cn10)) (by decide) rfl rfl (g := (mkF m 29 (l531_2 o1 o2) [.null, (.ref o1)])) rfl rfl (hb hby d10_29)
 have N14 := Fr.snoc X14 N11 g_o1
 have f15 := (((((P9.other W2 (Or.inr (sn40 hw))).other W5 (Or.inr (sn41 hw))).other W8 (Or.inr (sn42 hw))).other W11 (Or.inr (sn43 hw))).other W14 (Or.inr (sn44 hw)))
 have f16 := (f13.wr W14)
 obtain ⟨T17, h17, X17, e17, W17, st17⟩ := putF X14 hx hZ hown (host := "") (Or.inl (own_w hw 52 rfl)) Via.refl e14 f15 f16 (Or.inr ⟨(own_w hw 53 rfl), rfl, hnm⟩) (own_w hw 35 rfl) (ty := .int) (by decide) rfl rfl (g := (mkF m 35 (l531_2 o1 o2) [(.int 0), (.ref o1)])) rfl rfl (hb hby d10_35)
 have N17 := Fr.snoc X17 N14 g_o1
 have f18 := ((((((P10.other W2 ne_o2_o1).other W5 ne_o2_o1).other W8 ne_o2_o1).other W11 ne_o2_o1).other W14 ne_o2_o1).other W17 ne_o2_o1)
 obtain ⟨cl19, Ar19, qa19, Sa19, Na19, Ha19, Ga19⟩ := id (f18)
 have f20 := ((((((P6.other W2 (Or.inr (sn45 hw))).other W5 (Or.inr (sn46 hw))).other W8 (Or.inr (sn47 hw))).other W11 (Or.inr (sn48 hw))).other W14 (Or.inr (sn49 hw))).other W17 (Or.inr (sn50 hw)))
 have f21 := (f16.wr W17)
 obtain ⟨T22, h22, X22, e22, W22, st22⟩ := putF X17 hx hZ hown (host := "") (Or.inl (own_w hw 54 rfl)) Via.refl e17 f20 f21 (Or.inr ⟨(own_w hw 55 rfl), rfl, hnm⟩) (own_w hw 35 rfl) (ty := (.object cn12)) (by decide) rfl rfl (g := (mkF m 164 (l531_0 o1 o2) [.null, (.ref o1)])) rfl rfl (hb hby d10_164)
 have N22 := Fr.snoc X22 N17 g_o1
 have f23 := (((((((P7.other W2 (Or.inr (sn51 hw))).other W5 (Or.inr (sn52 hw))).other W8 (Or.inr (sn53 hw))).other W11 (Or.inr (sn54 hw))).other W14 (Or.inr (sn55 hw))).other W17 (Or.inr (sn56 hw))).other W22 (Or.inr (sn57 hw)))
 have f24 := (f21.wr W22)
 obtain ⟨T25, h25, X25, e25, W25, st25⟩ := putF X22 hx hZ hown (host := "") (Or.inl (own_w hw 56 rfl)) Via.refl e22 f23 f24 (Or.inr ⟨(own_w hw 57 rfl), rfl, hnm⟩) (own_w hw 35 rfl) (ty := (.object cn11)) (by decide) rfl rfl (g := (mkF m 169 (l531_0 o1 o2) [.null, (.ref o1)])) rfl rfl (hb hby d10_169)
 have N25 := Fr.snoc X25 N22 g_o1
 have f26 := ((((((((P5.other W2 (Or.inr (sn58 hw))).other W5 (Or.inr (sn59 hw))).other W8 (Or.inr (sn60 hw))).other W11 (Or.inr (sn61 hw))).other W14 (Or.inr (sn62 hw))).other W17 (Or.inr (sn63 hw))).other W22 (Or.inr (sn64 hw))).other W25 (Or.inr (sn65 hw)))
 have f27 := (f24.wr W25)
 obtain ⟨T28, h28, X28, e28, W28, st28⟩ := putF X25 hx hZ hown (host := "") (Or.inl (own_w hw 58 rfl)) Via.refl e25 f26 f27 (Or.inr ⟨(own_w hw 59 rfl), rfl, hnm⟩) (own_w hw 35 rfl) (ty := .int) (by decide) rfl rfl (g := (mkF m 174 (l531_0 o1 o2) [(.int 0), (.ref o1)])) rfl rfl (hb hby d10_174)
 have N28 := Fr.snoc X28 N25 g_o1
 obtain ⟨fs, hr, hrun, hended, hW, hsame⟩ := X28.leave (v := none) (fun _ => rfl)
 have KL : Keep h0 h28 [o1] := ((((((((((Keep.refl h0 [o1]).wr W2 (Or.inl (List.mem_of_getElem? (i := 0) rfl))).wr W5 (Or.inl (List.mem_of_getElem? (i := 0) rfl))).wr W8 (Or.inl (List.mem_of_getElem? (i := 0) rfl))).wr W11 (Or.inl (List.mem_of_getElem? (i := 0) rfl))).wr W14 (Or.inl (List.mem_of_getElem? (i := 0) rfl))).wr W17 (Or.inl (List.mem_of_getElem? (i := 0) rfl))).wr W22 (Or.inl (List.mem_of_getElem? (i := 0) rfl))).wr W25 (Or.inl (List.mem_of_getElem? (i := 0) rfl))).wr W28 (Or.inl (List.mem_of_getElem? (i := 0) rfl)))
 have f29 := (f27.wr W28)
 have f30 := ((((((((Fw2.other W5 (Or.inr (sn66 hw))).other W8 (Or.inr (sn67 hw))).other W11 (Or.inr (sn68 hw))).other W14 (Or.inr (sn69 hw))).other W17 (Or.inr (sn70 hw))).other W22 (Or.inr (sn71 hw))).other W25 (Or.inr (sn72 hw))).other W28 (Or.inr (sn73 hw)))
 refine ⟨_, _, pre0 _ ?_, hrun, hended, _, _, rfl, ?_, ⟨_, rfl⟩, hW, hsame.mono (by decide) (by decide)⟩
 ·
  refine yan X0 hx hby d10_0 rfl rfl ?_
  refine st1 _ ?_
  refine yan X1 hx hby d10_4 rfl rfl ?_
  refine X1.ldc2Long hx hown (mvT hZ (own_w hw 41 rfl)) (g := (mkF m 5 (l531_2 o1 o2) [(.ref o1)])) rfl (hb hby d10_5) _ ?_
  refine st2 _ ?_
  refine yan X2 hx hby d10_11 rfl rfl ?_
  refine yan X2 hx hby d10_12 rfl rfl ?_
  refine st5 _ ?_
  refine yan X5 hx hby d10_16 rfl rfl ?_
  refine yan X5 hx hby d10_17 rfl rfl ?_
  refine st8 _ ?_
  refine yan X8 hx hby d10_21 rfl rfl ?_
  refine yan X8 hx hby d10_22 rfl rfl ?_
  refine st11 _ ?_
  refine yan X11 hx hby d10_26 rfl rfl ?_
  refine yal X11 hx hby d10_27 rfl rfl ?_
  refine st14 _ ?_
  refine yan X14 hx hby d10_32 rfl rfl ?_
  refine yil X14 hx hby d10_33 rfl ?_
  refine st17 _ ?_
  refine yan X17 hx hby d10_38 rfl rfl ?_
  refine X17.arraylength hx (by rw [e17]; exact Ar19.1) (State.isArrayOf_alike hZ.alike Ar19.2.1) (g := (mkF m 39 (l531_2 o1 o2) [(.ref o2)])) rfl rfl (hb hby d10_39) _ ?_
  rw [len_of Sa19 Na19]
  refine XS.ifYes X17.here hx rfl (pc0 := 40) (pc' := 49) rfl (hb hby d10_40) rfl ((if0 _ _).trans (flt (by decide : ¬ ((0 : Int32) < (0 : Int32)))).2.2.2) (by decide) (by decide) ?_
  refine XS.aconstNull X17.here hx rfl (hb hby d10_49) ?_
  refine XS.astore X17.here hx rfl (hb hby d10_50) rfl rfl (l' := (l531_1 o1 o2)) rfl ?_
  refine yal X17 hx hby d10_52 rfl rfl ?_
  refine X17.instanceofNull hx (g := (mkF m 54 (l531_1 o1 o2) [.null])) rfl rfl (hb hby d10_54) _ ?_
  refine XS.ifYes X17.here hx rfl (pc0 := 57) (pc' := 75) rfl (hb hby d10_57) rfl ((if0 _ _).trans (teq (by decide : (0 : Int32) = (0 : Int32))).1) (by decide) (by decide) ?_
  refine XS.aconstNull X17.here hx rfl (hb hby d10_75) ?_
  refine XS.astore X17.here hx rfl (hb hby d10_76) rfl rfl (l' := (l531_0 o1 o2)) rfl ?_
  refine yal X17 hx hby d10_78 rfl rfl ?_
  refine X17.instanceofNull hx (g := (mkF m 80 (l531_0 o1 o2) [.null])) rfl rfl (hb hby d10_80) _ ?_
  refine XS.ifYes X17.here hx rfl (pc0 := 83) (pc' := 119) rfl (hb hby d10_83) rfl ((if0 _ _).trans (teq (by decide : (0 : Int32) = (0 : Int32))).1) (by decide) (by decide) ?_
  refine yal X17 hx hby d10_119 rfl rfl ?_
  refine X17.instanceofNull hx (g := (mkF m 121 (l531_0 o1 o2) [.null])) rfl rfl (hb hby d10_121) _ ?_
  refine XS.ifYes X17.here hx rfl (pc0 := 124) (pc' := 161) rfl (hb hby d10_124) rfl ((if0 _ _).trans (teq (by decide : (0 : Int32) = (0 : Int32))).1) (by decide) (by decide) ?_
  refine yan X17 hx hby d10_161 rfl rfl ?_
  refine yal X17 hx hby d10_162 rfl rfl ?_
  refine st22 _ ?_
  refine yan X22 hx hby d10_167 rfl rfl ?_
  show Steps p.tables e below (T22.setTop (mkF m 168 (l531_0 o1 o2) [(.ref o1)])) _
  refine XS.aconstNull X22.here hx rfl (hb hby d10_168) ?_
  refine st25 _ ?_
  refine yan X25 hx hby d10_172 rfl rfl ?_
  refine yic X25 hx hby d10_173 ?_
  refine st28 _ ?_
  show Steps p.tables e below (T28.setTop (mkF m 177 (l531_0 o1 o2) [])) _
  exact X28.returnOut hx hret (hb hby d10_177) hr
 ·
  show Q6 Z o1 o2 kc3 h0 n0 _ T28.heap _
  rw [e28]
  exact ⟨rfl, N28, KL, f29, f30⟩
theorem pd5 : parseMethodDescriptor "([Lcom/example/horn1/horn1/engine/Template;[Lcom/example/horn1/horn1/engine/Template;[Lcom/example/horn1/horn1/engine/Predicate;Lcom/example/horn1/horn1/engine/Template;I)V" = some ⟨[(.array (.object "com/example/horn1/horn1/engine/Template")), (.array (.object "com/example/horn1/horn1/engine/Template")), (.array (.object "com/example/horn1/horn1/engine/Predicate")), (.object "com/example/horn1/horn1/engine/Template"), .int], none⟩ := by decide +kernel
set_option maxRecDepth 65536 in
set_option maxHeartbeats 40000000 in
theorem st_1a {p : Program} {l : Launch} {e : Env} {s : State} {m : MethodId} {below : List Frame} {meth : Method} {c : Code} {E0 T0 : State} {locs : List Loc} {Z : State} {a0 : Array Value} (hw : HW a0 Z) {o2 : Addr} {kc2 : ClassId} {o1 : Addr} {o3 : Addr} {o4 : Addr} {o5 : Addr} {o6 : Addr} {p7 : Int32} {p8 : Int32} {h0 : Heap} {n0 : Nat} (O0 : Old Z n0 h0)
    (hx : p.tables.exec = Jvm.exec) (hby : c.code = method_3_code) (hml : c.maxLocals = 10) (hown : s.vm.findClass cn8 = some m.cls) (hret : meth.sig.returnType = some .boolean) (hlk : meth.locks = false) (hZ : Z.Warmed39 s.vm)
    (X0 : Stand p l e ({ frames := 3, cells := 2, slots := 24, locals := 46 } : Room) s m #[(.ref o1), (.ref o2), (.ref o3), (.ref o4), (.ref o5), (.ref o6), (.int p7)] below meth c T0 locs 0 0) (e0 : T0.heap = h0) (N0 : Fr n0 locs) (pre0 : Go p e below T0 (mkF m 13 #[.val (.ref o1), .val (.ref o2), .val (.ref o3), .val (.ref o4), .val (.ref o5), .val (.ref o6), .val (.int p7), .val (.int p8), .unset, .unset] []) E0) (g_o2 : n0 ≤ o2) (P0 : Arv Z h0 o2 kc2 (.object cn10) (0 : Int32) [] .null) :
    (∃ (T' : State) (lc : List Loc) (b1 : Addr), ((1 : Int32) < p8) ∧ Stand p l e ({ frames := 3, cells := 2, slots := 24, locals := 46 } : Room) s m #[(.ref o1), (.ref o2), (.ref o3), (.ref o4), (.ref o5), (.ref o6), (.int p7)] below meth c T' lc 1 9 ∧ Fr n0 lc ∧ Keep h0 T'.heap [] ∧ h0.size ≤ b1 ∧ (Exa Z T'.heap b1 cn6) ∧ (Fld Z T'.heap b1 cn6 "removed" "J" (.long 9223372036854775807)) ∧ Go p e below T' (mkF m 45 #[.val (.ref o1), .val (.ref o2), .val (.ref o3), .val (.ref o4), .val (.ref o5), .val (.ref o6), .val (.int p7), .val (.int p8), .val (.ref b1), .unset] [(.ref b1), (.ref o1)]) E0)
    ∨ (∃ (T' : State) (lc : List Loc) (b1 : Addr), (¬ ((1 : Int32) < p8)) ∧ Stand p l e ({ frames := 3, cells := 2, slots := 24, locals := 46 } : Room) s m #[(.ref o1), (.ref o2), (.ref o3), (.ref o4), (.ref o5), (.ref o6), (.int p7)] below meth c T' lc 1 9 ∧ Fr n0 lc ∧ Keep h0 T'.heap [] ∧ h0.size ≤ b1 ∧ (Exa Z T'.heap b1 cn6) ∧ (Fld Z T'.heap b1 cn6 "removed" "J" (.long 9223372036854775807)) ∧ Go p e below T' (mkF m 36 #[.val (.ref o1), .val (.ref o2), .val (.ref o3), .val (.ref o4), .val (.ref o5), .val (.ref o6), .val (.int p7), .val (.int p8), .val (.ref b1), .unset] [(.ref b1), (.ref o1)]) E0) := by
 obtain ⟨T1, h1, X1, e1, E1, A1, D1, -, st1⟩ := newO X0 hx hZ hown (own_w hw 15 rfl) (own_w hw 35 rfl) (own_w hw 36 rfl) e0 (g := (mkF m 13 #[.val (.ref o1), .val (.ref o2), .val (.ref o3), .val (.ref o4), .val (.ref o5), .val (.ref o6), .val (.int p7), .val (.int p8), .unset, .unset] [])) rfl (hb hby d9_13) (by decide) (by decide)
 obtain ⟨b1, g1⟩ : ∃ z, z = h0.size := ⟨_, rfl⟩
 rw [← g1] at A1 D1 st1
 have O1 := Old.ext O0 E1
 have sz_b1 : h0.size ≤ b1 := Nat.le_of_eq g1.symm
 have g_b1 : n0 ≤ b1 := Nat.le_trans (own_oz O0) (Nat.le_trans (Nat.le_refl _) sz_b1)
 have F1_43 : Fld Z h1 b1 cn6 "removed" "J" (.long 0) := D1 (Or.inl (own_w hw 43 rfl)) (ty := .long) (by decide)
 have F1_45 : Fld Z h1 b1 cn6 "head" cn5 .null := D1 (Or.inr (own_w hw 45 rfl)) (ty := (.array (.object cn10))) (by decide)
 have F1_47 : Fld Z h1 b1 cn6 "goals" cn5 .null := D1 (Or.inr (own_w hw 47 rfl)) (ty := (.array (.object cn10))) (by decide)
 have F1_49 : Fld Z h1 b1 cn6 "goalPredicates" cn4 .null := D1 (Or.inr (own_w hw 49 rfl)) (ty := (.array (.object cn9))) (by decide)
 have F1_51 : Fld Z h1 b1 cn6 "body" cn0 .null := D1 (Or.inr (own_w hw 51 rfl)) (ty := (.object cn10)) (by decide)
 have F1_53 : Fld Z h1 b1 cn6 "variables" "I" (.int 0) := D1 (Or.inr (own_w hw 53 rfl)) (ty := .int) (by decide)
 have F1_55 : Fld Z h1 b1 cn6 "keyConstant" cn2 .null := D1 (Or.inr (own_w hw 55 rfl)) (ty := (.object cn12)) (by decide)
 have F1_57 : Fld Z h1 b1 cn6 "keyName" cn1 .null := D1 (Or.inr (own_w hw 57 rfl)) (ty := (.object cn11)) (by decide)
 have F1_59 : Fld Z h1 b1 cn6 "keyArity" "I" (.int 0) := D1 (Or.inr (own_w hw 59 rfl)) (ty := .int) (by decide)
 have lt2 : o2 < h0.size := P0.lt
 have ne3 : o2 ≠ b1 := Nat.ne_of_lt (Nat.lt_of_lt_of_le lt2 sz_b1)
 have f4 := (P0.ext E1)
 obtain ⟨_, T5, L5, X5, hQ5, st5⟩ := own_sb X1 hx hZ hown (y := yn10) (own_w hw 37 rfl) (own_w hw 38 rfl) (own_w hw 39 rfl) (own_w hw 36 rfl) e1 (a := b1) (argsL := [(.ref o2), .null, .null, .null, (.int 0)]) (rest := [(.ref b1)]) (rm6 l Z a0 hw [] b1 o2 kc2 h1 n0 O1 g_b1 g_o2 ne3 A1 F1_51 F1_49 F1_47 F1_45 F1_59 F1_55 F1_57 F1_43 F1_53 f4) (g := (mkF m 22 #[.val (.ref o1), .val (.ref o2), .val (.ref o3), .val (.ref o4), .val (.ref o5), .val (.ref o6), .val (.int p7), .val (.int p8), .unset, .unset] [(.int 0), .null, .null, .null, (.ref o2), (.ref b1), (.ref b1)])) rfl (by rw [hml]; rfl) rfl (hb hby d9_22) (lenOf pd5 rfl) (W := 1) (c1 := 1) (s1 := 9)
 obtain ⟨rfl, Nq6, K7, f8, f9⟩ := hQ5
 have N5 := Fr.app N0 Nq6
 have pre10 : Go p e below T5 (mkF m 30 #[.val (.ref o1), .val (.ref o2), .val (.ref o3), .val (.ref o4), .val (.ref o5), .val (.ref o6), .val (.int p7), .val (.int p8), .val (.ref b1), .unset] [(.int 1), (.int p8)]) E0 := fun t k => by
  refine pre0 _ ?_
  refine st1 _ ?_
  refine XS.dup X1.here hx rfl (hb hby d9_16) rfl rfl ?_
  refine yan X1 hx hby d9_17 rfl rfl ?_
  refine XS.aconstNull X1.here hx rfl (hb hby d9_18) ?_
  refine XS.aconstNull X1.here hx rfl (hb hby d9_19) ?_
  refine XS.aconstNull X1.here hx rfl (hb hby d9_20) ?_
  refine yic X1 hx hby d9_21 ?_
  refine st5 _ ?_
  refine XS.astore X5.here hx rfl (hb hby d9_25) rfl rfl (l' := #[.val (.ref o1), .val (.ref o2), .val (.ref o3), .val (.ref o4), .val (.ref o5), .val (.ref o6), .val (.int p7), .val (.int p8), .val (.ref b1), .unset]) rfl ?_
  refine yil X5 hx hby d9_27 rfl ?_
  refine yic X5 hx hby d9_29 ?_
  exact k
 by_cases hc11 : (1 : Int32) < p8
 ·
  have pre12 : Go p e below T5 (mkF m 45 #[.val (.ref o1), .val (.ref o2), .val (.ref o3), .val (.ref o4), .val (.ref o5), .val (.ref o6), .val (.int p7), .val (.int p8), .val (.ref b1), .unset] [(.ref b1), (.ref o1)]) E0 := fun t k => by
   refine pre10 _ ?_
   refine yye X5 hx hby 30 42 rfl d9_30 (tlt hc11).2.2.1 (by decide) ?_
   refine yan X5 hx hby d9_42 rfl rfl ?_
   refine yal X5 hx hby d9_43 rfl rfl ?_
   exact k
  have KL : Keep h0 T5.heap [] := (((Keep.refl h0 []).ext E1).trans K7 (allS (Or.inr (Nat.le_trans (Nat.le_refl _) sz_b1)) all0))
  exact (Or.inl ⟨_, _, b1, hc11, X5, N5, KL, (Nat.le_trans (Nat.le_refl _) sz_b1), f8, f9, pre12⟩)
 ·
  have pre13 : Go p e below T5 (mkF m 36 #[.val (.ref o1), .val (.ref o2), .val (.ref o3), .val (.ref o4), .val (.ref o5), .val (.ref o6), .val (.int p7), .val (.int p8), .val (.ref b1), .unset] [(.ref b1), (.ref o1)]) E0 := fun t k => by
   refine pre10 _ ?_
   refine yno X5 hx hby d9_30 (flt hc11).2.2.1 ?_
   refine yan X5 hx hby d9_33 rfl rfl ?_
   refine yal X5 hx hby d9_34 rfl rfl ?_
   exact k
  have KL : Keep h0 T5.heap [] := (((Keep.refl h0 []).ext E1).trans K7 (allS (Or.inr (Nat.le_trans (Nat.le_refl _) sz_b1)) all0))
  exact (Or.inr ⟨_, _, b1, hc11, X5, N5, KL, (Nat.le_trans (Nat.le_refl _) sz_b1), f8, f9, pre13⟩)
set_option maxRecDepth 65536 in
set_option maxHeartbeats 40000000 in
theorem st_2a {p : Program} {l : Launch} {e : Env} {s : State} {m : MethodId} {below : List Frame} {meth : Method} {c : Code} {E0 T0 : State} {locs : List Loc} {Z : State} {a0 : Array Value} (hw : HW a0 Z) {o1 : Addr} {o2 : Addr} {o3 : Addr} {o4 : Addr} {o5 : Addr} {o6 : Addr} {p7 : Int32} {p8 : Int32} {o9 : Addr} {h0 : Heap} {n0 : Nat} (O0 : Old Z n0 h0)
    (hx : p.tables.exec = Jvm.exec) (hby : c.code = method_3_code) (hml : c.maxLocals = 10) (hown : s.vm.findClass cn8 = some m.cls) (hret : meth.sig.returnType = some .boolean) (hlk : meth.locks = false) (hZ : Z.Warmed39 s.vm)
    (X0 : Stand p l e ({ frames := 3, cells := 2, slots := 24, locals := 46 } : Room) s m #[(.ref o1), (.ref o2), (.ref o3), (.ref o4), (.ref o5), (.ref o6), (.int p7)] below meth c T0 locs 2 24) (e0 : T0.heap = h0) (N0 : Fr n0 locs) (pre0 : Go p e below T0 (mkF m 39 #[.val (.ref o1), .val (.ref o2), .val (.ref o3), .val (.ref o4), .val (.ref o5), .val (.ref o6), .val (.int p7), .val (.int p8), .val (.ref o9), .unset] []) E0) :
    (∃ (T' : State) (lc : List Loc), Stand p l e ({ frames := 3, cells := 2, slots := 24, locals := 46 } : Room) s m #[(.ref o1), (.ref o2), (.ref o3), (.ref o4), (.ref o5), (.ref o6), (.int p7)] below meth c T' lc 2 24 ∧ Fr n0 lc ∧ T'.heap = h0 ∧ Go p e below T' (mkF m 48 #[.val (.ref o1), .val (.ref o2), .val (.ref o3), .val (.ref o4), .val (.ref o5), .val (.ref o6), .val (.int p7), .val (.int p8), .val (.ref o9), .unset] []) E0) := by
 have pre1 : Go p e below T0 (mkF m 48 #[.val (.ref o1), .val (.ref o2), .val (.ref o3), .val (.ref o4), .val (.ref o5), .val (.ref o6), .val (.int p7), .val (.int p8), .val (.ref o9), .unset] []) E0 := fun t k => by
  refine pre0 _ ?_
  refine ygo X0 hx hby 39 48 rfl d9_39 (by decide) ?_
  exact k
 exact ⟨_, _, X0, N0, e0, pre1⟩
set_option maxRecDepth 65536 in
set_option maxHeartbeats 40000000 in
theorem st_3a {p : Program} {l : Launch} {e : Env} {s : State} {m : MethodId} {below : List Frame} {meth : Method} {c : Code} {E0 T0 : State} {locs : List Loc} {Z : State} {a0 : Array Value} (hw : HW a0 Z) {o3 : Addr} {o4 : Addr} {o5 : Addr} {o6 : Addr} {kc3 : ClassId} {p10 : Int32} {kc4 : ClassId} {kc5 : ClassId} {kc6 : ClassId} {p11 : Int32} {p12 : Int32} {o9 : Addr} {o1 : Addr} {o2 : Addr} {p7 : Int32} {p8 : Int32} {vs : List Value} {vs2 : List Value} {vs3 : List Value} {ix1 : Nat} {h0 : Heap} {n0 : Nat} (O0 : Old Z n0 h0)
    (hx : p.tables.exec = Jvm.exec) (hby : c.code = method_3_code) (hml : c.maxLocals = 10) (hown : s.vm.findClass cn8 = some m.cls) (hret : meth.sig.returnType = some .boolean) (hlk : meth.locks = false) (hZ : Z.Warmed39 s.vm)
    (X0 : Stand p l e ({ frames := 3, cells := 2, slots := 24, locals := 46 } : Room) s m #[(.ref o1), (.ref o2), (.ref o3), (.ref o4), (.ref o5), (.ref o6), (.int p7)] below meth c T0 locs 2 24) (e0 : T0.heap = h0) (N0 : Fr n0 locs) (pre0 : Go p e below T0 (mkF m 48 #[.val (.ref o1), .val (.ref o2), .val (.ref o3), .val (.ref o4), .val (.ref o5), .val (.ref o6), .val (.int p7), .val (.int p8), .val (.ref o9), .unset] []) E0) (g_o3 : n0 ≤ o3) (g_o4 : n0 ≤ o4) (g_o5 : n0 ≤ o5) (g_o6 : n0 ≤ o6) (ne_o6_o5 : o6 ≠ o5) (Ov_kc3 : Ovr Z kc3 cn6) (hp0 : ¬ (p10 < (0 : Int32))) (hp1 : p10 < (12 : Int32)) (P0 : Exa Z h0 o3 cn3) (P1 : Exa Z h0 o4 "[Z") (P2 : Exa Z h0 o5 "[I") (P3 : Exa Z h0 o6 "[I") (P4 : Arv Z h0 o3 kc3 (.object cn6) (12 : Int32) vs .null) (P5 : Arv Z h0 o4 kc4 .boolean (12 : Int32) vs2 (.int 0)) (P6 : Arv Z h0 o5 kc5 .int (12 : Int32) vs3 (.int 0)) (P7 : Arv Z h0 o6 kc6 .int (3 : Int32) [(.int p10), (.int p11), (.int p12)] (.int 0)) (P8 : Exa Z h0 o9 cn6) (hj : p10.toNatClampNeg = ix1) (hi1 : ix1 < vs.length) (hi2 : ix1 < vs2.length) (hi3 : ix1 < vs3.length) :
    (∃ (T' : State) (lc : List Loc), Stand p l e ({ frames := 3, cells := 2, slots := 24, locals := 46 } : Room) s m #[(.ref o1), (.ref o2), (.ref o3), (.ref o4), (.ref o5), (.ref o6), (.int p7)] below meth c T' lc 2 24 ∧ Fr n0 lc ∧ Keep h0 T'.heap [o3, o4, o5, o6] ∧ (Arv Z T'.heap o3 kc3 (.object cn6) (12 : Int32) (vs.set ix1 (.ref o9)) .null) ∧ (Exa Z T'.heap o3 cn3) ∧ (Arv Z T'.heap o4 kc4 .boolean (12 : Int32) (vs2.set ix1 (.int 1)) (.int 0)) ∧ (Exa Z T'.heap o4 "[Z") ∧ (Arv Z T'.heap o5 kc5 .int (12 : Int32) (vs3.set ix1 (.int p12)) (.int 0)) ∧ (Exa Z T'.heap o5 "[I") ∧ (Arv Z T'.heap o6 kc6 .int (3 : Int32) [(.int (p10 + (1 : Int32))), (.int (p11 + (1 : Int32))), (.int p12)] (.int 0)) ∧ (Exa Z T'.heap o6 "[I") ∧ Go p e below T' (mkF m 186 #[.val (.ref o1), .val (.ref o2), .val (.ref o3), .val (.ref o4), .val (.ref o5), .val (.ref o6), .val (.int p7), .val (.int p8), .val (.ref o9), .val (.int p10)] []) E0) := by
 obtain ⟨cl1, Ar1, qa1, Sa1, Na1, Ha1, Ga1⟩ := id (P7)
 have hin1 := inb_of (j := (0 : Int32)) Sa1 ⟨by decide, by decide⟩
 have hat1 : cl1.slots[((0 : Int32)).toNatClampNeg]? = some (.int p10) := Has.at Ha1 hin1 rfl
 obtain ⟨cl2, Ar2, qa2, Sa2, Na2, Ha2, Ga2⟩ := id (P4)
 have hin2 := inb_of (j := p10) Sa2 ⟨hp0, hp1⟩
 obtain ⟨T3, h3, X3, e3, W3, st3⟩ := stR X0 hx hZ e0 Ar2 (j := p10) hin2 rfl (Sto.ofV Ar2 qa2 Ov_kc3 (Ins.self P8)) (g := (mkF m 59 #[.val (.ref o1), .val (.ref o2), .val (.ref o3), .val (.ref o4), .val (.ref o5), .val (.ref o6), .val (.int p7), .val (.int p8), .val (.ref o9), .val (.int p10)] [(.ref o9), (.int p10), (.ref o3)])) rfl rfl (hb hby d9_59)
 have V3 : Arv Z h3 o3 kc3 (.object cn6) (12 : Int32) (vs.set ix1 (.ref o9)) .null := Arv.set Ar2 qa2 Sa2 Na2 Ha2 Ga2 rfl W3 ix1 hj hi1
 have N3 := Fr.snoc X3 N0 g_o3
 have f4 := (P1.wr W3)
 have f5 := (P0.wr W3)
 have ne6 : o4 ≠ o3 := ne_exa f4 f5 (by decide)
 have f7 := (P5.other W3 ne6)
 obtain ⟨cl8, Ar8, qa8, Sa8, Na8, Ha8, Ga8⟩ := id (f7)
 have hin8 := inb_of (j := p10) Sa8 ⟨hp0, hp1⟩
 obtain ⟨T9, h9, X9, e9, W9, st9⟩ := stZ X3 hx hZ e3 Ar8 (j := p10) hin8 (g := (mkF m 64 #[.val (.ref o1), .val (.ref o2), .val (.ref o3), .val (.ref o4), .val (.ref o5), .val (.ref o6), .val (.int p7), .val (.int p8), .val (.ref o9), .val (.int p10)] [(.int 1), (.int p10), (.ref o4)])) rfl rfl (hb hby d9_64)
 have V9 : Arv Z h9 o4 kc4 .boolean (12 : Int32) (vs2.set ix1 (.int 1)) (.int 0) := Arv.set Ar8 qa8 Sa8 Na8 Ha8 Ga8 (by decide) W9 ix1 hj hi2
 have N9 := Fr.snoc X9 N3 g_o4
 have f10 := ((P3.wr W3).wr W9)
 have f11 := (f5.wr W9)
 have ne12 : o6 ≠ o3 := ne_exa f10 f11 (by decide)
 have f13 := (f4.wr W9)
 have ne14 : o6 ≠ o4 := ne_exa f10 f13 (by decide)
 have f15 := ((P7.other W3 ne12).other W9 ne14)
 obtain ⟨cl16, Ar16, qa16, Sa16, Na16, Ha16, Ga16⟩ := id (f15)
 have hin16 := inb_of (j := (2 : Int32)) Sa16 ⟨by decide, by decide⟩
 have hat16 : cl16.slots[((2 : Int32)).toNatClampNeg]? = some (.int p12) := Has.at Ha16 hin16 rfl
 have f17 := ((P2.wr W3).wr W9)
 have ne18 : o5 ≠ o3 := ne_exa f17 f11 (by decide)
 have ne19 : o5 ≠ o4 := ne_exa f17 f13 (by decide)
 have f20 := ((P6.other W3 ne18).other W9 ne19)
 obtain ⟨cl21, Ar21, qa21, Sa21, Na21, Ha21, Ga21⟩ := id (f20)
 have hin21 := inb_of (j := p10) Sa21 ⟨hp0, hp1⟩
 obtain ⟨T22, h22, X22, e22, W22, st22⟩ := stI X9 hx hZ e9 Ar21 (j := p10) hin21 (g := (mkF m 73 #[.val (.ref o1), .val (.ref o2), .val (.ref o3), .val (.ref o4), .val (.ref o5), .val (.ref o6), .val (.int p7), .val (.int p8), .val (.ref o9), .val (.int p10)] [(.int p12), (.int p10), (.ref o5)])) rfl rfl (hb hby d9_73)
 have V22 : Arv Z h22 o5 kc5 .int (12 : Int32) (vs3.set ix1 (.int p12)) (.int 0) := Arv.set Ar21 qa21 Sa21 Na21 Ha21 Ga21 rfl W22 ix1 hj hi3
 have N22 := Fr.snoc X22 N9 g_o5
 have f23 := (f15.other W22 ne_o6_o5)
 obtain ⟨cl24, Ar24, qa24, Sa24, Na24, Ha24, Ga24⟩ := id (f23)
 have hin24 := inb_of (j := (0 : Int32)) Sa24 ⟨by decide, by decide⟩
 obtain ⟨T25, h25, X25, e25, W25, st25⟩ := stI X22 hx hZ e22 Ar24 (j := (0 : Int32)) hin24 (g := (mkF m 81 #[.val (.ref o1), .val (.ref o2), .val (.ref o3), .val (.ref o4), .val (.ref o5), .val (.ref o6), .val (.int p7), .val (.int p8), .val (.ref o9), .val (.int p10)] [(.int (p10 + (1 : Int32))), (.int 0), (.ref o6)])) rfl rfl (hb hby d9_81)
 have V25 : Arv Z h25 o6 kc6 .int (3 : Int32) [(.int (p10 + (1 : Int32))), (.int p11), (.int p12)] (.int 0) := Arv.set Ar24 qa24 Sa24 Na24 Ha24 Ga24 rfl W25 0 rfl (Nat.le_of_ble_eq_true rfl)
 have N25 := Fr.snoc X25 N22 g_o6
 obtain ⟨cl26, Ar26, qa26, Sa26, Na26, Ha26, Ga26⟩ := id (V25)
 have hin26 := inb_of (j := (1 : Int32)) Sa26 ⟨by decide, by decide⟩
 have hat26 : cl26.slots[((1 : Int32)).toNatClampNeg]? = some (.int p11) := Has.at Ha26 hin26 rfl
 obtain ⟨cl27, Ar27, qa27, Sa27, Na27, Ha27, Ga27⟩ := id (V25)
 have hin27 := inb_of (j := (1 : Int32)) Sa27 ⟨by decide, by decide⟩
 obtain ⟨T28, h28, X28, e28, W28, st28⟩ := stI X25 hx hZ e25 Ar27 (j := (1 : Int32)) hin27 (g := (mkF m 91 #[.val (.ref o1), .val (.ref o2), .val (.ref o3), .val (.ref o4), .val (.ref o5), .val (.ref o6), .val (.int p7), .val (.int p8), .val (.ref o9), .val (.int p10)] [(.int (p11 + (1 : Int32))), (.int 1), (.ref o6)])) rfl rfl (hb hby d9_91)
 have V28 : Arv Z h28 o6 kc6 .int (3 : Int32) [(.int (p10 + (1 : Int32))), (.int (p11 + (1 : Int32))), (.int p12)] (.int 0) := Arv.set Ar27 qa27 Sa27 Na27 Ha27 Ga27 rfl W28 1 rfl (Nat.le_of_ble_eq_true rfl)
 have N28 := Fr.snoc X28 N25 g_o6
 have pre29 : Go p e below T28 (mkF m 186 #[.val (.ref o1), .val (.ref o2), .val (.ref o3), .val (.ref o4), .val (.ref o5), .val (.ref o6), .val (.int p7), .val (.int p8), .val (.ref o9), .val (.int p10)] []) E0 := fun t k => by
  refine pre0 _ ?_
  refine yal X0 hx hby d9_48 rfl rfl ?_
  refine yic X0 hx hby d9_50 ?_
  refine X0.iaload hx (j := (0 : Int32)) (v := (.int p10)) (by rw [e0]; exact Ar1.1) (State.isArrayOf_alike hZ.alike Ar1.2.1) Ar1.2.2 hin1 hat1 (g := (mkF m 51 #[.val (.ref o1), .val (.ref o2), .val (.ref o3), .val (.ref o4), .val (.ref o5), .val (.ref o6), .val (.int p7), .val (.int p8), .val (.ref o9), .unset] [(.int 0), (.ref o6)])) rfl rfl (hb hby d9_51) _ ?_
  refine yis X0 hx hby d9_52 (l' := #[.val (.ref o1), .val (.ref o2), .val (.ref o3), .val (.ref o4), .val (.ref o5), .val (.ref o6), .val (.int p7), .val (.int p8), .val (.ref o9), .val (.int p10)]) rfl ?_
  refine yan X0 hx hby d9_54 rfl rfl ?_
  refine yil X0 hx hby d9_55 rfl ?_
  refine yal X0 hx hby d9_57 rfl rfl ?_
  refine st3 _ ?_
  refine yan X3 hx hby d9_60 rfl rfl ?_
  refine yil X3 hx hby d9_61 rfl ?_
  refine yic X3 hx hby d9_63 ?_
  refine st9 _ ?_
  refine yal X9 hx hby d9_65 rfl rfl ?_
  refine yil X9 hx hby d9_67 rfl ?_
  refine yal X9 hx hby d9_69 rfl rfl ?_
  refine yic X9 hx hby d9_71 ?_
  refine X9.iaload hx (j := (2 : Int32)) (v := (.int p12)) (by rw [e9]; exact Ar16.1) (State.isArrayOf_alike hZ.alike Ar16.2.1) Ar16.2.2 hin16 hat16 (g := (mkF m 72 #[.val (.ref o1), .val (.ref o2), .val (.ref o3), .val (.ref o4), .val (.ref o5), .val (.ref o6), .val (.int p7), .val (.int p8), .val (.ref o9), .val (.int p10)] [(.int 2), (.ref o6), (.int p10), (.ref o5)])) rfl rfl (hb hby d9_72) _ ?_
  refine st22 _ ?_
  refine yal X22 hx hby d9_74 rfl rfl ?_
  refine yic X22 hx hby d9_76 ?_
  refine yil X22 hx hby d9_77 rfl ?_
  refine yic X22 hx hby d9_79 ?_
  refine yad X22 hx hby d9_80 ?_
  refine st25 _ ?_
  refine yal X25 hx hby d9_82 rfl rfl ?_
  refine yic X25 hx hby d9_84 ?_
  refine yal X25 hx hby d9_85 rfl rfl ?_
  refine yic X25 hx hby d9_87 ?_
  refine X25.iaload hx (j := (1 : Int32)) (v := (.int p11)) (by rw [e25]; exact Ar26.1) (State.isArrayOf_alike hZ.alike Ar26.2.1) Ar26.2.2 hin26 hat26 (g := (mkF m 88 #[.val (.ref o1), .val (.ref o2), .val (.ref o3), .val (.ref o4), .val (.ref o5), .val (.ref o6), .val (.int p7), .val (.int p8), .val (.ref o9), .val (.int p10)] [(.int 1), (.ref o6), (.int 1), (.ref o6)])) rfl rfl (hb hby d9_88) _ ?_
  refine yic X25 hx hby d9_89 ?_
  refine yad X25 hx hby d9_90 ?_
  refine st28 _ ?_
  refine ygo X28 hx hby 92 186 rfl d9_92 (by decide) ?_
  exact k
 have KL : Keep h0 h28 [o3, o4, o5, o6] := ((((((Keep.refl h0 [o3, o4, o5, o6]).wr W3 (Or.inl (List.mem_of_getElem? (i := 0) rfl))).wr W9 (Or.inl (List.mem_of_getElem? (i := 1) rfl))).wr W22 (Or.inl (List.mem_of_getElem? (i := 2) rfl))).wr W25 (Or.inl (List.mem_of_getElem? (i := 3) rfl))).wr W28 (Or.inl (List.mem_of_getElem? (i := 3) rfl)))
 have f30 := ((((V3.other W9 (Ne.symm ne6)).other W22 (Ne.symm ne18)).other W25 (Ne.symm ne12)).other W28 (Ne.symm ne12))
 have f31 := (((f11.wr W22).wr W25).wr W28)
 have f32 := (((V9.other W22 (Ne.symm ne19)).other W25 (Ne.symm ne14)).other W28 (Ne.symm ne14))
 have f33 := (((f13.wr W22).wr W25).wr W28)
 have f34 := ((V22.other W25 (Ne.symm ne_o6_o5)).other W28 (Ne.symm ne_o6_o5))
 have f35 := (((f17.wr W22).wr W25).wr W28)
 have f36 := (((f10.wr W22).wr W25).wr W28)
 exact ⟨_, _, X28, N28, (by rw [e28]; exact KL), (by rw [e28]; exact f30), (by rw [e28]; exact f31), (by rw [e28]; exact f32), (by rw [e28]; exact f33), (by rw [e28]; exact f34), (by rw [e28]; exact f35), (by rw [e28]; exact V28), (by rw [e28]; exact f36), pre29⟩
set_option maxRecDepth 65536 in
set_option maxHeartbeats 40000000 in
theorem st_4a {p : Program} {l : Launch} {e : Env} {s : State} {m : MethodId} {below : List Frame} {meth : Method} {c : Code} {E0 T0 : State} {locs : List Loc} {Z : State} {a0 : Array Value} (hw : HW a0 Z) {o6 : Addr} {kc6 : ClassId} {p10 : Int32} {p11 : Int32} {p12 : Int32} {o1 : Addr} {o2 : Addr} {o3 : Addr} {o4 : Addr} {o5 : Addr} {p7 : Int32} {p8 : Int32} {h0 : Heap} {n0 : Nat} (O0 : Old Z n0 h0)
    (hx : p.tables.exec = Jvm.exec) (hby : c.code = method_3_code) (hml : c.maxLocals = 10) (hown : s.vm.findClass cn8 = some m.cls) (hret : meth.sig.returnType = some .boolean) (hlk : meth.locks = false) (hZ : Z.Warmed39 s.vm)
    (X0 : Stand p l e ({ frames := 3, cells := 2, slots := 24, locals := 46 } : Room) s m #[(.ref o1), (.ref o2), (.ref o3), (.ref o4), (.ref o5), (.ref o6), (.int p7)] below meth c T0 locs 0 0) (e0 : T0.heap = h0) (N0 : Fr n0 locs) (pre0 : Go p e below T0 (mkF m 102 #[.val (.ref o1), .val (.ref o2), .val (.ref o3), .val (.ref o4), .val (.ref o5), .val (.ref o6), .val (.int p7), .val (.int p8), .unset, .unset] []) E0) (P0 : Arv Z h0 o6 kc6 .int (3 : Int32) [(.int p10), (.int p11), (.int p12)] (.int 0)) :
    (∃ (T' : State) (lc : List Loc), ((0 : Int32) < p10) ∧ Stand p l e ({ frames := 3, cells := 2, slots := 24, locals := 46 } : Room) s m #[(.ref o1), (.ref o2), (.ref o3), (.ref o4), (.ref o5), (.ref o6), (.int p7)] below meth c T' lc 0 0 ∧ Fr n0 lc ∧ T'.heap = h0 ∧ Go p e below T' (mkF m 120 #[.val (.ref o1), .val (.ref o2), .val (.ref o3), .val (.ref o4), .val (.ref o5), .val (.ref o6), .val (.int p7), .val (.int p8), .val (.int (((p7.toUInt32 >>> ((3 : Int32) &&& 31).toUInt32).toInt32) % p10)), .unset] []) E0)
    ∨ (∃ (T' : State) (lc : List Loc), (¬ ((0 : Int32) < p10)) ∧ Stand p l e ({ frames := 3, cells := 2, slots := 24, locals := 46 } : Room) s m #[(.ref o1), (.ref o2), (.ref o3), (.ref o4), (.ref o5), (.ref o6), (.int p7)] below meth c T' lc 0 0 ∧ Fr n0 lc ∧ T'.heap = h0 ∧ Go p e below T' (mkF m 186 #[.val (.ref o1), .val (.ref o2), .val (.ref o3), .val (.ref o4), .val (.ref o5), .val (.ref o6), .val (.int p7), .val (.int p8), .unset, .unset] []) E0) := by
 obtain ⟨cl1, Ar1, qa1, Sa1, Na1, Ha1, Ga1⟩ := id (P0)
 have hin1 := inb_of (j := (0 : Int32)) Sa1 ⟨by decide, by decide⟩
 have hat1 : cl1.slots[((0 : Int32)).toNatClampNeg]? = some (.int p10) := Has.at Ha1 hin1 rfl
 have pre2 : Go p e below T0 (mkF m 106 #[.val (.ref o1), .val (.ref o2), .val (.ref o3), .val (.ref o4), .val (.ref o5), .val (.ref o6), .val (.int p7), .val (.int p8), .unset, .unset] [(.int p10)]) E0 := fun t k => by
  refine pre0 _ ?_
  refine yal X0 hx hby d9_102 rfl rfl ?_
  refine yic X0 hx hby d9_104 ?_
  refine X0.iaload hx (j := (0 : Int32)) (v := (.int p10)) (by rw [e0]; exact Ar1.1) (State.isArrayOf_alike hZ.alike Ar1.2.1) Ar1.2.2 hin1 hat1 (g := (mkF m 105 #[.val (.ref o1), .val (.ref o2), .val (.ref o3), .val (.ref o4), .val (.ref o5), .val (.ref o6), .val (.int p7), .val (.int p8), .unset, .unset] [(.int 0), (.ref o6)])) rfl rfl (hb hby d9_105) _ ?_
  exact k
 by_cases hc3 : (0 : Int32) < p10
 ·
  obtain ⟨cl4, Ar4, qa4, Sa4, Na4, Ha4, Ga4⟩ := id (P0)
  have hin4 := inb_of (j := (0 : Int32)) Sa4 ⟨by decide, by decide⟩
  have hat4 : cl4.slots[((0 : Int32)).toNatClampNeg]? = some (.int p10) := Has.at Ha4 hin4 rfl
  have pre5 : Go p e below T0 (mkF m 120 #[.val (.ref o1), .val (.ref o2), .val (.ref o3), .val (.ref o4), .val (.ref o5), .val (.ref o6), .val (.int p7), .val (.int p8), .val (.int (((p7.toUInt32 >>> ((3 : Int32) &&& 31).toUInt32).toInt32) % p10)), .unset] []) E0 := fun t k => by
   refine pre2 _ ?_
   refine yfn X0 hx hby d9_106 ((if0 _ _).trans (tlt hc3).2.2.2) ?_
   refine yil X0 hx hby d9_109 rfl ?_
   refine yic X0 hx hby d9_111 ?_
   refine XS.iushr X0.here hx rfl (hb hby d9_112) rfl ?_
   refine yal X0 hx hby d9_113 rfl rfl ?_
   refine yic X0 hx hby d9_115 ?_
   refine X0.iaload hx (j := (0 : Int32)) (v := (.int p10)) (by rw [e0]; exact Ar4.1) (State.isArrayOf_alike hZ.alike Ar4.2.1) Ar4.2.2 hin4 hat4 (g := (mkF m 116 #[.val (.ref o1), .val (.ref o2), .val (.ref o3), .val (.ref o4), .val (.ref o5), .val (.ref o6), .val (.int p7), .val (.int p8), .unset, .unset] [(.int 0), (.ref o6), (.int ((p7.toUInt32 >>> ((3 : Int32) &&& 31).toUInt32).toInt32))])) rfl rfl (hb hby d9_116) _ ?_
   refine iremM X0 hx rfl (hb hby d9_117) rfl (own_gneq (n := 0) (k := (0 : Int32)) (by decide) (by have q0 := rng32 p10; have q1 := own_lt2 (n := 0) (k := (0 : Int32)) (by decide) hc3; omega)) ?_
   refine yis X0 hx hby d9_118 (l' := #[.val (.ref o1), .val (.ref o2), .val (.ref o3), .val (.ref o4), .val (.ref o5), .val (.ref o6), .val (.int p7), .val (.int p8), .val (.int (((p7.toUInt32 >>> ((3 : Int32) &&& 31).toUInt32).toInt32) % p10)), .unset]) rfl ?_
   exact k
  exact (Or.inl ⟨_, _, hc3, X0, N0, e0, pre5⟩)
 ·
  have pre6 : Go p e below T0 (mkF m 186 #[.val (.ref o1), .val (.ref o2), .val (.ref o3), .val (.ref o4), .val (.ref o5), .val (.ref o6), .val (.int p7), .val (.int p8), .unset, .unset] []) E0 := fun t k => by
   refine pre2 _ ?_
   refine XS.ifYes X0.here hx rfl (pc0 := 106) (pc' := 186) rfl (hb hby d9_106) rfl ((if0 _ _).trans (flt hc3).2.2.2) (by decide) (by decide) ?_
   exact k
  exact (Or.inr ⟨_, _, hc3, X0, N0, e0, pre6⟩)
set_option maxRecDepth 65536 in
set_option maxHeartbeats 40000000 in
theorem st_5a {p : Program} {l : Launch} {e : Env} {s : State} {m : MethodId} {below : List Frame} {meth : Method} {c : Code} {E0 T0 : State} {locs : List Loc} {Z : State} {a0 : Array Value} (hw : HW a0 Z) {p9 : Int32} {o3 : Addr} {kc3 : ClassId} {o4 : Addr} {kc4 : ClassId} {o5 : Addr} {kc5 : ClassId} {o6 : Addr} {kc6 : ClassId} {p10 : Int32} {p11 : Int32} {p12 : Int32} {o9 : Addr} {p13 : Int32} {p14 : Int32} {o1 : Addr} {o2 : Addr} {p7 : Int32} {p8 : Int32} {vs : List Value} {vs2 : List Value} {vs3 : List Value} {h0 : Heap} {n0 : Nat} (O0 : Old Z n0 h0)
    (hx : p.tables.exec = Jvm.exec) (hby : c.code = method_3_code) (hml : c.maxLocals = 10) (hown : s.vm.findClass cn8 = some m.cls) (hret : meth.sig.returnType = some .boolean) (hlk : meth.locks = false) (hZ : Z.Warmed39 s.vm)
    (X0 : Stand p l e ({ frames := 3, cells := 2, slots := 24, locals := 46 } : Room) s m #[(.ref o1), (.ref o2), (.ref o3), (.ref o4), (.ref o5), (.ref o6), (.int p7)] below meth c T0 locs 0 0) (e0 : T0.heap = h0) (N0 : Fr n0 locs) (pre0 : Go p e below T0 (mkF m 120 #[.val (.ref o1), .val (.ref o2), .val (.ref o3), .val (.ref o4), .val (.ref o5), .val (.ref o6), .val (.int p7), .val (.int p8), .val (.int p9), .unset] []) E0) (hp0 : ¬ (p9 < (0 : Int32))) (hp1 : p9 < (12 : Int32)) (P0 : Arv Z h0 o3 kc3 (.object cn6) (12 : Int32) vs .null) (P1 : Arv Z h0 o4 kc4 .boolean (12 : Int32) vs2 (.int 0)) (P2 : Arv Z h0 o5 kc5 .int (12 : Int32) vs3 (.int 0)) (P3 : Arv Z h0 o6 kc6 .int (3 : Int32) [(.int p10), (.int p11), (.int p12)] (.int 0)) (hr1 : vs.getD p9.toNatClampNeg .null = .ref o9) (hr2 : vs2.getD p9.toNatClampNeg (.int (0 : Int32)) = .int p13) (hr3 : vs3.getD p9.toNatClampNeg (.int (0 : Int32)) = .int p14) :
    (∃ (T' : State) (lc : List Loc), (p13 = (0 : Int32)) ∧ Stand p l e ({ frames := 3, cells := 2, slots := 24, locals := 46 } : Room) s m #[(.ref o1), (.ref o2), (.ref o3), (.ref o4), (.ref o5), (.ref o6), (.int p7)] below meth c T' lc 0 0 ∧ Fr n0 lc ∧ T'.heap = h0 ∧ Go p e below T' (mkF m 186 #[.val (.ref o1), .val (.ref o2), .val (.ref o3), .val (.ref o4), .val (.ref o5), .val (.ref o6), .val (.int p7), .val (.int p8), .val (.int p9), .unset] []) E0)
    ∨ (∃ (T' : State) (lc : List Loc), (¬ (p13 = (0 : Int32))) ∧ (p14 = p12) ∧ Stand p l e ({ frames := 3, cells := 2, slots := 24, locals := 46 } : Room) s m #[(.ref o1), (.ref o2), (.ref o3), (.ref o4), (.ref o5), (.ref o6), (.int p7)] below meth c T' lc 0 0 ∧ Fr n0 lc ∧ T'.heap = h0 ∧ Go p e below T' (mkF m 145 #[.val (.ref o1), .val (.ref o2), .val (.ref o3), .val (.ref o4), .val (.ref o5), .val (.ref o6), .val (.int p7), .val (.int p8), .val (.int p9), .unset] [(.long 1), (.ref o9), (.ref o1)]) E0)
    ∨ (∃ (T' : State) (lc : List Loc), (¬ (p13 = (0 : Int32))) ∧ (¬ (p14 = p12)) ∧ Stand p l e ({ frames := 3, cells := 2, slots := 24, locals := 46 } : Room) s m #[(.ref o1), (.ref o2), (.ref o3), (.ref o4), (.ref o5), (.ref o6), (.int p7)] below meth c T' lc 0 0 ∧ Fr n0 lc ∧ T'.heap = h0 ∧ Go p e below T' (mkF m 186 #[.val (.ref o1), .val (.ref o2), .val (.ref o3), .val (.ref o4), .val (.ref o5), .val (.ref o6), .val (.int p7), .val (.int p8), .val (.int p9), .unset] []) E0) := by
 obtain ⟨cl1, Ar1, qa1, Sa1, Na1, Ha1, Ga1⟩ := id (P1)
 have hin1 := inb_of (j := p9) Sa1 ⟨hp0, hp1⟩
 have hat1 : cl1.slots[(p9).toNatClampNeg]? = some (.int p13) := Has.at Ha1 hin1 hr2
 have pre2 : Go p e below T0 (mkF m 124 #[.val (.ref o1), .val (.ref o2), .val (.ref o3), .val (.ref o4), .val (.ref o5), .val (.ref o6), .val (.int p7), .val (.int p8), .val (.int p9), .unset] [(.int p13)]) E0 := fun t k => by
  refine pre0 _ ?_
  refine yan X0 hx hby d9_120 rfl rfl ?_
  refine yil X0 hx hby d9_121 rfl ?_
  refine X0.baloadBooleans hx (j := p9) (v := (.int p13)) (by rw [e0]; exact Ar1.1) (State.isArrayOf_alike hZ.alike Ar1.2.1) Ar1.2.2 hin1 hat1 (g := (mkF m 123 #[.val (.ref o1), .val (.ref o2), .val (.ref o3), .val (.ref o4), .val (.ref o5), .val (.ref o6), .val (.int p7), .val (.int p8), .val (.int p9), .unset] [(.int p9), (.ref o4)])) rfl rfl (hb hby d9_123) _ ?_
  exact k
 by_cases hc3 : p13 = (0 : Int32)
 ·
  have pre4 : Go p e below T0 (mkF m 124 #[.val (.ref o1), .val (.ref o2), .val (.ref o3), .val (.ref o4), .val (.ref o5), .val (.ref o6), .val (.int p7), .val (.int p8), .val (.int p9), .unset] [(.int 0)]) E0 := fun t k => pre2 t (by rw [hc3]; exact k)
  have pre5 : Go p e below T0 (mkF m 186 #[.val (.ref o1), .val (.ref o2), .val (.ref o3), .val (.ref o4), .val (.ref o5), .val (.ref o6), .val (.int p7), .val (.int p8), .val (.int p9), .unset] []) E0 := fun t k => by
   refine pre4 _ ?_
   refine XS.ifYes X0.here hx rfl (pc0 := 124) (pc' := 163) rfl (hb hby d9_124) rfl ((if0 _ _).trans (teq (by decide : (0 : Int32) = (0 : Int32))).1) (by decide) (by decide) ?_
   refine ygo X0 hx hby 163 186 rfl d9_163 (by decide) ?_
   exact k
  exact (Or.inl ⟨_, _, hc3, X0, N0, e0, pre5⟩)
 ·
  obtain ⟨cl6, Ar6, qa6, Sa6, Na6, Ha6, Ga6⟩ := id (P2)
  have hin6 := inb_of (j := p9) Sa6 ⟨hp0, hp1⟩
  have hat6 : cl6.slots[(p9).toNatClampNeg]? = some (.int p14) := Has.at Ha6 hin6 hr3
  obtain ⟨cl7, Ar7, qa7, Sa7, Na7, Ha7, Ga7⟩ := id (P3)
  have hin7 := inb_of (j := (2 : Int32)) Sa7 ⟨by decide, by decide⟩
  have hat7 : cl7.slots[((2 : Int32)).toNatClampNeg]? = some (.int p12) := Has.at Ha7 hin7 rfl
  have pre8 : Go p e below T0 (mkF m 136 #[.val (.ref o1), .val (.ref o2), .val (.ref o3), .val (.ref o4), .val (.ref o5), .val (.ref o6), .val (.int p7), .val (.int p8), .val (.int p9), .unset] [(.int p12), (.int p14)]) E0 := fun t k => by
   refine pre2 _ ?_
   refine yfn X0 hx hby d9_124 ((if0 _ _).trans (feq hc3).1) ?_
   refine yal X0 hx hby d9_127 rfl rfl ?_
   refine yil X0 hx hby d9_129 rfl ?_
   refine X0.iaload hx (j := p9) (v := (.int p14)) (by rw [e0]; exact Ar6.1) (State.isArrayOf_alike hZ.alike Ar6.2.1) Ar6.2.2 hin6 hat6 (g := (mkF m 131 #[.val (.ref o1), .val (.ref o2), .val (.ref o3), .val (.ref o4), .val (.ref o5), .val (.ref o6), .val (.int p7), .val (.int p8), .val (.int p9), .unset] [(.int p9), (.ref o5)])) rfl rfl (hb hby d9_131) _ ?_
   refine yal X0 hx hby d9_132 rfl rfl ?_
   refine yic X0 hx hby d9_134 ?_
   refine X0.iaload hx (j := (2 : Int32)) (v := (.int p12)) (by rw [e0]; exact Ar7.1) (State.isArrayOf_alike hZ.alike Ar7.2.1) Ar7.2.2 hin7 hat7 (g := (mkF m 135 #[.val (.ref o1), .val (.ref o2), .val (.ref o3), .val (.ref o4), .val (.ref o5), .val (.ref o6), .val (.int p7), .val (.int p8), .val (.int p9), .unset] [(.int 2), (.ref o6), (.int p14)])) rfl rfl (hb hby d9_135) _ ?_
   exact k
  by_cases hc9 : p14 = p12
  ·
   obtain ⟨cl10, Ar10, qa10, Sa10, Na10, Ha10, Ga10⟩ := id (P0)
   have hin10 := inb_of (j := p9) Sa10 ⟨hp0, hp1⟩
   have hat10 : cl10.slots[(p9).toNatClampNeg]? = some (.ref o9) := Has.at Ha10 hin10 hr1
   have pre11 : Go p e below T0 (mkF m 145 #[.val (.ref o1), .val (.ref o2), .val (.ref o3), .val (.ref o4), .val (.ref o5), .val (.ref o6), .val (.int p7), .val (.int p8), .val (.int p9), .unset] [(.long 1), (.ref o9), (.ref o1)]) E0 := fun t k => by
    refine pre8 _ ?_
    refine yno X0 hx hby d9_136 (teq hc9).2 ?_
    refine yan X0 hx hby d9_139 rfl rfl ?_
    refine yan X0 hx hby d9_140 rfl rfl ?_
    refine yil X0 hx hby d9_141 rfl ?_
    refine X0.aaload hx (j := p9) (v := (.ref o9)) (by rw [e0]; exact Ar10.1) (State.isArrayOf_alike hZ.alike Ar10.2.1) rfl Ar10.2.2 hin10 hat10 (g := (mkF m 143 #[.val (.ref o1), .val (.ref o2), .val (.ref o3), .val (.ref o4), .val (.ref o5), .val (.ref o6), .val (.int p7), .val (.int p8), .val (.int p9), .unset] [(.int p9), (.ref o3), (.ref o1)])) rfl rfl (hb hby d9_143) _ ?_
    refine XS.lconst X0.here hx rfl (hb hby d9_144) ?_
    exact k
   exact (Or.inr (Or.inl ⟨_, _, hc3, hc9, X0, N0, e0, pre11⟩))
  ·
   have pre12 : Go p e below T0 (mkF m 186 #[.val (.ref o1), .val (.ref o2), .val (.ref o3), .val (.ref o4), .val (.ref o5), .val (.ref o6), .val (.int p7), .val (.int p8), .val (.int p9), .unset] []) E0 := fun t k => by
    refine pre8 _ ?_
    refine yye X0 hx hby 136 163 rfl d9_136 (feq hc9).2 (by decide) ?_
    refine ygo X0 hx hby 163 186 rfl d9_163 (by decide) ?_
    exact k
   exact (Or.inr (Or.inr ⟨_, _, hc3, hc9, X0, N0, e0, pre12⟩))
set_option maxRecDepth 65536 in
set_option maxHeartbeats 40000000 in
theorem st_6a {p : Program} {l : Launch} {e : Env} {s : State} {m : MethodId} {below : List Frame} {meth : Method} {c : Code} {E0 T0 : State} {locs : List Loc} {Z : State} {a0 : Array Value} (hw : HW a0 Z) {o4 : Addr} {o6 : Addr} {p9 : Int32} {kc4 : ClassId} {kc6 : ClassId} {p10 : Int32} {p11 : Int32} {p12 : Int32} {o1 : Addr} {o2 : Addr} {o3 : Addr} {o5 : Addr} {p7 : Int32} {p8 : Int32} {vs2 : List Value} {ix1 : Nat} {h0 : Heap} {n0 : Nat} (O0 : Old Z n0 h0)
    (hx : p.tables.exec = Jvm.exec) (hby : c.code = method_3_code) (hml : c.maxLocals = 10) (hown : s.vm.findClass cn8 = some m.cls) (hret : meth.sig.returnType = some .boolean) (hlk : meth.locks = false) (hZ : Z.Warmed39 s.vm)
    (X0 : Stand p l e ({ frames := 3, cells := 2, slots := 24, locals := 46 } : Room) s m #[(.ref o1), (.ref o2), (.ref o3), (.ref o4), (.ref o5), (.ref o6), (.int p7)] below meth c T0 locs 1 15) (e0 : T0.heap = h0) (N0 : Fr n0 locs) (pre0 : Go p e below T0 (mkF m 148 #[.val (.ref o1), .val (.ref o2), .val (.ref o3), .val (.ref o4), .val (.ref o5), .val (.ref o6), .val (.int p7), .val (.int p8), .val (.int p9), .unset] []) E0) (g_o4 : n0 ≤ o4) (g_o6 : n0 ≤ o6) (hp0 : ¬ (p9 < (0 : Int32))) (hp1 : p9 < (12 : Int32)) (P1 : Exa Z h0 o4 "[Z") (P3 : Exa Z h0 o6 "[I") (P4 : Arv Z h0 o4 kc4 .boolean (12 : Int32) vs2 (.int 0)) (P5 : Arv Z h0 o6 kc6 .int (3 : Int32) [(.int p10), (.int p11), (.int p12)] (.int 0)) (hj : p9.toNatClampNeg = ix1) (hi2 : ix1 < vs2.length) :
    (∃ (T' : State) (lc : List Loc), Stand p l e ({ frames := 3, cells := 2, slots := 24, locals := 46 } : Room) s m #[(.ref o1), (.ref o2), (.ref o3), (.ref o4), (.ref o5), (.ref o6), (.int p7)] below meth c T' lc 1 15 ∧ Fr n0 lc ∧ Keep h0 T'.heap [o4, o6] ∧ (Arv Z T'.heap o4 kc4 .boolean (12 : Int32) (vs2.set ix1 (.int 0)) (.int 0)) ∧ (Exa Z T'.heap o4 "[Z") ∧ (Arv Z T'.heap o6 kc6 .int (3 : Int32) [(.int p10), (.int (p11 - (1 : Int32))), (.int p12)] (.int 0)) ∧ (Exa Z T'.heap o6 "[I") ∧ Go p e below T' (mkF m 186 #[.val (.ref o1), .val (.ref o2), .val (.ref o3), .val (.ref o4), .val (.ref o5), .val (.ref o6), .val (.int p7), .val (.int p8), .val (.int p9), .unset] []) E0) := by
 obtain ⟨cl1, Ar1, qa1, Sa1, Na1, Ha1, Ga1⟩ := id (P4)
 have hin1 := inb_of (j := p9) Sa1 ⟨hp0, hp1⟩
 obtain ⟨T2, h2, X2, e2, W2, st2⟩ := stZ X0 hx hZ e0 Ar1 (j := p9) hin1 (g := (mkF m 152 #[.val (.ref o1), .val (.ref o2), .val (.ref o3), .val (.ref o4), .val (.ref o5), .val (.ref o6), .val (.int p7), .val (.int p8), .val (.int p9), .unset] [(.int 0), (.int p9), (.ref o4)])) rfl rfl (hb hby d9_152)
 have V2 : Arv Z h2 o4 kc4 .boolean (12 : Int32) (vs2.set ix1 (.int 0)) (.int 0) := Arv.set Ar1 qa1 Sa1 Na1 Ha1 Ga1 (by decide) W2 ix1 hj hi2
 have N2 := Fr.snoc X2 N0 g_o4
 have f3 := (P3.wr W2)
 have f4 := (P1.wr W2)
 have ne5 : o6 ≠ o4 := ne_exa f3 f4 (by decide)
 have f6 := (P5.other W2 ne5)
 obtain ⟨cl7, Ar7, qa7, Sa7, Na7, Ha7, Ga7⟩ := id (f6)
 have hin7 := inb_of (j := (1 : Int32)) Sa7 ⟨by decide, by decide⟩
 have hat7 : cl7.slots[((1 : Int32)).toNatClampNeg]? = some (.int p11) := Has.at Ha7 hin7 rfl
 obtain ⟨cl8, Ar8, qa8, Sa8, Na8, Ha8, Ga8⟩ := id (f6)
 have hin8 := inb_of (j := (1 : Int32)) Sa8 ⟨by decide, by decide⟩
 obtain ⟨T9, h9, X9, e9, W9, st9⟩ := stI X2 hx hZ e2 Ar8 (j := (1 : Int32)) hin8 (g := (mkF m 162 #[.val (.ref o1), .val (.ref o2), .val (.ref o3), .val (.ref o4), .val (.ref o5), .val (.ref o6), .val (.int p7), .val (.int p8), .val (.int p9), .unset] [(.int (p11 - (1 : Int32))), (.int 1), (.ref o6)])) rfl rfl (hb hby d9_162)
 have V9 : Arv Z h9 o6 kc6 .int (3 : Int32) [(.int p10), (.int (p11 - (1 : Int32))), (.int p12)] (.int 0) := Arv.set Ar8 qa8 Sa8 Na8 Ha8 Ga8 rfl W9 1 rfl (Nat.le_of_ble_eq_true rfl)
 have N9 := Fr.snoc X9 N2 g_o6
 have pre10 : Go p e below T9 (mkF m 186 #[.val (.ref o1), .val (.ref o2), .val (.ref o3), .val (.ref o4), .val (.ref o5), .val (.ref o6), .val (.int p7), .val (.int p8), .val (.int p9), .unset] []) E0 := fun t k => by
  refine pre0 _ ?_
  refine yan X0 hx hby d9_148 rfl rfl ?_
  refine yil X0 hx hby d9_149 rfl ?_
  refine yic X0 hx hby d9_151 ?_
  refine st2 _ ?_
  refine yal X2 hx hby d9_153 rfl rfl ?_
  refine yic X2 hx hby d9_155 ?_
  refine yal X2 hx hby d9_156 rfl rfl ?_
  refine yic X2 hx hby d9_158 ?_
  refine X2.iaload hx (j := (1 : Int32)) (v := (.int p11)) (by rw [e2]; exact Ar7.1) (State.isArrayOf_alike hZ.alike Ar7.2.1) Ar7.2.2 hin7 hat7 (g := (mkF m 159 #[.val (.ref o1), .val (.ref o2), .val (.ref o3), .val (.ref o4), .val (.ref o5), .val (.ref o6), .val (.int p7), .val (.int p8), .val (.int p9), .unset] [(.int 1), (.ref o6), (.int 1), (.ref o6)])) rfl rfl (hb hby d9_159) _ ?_
  refine yic X2 hx hby d9_160 ?_
  refine ysu X2 hx hby d9_161 ?_
  refine st9 _ ?_
  refine ygo X9 hx hby 163 186 rfl d9_163 (by decide) ?_
  exact k
 have KL : Keep h0 h9 [o4, o6] := (((Keep.refl h0 [o4, o6]).wr W2 (Or.inl (List.mem_of_getElem? (i := 0) rfl))).wr W9 (Or.inl (List.mem_of_getElem? (i := 1) rfl)))
 have f11 := (V2.other W9 (Ne.symm ne5))
 have f12 := (f4.wr W9)
 have f13 := (f3.wr W9)
 exact ⟨_, _, X9, N9, (by rw [e9]; exact KL), (by rw [e9]; exact f11), (by rw [e9]; exact f12), (by rw [e9]; exact V9), (by rw [e9]; exact f13), pre10⟩
set_option maxRecDepth 65536 in
set_option maxHeartbeats 40000000 in
theorem st_7a {p : Program} {l : Launch} {e : Env} {s : State} {m : MethodId} {below : List Frame} {meth : Method} {c : Code} {E0 T0 : State} {locs : List Loc} {Z : State} {a0 : Array Value} (hw : HW a0 Z) {o1 : Addr} {o2 : Addr} {o3 : Addr} {o4 : Addr} {o5 : Addr} {o6 : Addr} {p7 : Int32} {p8 : Int32} {h0 : Heap} {n0 : Nat} (O0 : Old Z n0 h0)
    (hx : p.tables.exec = Jvm.exec) (hby : c.code = method_3_code) (hml : c.maxLocals = 10) (hown : s.vm.findClass cn8 = some m.cls) (hret : meth.sig.returnType = some .boolean) (hlk : meth.locks = false) (hZ : Z.Warmed39 s.vm)
    (X0 : Stand p l e ({ frames := 3, cells := 2, slots := 24, locals := 46 } : Room) s m #[(.ref o1), (.ref o2), (.ref o3), (.ref o4), (.ref o5), (.ref o6), (.int p7)] below meth c T0 locs 0 0) (e0 : T0.heap = h0) (N0 : Fr n0 locs) (pre0 : Go p e below T0 (mkF m 166 #[.val (.ref o1), .val (.ref o2), .val (.ref o3), .val (.ref o4), .val (.ref o5), .val (.ref o6), .val (.int p7), .val (.int p8), .unset, .unset] []) E0) :
    (∃ (T' : State) (lc : List Loc), Stand p l e ({ frames := 3, cells := 2, slots := 24, locals := 46 } : Room) s m #[(.ref o1), (.ref o2), (.ref o3), (.ref o4), (.ref o5), (.ref o6), (.int p7)] below meth c T' lc 0 0 ∧ Fr n0 lc ∧ T'.heap = h0 ∧ Go p e below T' (mkF m 168 #[.val (.ref o1), .val (.ref o2), .val (.ref o3), .val (.ref o4), .val (.ref o5), .val (.ref o6), .val (.int p7), .val (.int p8), .unset, .unset] [(.long 1), (.ref o1)]) E0) := by
 have pre1 : Go p e below T0 (mkF m 168 #[.val (.ref o1), .val (.ref o2), .val (.ref o3), .val (.ref o4), .val (.ref o5), .val (.ref o6), .val (.int p7), .val (.int p8), .unset, .unset] [(.long 1), (.ref o1)]) E0 := fun t k => by
  refine pre0 _ ?_
  refine yan X0 hx hby d9_166 rfl rfl ?_
  refine XS.lconst X0.here hx rfl (hb hby d9_167) ?_
  exact k
 exact ⟨_, _, X0, N0, e0, pre1⟩
set_option maxRecDepth 65536 in
set_option maxHeartbeats 40000000 in
theorem st_8a {p : Program} {l : Launch} {e : Env} {s : State} {m : MethodId} {below : List Frame} {meth : Method} {c : Code} {E0 T0 : State} {locs : List Loc} {Z : State} {a0 : Array Value} (hw : HW a0 Z) {o6 : Addr} {kc6 : ClassId} {p10 : Int32} {p11 : Int32} {p12 : Int32} {o1 : Addr} {o2 : Addr} {o3 : Addr} {o4 : Addr} {o5 : Addr} {p7 : Int32} {p8 : Int32} {h0 : Heap} {n0 : Nat} (O0 : Old Z n0 h0)
    (hx : p.tables.exec = Jvm.exec) (hby : c.code = method_3_code) (hml : c.maxLocals = 10) (hown : s.vm.findClass cn8 = some m.cls) (hret : meth.sig.returnType = some .boolean) (hlk : meth.locks = false) (hZ : Z.Warmed39 s.vm)
    (X0 : Stand p l e ({ frames := 3, cells := 2, slots := 24, locals := 46 } : Room) s m #[(.ref o1), (.ref o2), (.ref o3), (.ref o4), (.ref o5), (.ref o6), (.int p7)] below meth c T0 locs 0 0) (e0 : T0.heap = h0) (N0 : Fr n0 locs) (pre0 : Go p e below T0 (mkF m 171 #[.val (.ref o1), .val (.ref o2), .val (.ref o3), .val (.ref o4), .val (.ref o5), .val (.ref o6), .val (.int p7), .val (.int p8), .unset, .unset] []) E0) (g_o6 : n0 ≤ o6) (P3 : Exa Z h0 o6 "[I") (P4 : Arv Z h0 o6 kc6 .int (3 : Int32) [(.int p10), (.int p11), (.int p12)] (.int 0)) :
    (∃ (T' : State) (lc : List Loc), Stand p l e ({ frames := 3, cells := 2, slots := 24, locals := 46 } : Room) s m #[(.ref o1), (.ref o2), (.ref o3), (.ref o4), (.ref o5), (.ref o6), (.int p7)] below meth c T' lc 0 0 ∧ Fr n0 lc ∧ Keep h0 T'.heap [o6] ∧ (Arv Z T'.heap o6 kc6 .int (3 : Int32) [(.int p10), (.int 0), (.int (p12 + (1 : Int32)))] (.int 0)) ∧ (Exa Z T'.heap o6 "[I") ∧ Go p e below T' (mkF m 186 #[.val (.ref o1), .val (.ref o2), .val (.ref o3), .val (.ref o4), .val (.ref o5), .val (.ref o6), .val (.int p7), .val (.int p8), .unset, .unset] []) E0) := by
 obtain ⟨cl1, Ar1, qa1, Sa1, Na1, Ha1, Ga1⟩ := id (P4)
 have hin1 := inb_of (j := (2 : Int32)) Sa1 ⟨by decide, by decide⟩
 have hat1 : cl1.slots[((2 : Int32)).toNatClampNeg]? = some (.int p12) := Has.at Ha1 hin1 rfl
 obtain ⟨cl2, Ar2, qa2, Sa2, Na2, Ha2, Ga2⟩ := id (P4)
 have hin2 := inb_of (j := (2 : Int32)) Sa2 ⟨by decide, by decide⟩
 obtain ⟨T3, h3, X3, e3, W3, st3⟩ := stI X0 hx hZ e0 Ar2 (j := (2 : Int32)) hin2 (g := (mkF m 180 #[.val (.ref o1), .val (.ref o2), .val (.ref o3), .val (.ref o4), .val (.ref o5), .val (.ref o6), .val (.int p7), .val (.int p8), .unset, .unset] [(.int (p12 + (1 : Int32))), (.int 2), (.ref o6)])) rfl rfl (hb hby d9_180)
 have V3 : Arv Z h3 o6 kc6 .int (3 : Int32) [(.int p10), (.int p11), (.int (p12 + (1 : Int32)))] (.int 0) := Arv.set Ar2 qa2 Sa2 Na2 Ha2 Ga2 rfl W3 2 rfl (Nat.le_of_ble_eq_true rfl)
 have N3 := Fr.snoc X3 N0 g_o6
 obtain ⟨cl4, Ar4, qa4, Sa4, Na4, Ha4, Ga4⟩ := id (V3)
 have hin4 := inb_of (j := (1 : Int32)) Sa4 ⟨by decide, by decide⟩
 obtain ⟨T5, h5, X5, e5, W5, st5⟩ := stI X3 hx hZ e3 Ar4 (j := (1 : Int32)) hin4 (g := (mkF m 185 #[.val (.ref o1), .val (.ref o2), .val (.ref o3), .val (.ref o4), .val (.ref o5), .val (.ref o6), .val (.int p7), .val (.int p8), .unset, .unset] [(.int 0), (.int 1), (.ref o6)])) rfl rfl (hb hby d9_185)
 have V5 : Arv Z h5 o6 kc6 .int (3 : Int32) [(.int p10), (.int 0), (.int (p12 + (1 : Int32)))] (.int 0) := Arv.set Ar4 qa4 Sa4 Na4 Ha4 Ga4 rfl W5 1 rfl (Nat.le_of_ble_eq_true rfl)
 have N5 := Fr.snoc X5 N3 g_o6
 have pre6 : Go p e below T5 (mkF m 186 #[.val (.ref o1), .val (.ref o2), .val (.ref o3), .val (.ref o4), .val (.ref o5), .val (.ref o6), .val (.int p7), .val (.int p8), .unset, .unset] []) E0 := fun t k => by
  refine pre0 _ ?_
  refine yal X0 hx hby d9_171 rfl rfl ?_
  refine yic X0 hx hby d9_173 ?_
  refine yal X0 hx hby d9_174 rfl rfl ?_
  refine yic X0 hx hby d9_176 ?_
  refine X0.iaload hx (j := (2 : Int32)) (v := (.int p12)) (by rw [e0]; exact Ar1.1) (State.isArrayOf_alike hZ.alike Ar1.2.1) Ar1.2.2 hin1 hat1 (g := (mkF m 177 #[.val (.ref o1), .val (.ref o2), .val (.ref o3), .val (.ref o4), .val (.ref o5), .val (.ref o6), .val (.int p7), .val (.int p8), .unset, .unset] [(.int 2), (.ref o6), (.int 2), (.ref o6)])) rfl rfl (hb hby d9_177) _ ?_
  refine yic X0 hx hby d9_178 ?_
  refine yad X0 hx hby d9_179 ?_
  refine st3 _ ?_
  refine yal X3 hx hby d9_181 rfl rfl ?_
  refine yic X3 hx hby d9_183 ?_
  refine yic X3 hx hby d9_184 ?_
  refine st5 _ ?_
  exact k
 have KL : Keep h0 h5 [o6] := (((Keep.refl h0 [o6]).wr W3 (Or.inl (List.mem_of_getElem? (i := 0) rfl))).wr W5 (Or.inl (List.mem_of_getElem? (i := 0) rfl)))
 have f7 := ((P3.wr W3).wr W5)
 exact ⟨_, _, X5, N5, (by rw [e5]; exact KL), (by rw [e5]; exact V5), (by rw [e5]; exact f7), pre6⟩
def l541_0 (o1 o2 : Addr) (o3 o4 : Addr) (o5 o6 : Addr) (p7 p8 : Int32) (o9 : Addr) (p13 : Int32) : Array Slot := #[.val (.ref o1), .val (.ref o2), .val (.ref o3), .val (.ref o4), .val (.ref o5), .val (.ref o6), .val (.int p7), .val (.int p8), .val (.ref o9), .val (.int p13)]
set_option maxRecDepth 65536 in
set_option maxHeartbeats 40000000 in
theorem st_9ra {p : Program} {l : Launch} {e : Env} {s : State} {m : MethodId} {below : List Frame} {meth : Method} {c : Code} {E0 T0 : State} {locs : List Loc} {Z : State} {a0 : Array Value} (hw : HW a0 Z) {o1 : Addr} {p15 : Int32} {p16 : Int32} {p17 : Int32} {o6 : Addr} {kc6 : ClassId} {p10 : Int32} {p11 : Int32} {p12 : Int32} {o2 : Addr} {o3 : Addr} {o4 : Addr} {o5 : Addr} {p7 : Int32} {p8 : Int32} {o9 : Addr} {p13 : Int32} {h0 : Heap} {n0 : Nat} (O0 : Old Z n0 h0)
    (hx : p.tables.exec = Jvm.exec) (hby : c.code = method_3_code) (hml : c.maxLocals = 10) (hown : s.vm.findClass cn8 = some m.cls) (hret : meth.sig.returnType = some .boolean) (hlk : meth.locks = false) (hZ : Z.Warmed39 s.vm)
    (X0 : Stand p l e ({ frames := 3, cells := 2, slots := 24, locals := 46 } : Room) s m #[(.ref o1), (.ref o2), (.ref o3), (.ref o4), (.ref o5), (.ref o6), (.int p7)] below meth c T0 locs 2 24) (e0 : T0.heap = h0) (N0 : Fr n0 locs) (pre0 : Go p e below T0 (mkF m 186 (l541_0 o1 o2 o3 o4 o5 o6 p7 p8 o9 p13) []) E0) (g_o1 : n0 ≤ o1) (P0 : Exa Z h0 o1 cn7) (P1 : Fld Z h0 o1 cn7 "end" "I" (.int p15)) (P2 : Fld Z h0 o1 cn7 "first" "I" (.int p16)) (P3 : Fld Z h0 o1 cn7 "removed" "I" (.int p17)) (P4 : Arv Z h0 o6 kc6 .int (3 : Int32) [(.int p10), (.int p11), (.int p12)] (.int 0)) :
    (∃ (s₂ : State) (L : List Loc), (((p15 - p16) - p17) = p11) ∧ Steps p.tables e below E0 s₂ ∧ s₂.status = .running ∧ Ended s₂ below (.returned (some (.int 1))) ∧ Fr n0 L ∧ FrameEnd s (.returned (some (.int 1))) s₂ L 2 24 ∧ s₂.heap = h0)
    ∨ (∃ (s₂ : State) (L : List Loc), (¬ (((p15 - p16) - p17) = p11)) ∧ Steps p.tables e below E0 s₂ ∧ s₂.status = .running ∧ Ended s₂ below (.returned (some (.int 0))) ∧ Fr n0 L ∧ FrameEnd s (.returned (some (.int 0))) s₂ L 2 24 ∧ s₂.heap = h0) := by
 obtain ⟨_, T1, L1, X1, hQ1, st1⟩ := yv X0 hx hZ hown hby hml (y := yn0) (own_w hw 19 rfl) (own_w hw 20 rfl) (own_w hw 22 rfl) (own_w hw 21 rfl) (own_w hw 23 rfl) (w_2 hw) e0 P0 [] [] (rm1 l Z a0 hw [] o1 p15 p16 p17 h0 n0 O0 g_o1 P1 P2 P3) 187 (l541_0 o1 o2 o3 o4 o5 o6 p7 p8 o9 p13) rfl d9_187 (lenOf pd3 rfl) 0 2 24
 obtain ⟨rfl, Nq2, e3⟩ := hQ1
 have N1 := Fr.app N0 Nq2
 obtain ⟨cl4, Ar4, qa4, Sa4, Na4, Ha4, Ga4⟩ := id (P4)
 have hin4 := inb_of (j := (1 : Int32)) Sa4 ⟨by decide, by decide⟩
 have hat4 : cl4.slots[((1 : Int32)).toNatClampNeg]? = some (.int p11) := Has.at Ha4 hin4 rfl
 have pre5 : Go p e below T1 (mkF m 194 (l541_0 o1 o2 o3 o4 o5 o6 p7 p8 o9 p13) [(.int p11), (.int ((p15 - p16) - p17))]) E0 := fun t k => by
  refine pre0 _ ?_
  refine yan X0 hx hby d9_186 rfl rfl ?_
  refine st1 _ ?_
  refine yal X1 hx hby d9_190 rfl rfl ?_
  refine yic X1 hx hby d9_192 ?_
  refine X1.iaload hx (j := (1 : Int32)) (v := (.int p11)) (by rw [e3]; exact Ar4.1) (State.isArrayOf_alike hZ.alike Ar4.2.1) Ar4.2.2 hin4 hat4 (g := (mkF m 193 (l541_0 o1 o2 o3 o4 o5 o6 p7 p8 o9 p13) [(.int 1), (.ref o6), (.int ((p15 - p16) - p17))])) rfl rfl (hb hby d9_193) _ ?_
  exact k
 by_cases hc6 : ((p15 - p16) - p17) = p11
 ·
  obtain ⟨fs, hr, hrun, hended, hW, hsame⟩ := X1.leave (v := some (.int 1)) (fun h => by rw [hret] at h; cases h)
  refine (Or.inl ⟨_, _, hc6, pre5 _ ?_, hrun, hended, N1, ⟨⟨_, rfl⟩, hW, hsame.mono (by decide) (by decide)⟩, e3⟩)
  show Steps p.tables e below (T1.setTop (mkF m 194 (l541_0 o1 o2 o3 o4 o5 o6 p7 p8 o9 p13) [(.int p11), (.int ((p15 - p16) - p17))])) _
  refine yno X1 hx hby d9_194 (teq hc6).2 ?_
  refine yic X1 hx hby d9_197 ?_
  refine ygo X1 hx hby 198 202 rfl d9_198 (by decide) ?_
  show Steps p.tables e below (T1.setTop (mkF m 202 (l541_0 o1 o2 o3 o4 o5 o6 p7 p8 o9 p13) [(.int 1)])) _
  exact retN X1 hx (t := .boolean) hret (by simp) (hb hby d9_202) hr
 ·
  obtain ⟨fs, hr, hrun, hended, hW, hsame⟩ := X1.leave (v := some (.int 0)) (fun h => by rw [hret] at h; cases h)
  refine (Or.inr ⟨_, _, hc6, pre5 _ ?_, hrun, hended, N1, ⟨⟨_, rfl⟩, hW, hsame.mono (by decide) (by decide)⟩, e3⟩)
  show Steps p.tables e below (T1.setTop (mkF m 194 (l541_0 o1 o2 o3 o4 o5 o6 p7 p8 o9 p13) [(.int p11), (.int ((p15 - p16) - p17))])) _
  refine yye X1 hx hby 194 201 rfl d9_194 (feq hc6).2 (by decide) ?_
  refine yic X1 hx hby d9_201 ?_
  show Steps p.tables e below (T1.setTop (mkF m 202 (l541_0 o1 o2 o3 o4 o5 o6 p7 p8 o9 p13) [(.int 0)])) _
  exact retN X1 hx (t := .boolean) hret (by simp) (hb hby d9_202) hr
def l542_0 (o1 o2 : Addr) (o3 o4 : Addr) (o5 o6 : Addr) (p7 p8 p9 : Int32) : Array Slot := #[.val (.ref o1), .val (.ref o2), .val (.ref o3), .val (.ref o4), .val (.ref o5), .val (.ref o6), .val (.int p7), .val (.int p8), .val (.int p9), .unset]
set_option maxRecDepth 65536 in
set_option maxHeartbeats 40000000 in
theorem st_9ia {p : Program} {l : Launch} {e : Env} {s : State} {m : MethodId} {below : List Frame} {meth : Method} {c : Code} {E0 T0 : State} {locs : List Loc} {Z : State} {a0 : Array Value} (hw : HW a0 Z) {o1 : Addr} {p15 : Int32} {p16 : Int32} {p17 : Int32} {o6 : Addr} {kc6 : ClassId} {p10 : Int32} {p11 : Int32} {p12 : Int32} {o2 : Addr} {o3 : Addr} {o4 : Addr} {o5 : Addr} {p7 : Int32} {p8 : Int32} {p9 : Int32} {h0 : Heap} {n0 : Nat} (O0 : Old Z n0 h0)
    (hx : p.tables.exec = Jvm.exec) (hby : c.code = method_3_code) (hml : c.maxLocals = 10) (hown : s.vm.findClass cn8 = some m.cls) (hret : meth.sig.returnType = some .boolean) (hlk : meth.locks = false) (hZ : Z.Warmed39 s.vm)
    (X0 : Stand p l e ({ frames := 3, cells := 2, slots := 24, locals := 46 } : Room) s m #[(.ref o1), (.ref o2), (.ref o3), (.ref o4), (.ref o5), (.ref o6), (.int p7)] below meth c T0 locs 2 24) (e0 : T0.heap = h0) (N0 : Fr n0 locs) (pre0 : Go p e below T0 (mkF m 186 (l542_0 o1 o2 o3 o4 o5 o6 p7 p8 p9) []) E0) (g_o1 : n0 ≤ o1) (P0 : Exa Z h0 o1 cn7) (P1 : Fld Z h0 o1 cn7 "end" "I" (.int p15)) (P2 : Fld Z h0 o1 cn7 "first" "I" (.int p16)) (P3 : Fld Z h0 o1 cn7 "removed" "I" (.int p17)) (P4 : Arv Z h0 o6 kc6 .int (3 : Int32) [(.int p10), (.int p11), (.int p12)] (.int 0)) :
    (∃ (s₂ : State) (L : List Loc), (((p15 - p16) - p17) = p11) ∧ Steps p.tables e below E0 s₂ ∧ s₂.status = .running ∧ Ended s₂ below (.returned (some (.int 1))) ∧ Fr n0 L ∧ FrameEnd s (.returned (some (.int 1))) s₂ L 2 24 ∧ s₂.heap = h0)
    ∨ (∃ (s₂ : State) (L : List Loc), (¬ (((p15 - p16) - p17) = p11)) ∧ Steps p.tables e below E0 s₂ ∧ s₂.status = .running ∧ Ended s₂ below (.returned (some (.int 0))) ∧ Fr n0 L ∧ FrameEnd s (.returned (some (.int 0))) s₂ L 2 24 ∧ s₂.heap = h0) := by
 obtain ⟨_, T1, L1, X1, hQ1, st1⟩ := yv X0 hx hZ hown hby hml (y := yn0) (own_w hw 19 rfl) (own_w hw 20 rfl) (own_w hw 22 rfl) (own_w hw 21 rfl) (own_w hw 23 rfl) (w_2 hw) e0 P0 [] [] (rm1 l Z a0 hw [] o1 p15 p16 p17 h0 n0 O0 g_o1 P1 P2 P3) 187 (l542_0 o1 o2 o3 o4 o5 o6 p7 p8 p9) rfl d9_187 (lenOf pd3 rfl) 0 2 24
 obtain ⟨rfl, Nq2, e3⟩ := hQ1
 have N1 := Fr.app N0 Nq2
 obtain ⟨cl4, Ar4, qa4, Sa4, Na4, Ha4, Ga4⟩ := id (P4)
 have hin4 := inb_of (j := (1 : Int32)) Sa4 ⟨by decide, by decide⟩
 have hat4 : cl4.slots[((1 : Int32)).toNatClampNeg]? = some (.int p11) := Has.at Ha4 hin4 rfl
 have pre5 : Go p e below T1 (mkF m 194 (l542_0 o1 o2 o3 o4 o5 o6 p7 p8 p9) [(.int p11), (.int ((p15 - p16) - p17))]) E0 := fun t k => by
  refine pre0 _ ?_
  refine yan X0 hx hby d9_186 rfl rfl ?_
  refine st1 _ ?_
  refine yal X1 hx hby d9_190 rfl rfl ?_
  refine yic X1 hx hby d9_192 ?_
  refine X1.iaload hx (j := (1 : Int32)) (v := (.int p11)) (by rw [e3]; exact Ar4.1) (State.isArrayOf_alike hZ.alike Ar4.2.1) Ar4.2.2 hin4 hat4 (g := (mkF m 193 (l542_0 o1 o2 o3 o4 o5 o6 p7 p8 p9) [(.int 1), (.ref o6), (.int ((p15 - p16) - p17))])) rfl rfl (hb hby d9_193) _ ?_
  exact k
 by_cases hc6 : ((p15 - p16) - p17) = p11
 ·
  obtain ⟨fs, hr, hrun, hended, hW, hsame⟩ := X1.leave (v := some (.int 1)) (fun h => by rw [hret] at h; cases h)
  refine (Or.inl ⟨_, _, hc6, pre5 _ ?_, hrun, hended, N1, ⟨⟨_, rfl⟩, hW, hsame.mono (by decide) (by decide)⟩, e3⟩)
  show Steps p.tables e below (T1.setTop (mkF m 194 (l542_0 o1 o2 o3 o4 o5 o6 p7 p8 p9) [(.int p11), (.int ((p15 - p16) - p17))])) _
  refine yno X1 hx hby d9_194 (teq hc6).2 ?_
  refine yic X1 hx hby d9_197 ?_
  refine ygo X1 hx hby 198 202 rfl d9_198 (by decide) ?_
  show Steps p.tables e below (T1.setTop (mkF m 202 (l542_0 o1 o2 o3 o4 o5 o6 p7 p8 p9) [(.int 1)])) _
  exact retN X1 hx (t := .boolean) hret (by simp) (hb hby d9_202) hr
 ·
  obtain ⟨fs, hr, hrun, hended, hW, hsame⟩ := X1.leave (v := some (.int 0)) (fun h => by rw [hret] at h; cases h)
  refine (Or.inr ⟨_, _, hc6, pre5 _ ?_, hrun, hended, N1, ⟨⟨_, rfl⟩, hW, hsame.mono (by decide) (by decide)⟩, e3⟩)
  show Steps p.tables e below (T1.setTop (mkF m 194 (l542_0 o1 o2 o3 o4 o5 o6 p7 p8 p9) [(.int p11), (.int ((p15 - p16) - p17))])) _
  refine yye X1 hx hby 194 201 rfl d9_194 (feq hc6).2 (by decide) ?_
  refine yic X1 hx hby d9_201 ?_
  show Steps p.tables e below (T1.setTop (mkF m 202 (l542_0 o1 o2 o3 o4 o5 o6 p7 p8 p9) [(.int 0)])) _
  exact retN X1 hx (t := .boolean) hret (by simp) (hb hby d9_202) hr
def l543_0 (o1 o2 : Addr) (o3 o4 : Addr) (o5 o6 : Addr) (p7 p8 : Int32) : Array Slot := #[.val (.ref o1), .val (.ref o2), .val (.ref o3), .val (.ref o4), .val (.ref o5), .val (.ref o6), .val (.int p7), .val (.int p8), .unset, .unset]
set_option maxRecDepth 65536 in
set_option maxHeartbeats 40000000 in
theorem st_9ua {p : Program} {l : Launch} {e : Env} {s : State} {m : MethodId} {below : List Frame} {meth : Method} {c : Code} {E0 T0 : State} {locs : List Loc} {Z : State} {a0 : Array Value} (hw : HW a0 Z) {o1 : Addr} {p15 : Int32} {p16 : Int32} {p17 : Int32} {o6 : Addr} {kc6 : ClassId} {p10 : Int32} {p11 : Int32} {p12 : Int32} {o2 : Addr} {o3 : Addr} {o4 : Addr} {o5 : Addr} {p7 : Int32} {p8 : Int32} {h0 : Heap} {n0 : Nat} (O0 : Old Z n0 h0)
    (hx : p.tables.exec = Jvm.exec) (hby : c.code = method_3_code) (hml : c.maxLocals = 10) (hown : s.vm.findClass cn8 = some m.cls) (hret : meth.sig.returnType = some .boolean) (hlk : meth.locks = false) (hZ : Z.Warmed39 s.vm)
    (X0 : Stand p l e ({ frames := 3, cells := 2, slots := 24, locals := 46 } : Room) s m #[(.ref o1), (.ref o2), (.ref o3), (.ref o4), (.ref o5), (.ref o6), (.int p7)] below meth c T0 locs 2 24) (e0 : T0.heap = h0) (N0 : Fr n0 locs) (pre0 : Go p e below T0 (mkF m 186 (l543_0 o1 o2 o3 o4 o5 o6 p7 p8) []) E0) (g_o1 : n0 ≤ o1) (P0 : Exa Z h0 o1 cn7) (P1 : Fld Z h0 o1 cn7 "end" "I" (.int p15)) (P2 : Fld Z h0 o1 cn7 "first" "I" (.int p16)) (P3 : Fld Z h0 o1 cn7 "removed" "I" (.int p17)) (P4 : Arv Z h0 o6 kc6 .int (3 : Int32) [(.int p10), (.int p11), (.int p12)] (.int 0)) :
    (∃ (s₂ : State) (L : List Loc), (((p15 - p16) - p17) = p11) ∧ Steps p.tables e below E0 s₂ ∧ s₂.status = .running ∧ Ended s₂ below (.returned (some (.int 1))) ∧ Fr n0 L ∧ FrameEnd s (.returned (some (.int 1))) s₂ L 2 24 ∧ s₂.heap = h0)
    ∨ (∃ (s₂ : State) (L : List Loc), (¬ (((p15 - p16) - p17) = p11)) ∧ Steps p.tables e below E0 s₂ ∧ s₂.status = .running ∧ Ended s₂ below (.returned (some (.int 0))) ∧ Fr n0 L ∧ FrameEnd s (.returned (some (.int 0))) s₂ L 2 24 ∧ s₂.heap = h0) := by
 obtain ⟨_, T1, L1, X1, hQ1, st1⟩ := yv X0 hx hZ hown hby hml (y := yn0) (own_w hw 19 rfl) (own_w hw 20 rfl) (own_w hw 22 rfl) (own_w hw 21 rfl) (own_w hw 23 rfl) (w_2 hw) e0 P0 [] [] (rm1 l Z a0 hw [] o1 p15 p16 p17 h0 n0 O0 g_o1 P1 P2 P3) 187 (l543_0 o1 o2 o3 o4 o5 o6 p7 p8) rfl d9_187 (lenOf pd3 rfl) 0 2 24
 obtain ⟨rfl, Nq2, e3⟩ := hQ1
 have N1 := Fr.app N0 Nq2
 obtain ⟨cl4, Ar4, qa4, Sa4, Na4, Ha4, Ga4⟩ := id (P4)
 have hin4 := inb_of (j := (1 : Int32)) Sa4 ⟨by decide, by decide⟩
 have hat4 : cl4.slots[((1 : Int32)).toNatClampNeg]? = some (.int p11) := Has.at Ha4 hin4 rfl
 have pre5 : Go p e below T1 (mkF m 194 (l543_0 o1 o2 o3 o4 o5 o6 p7 p8) [(.int p11), (.int ((p15 - p16) - p17))]) E0 := fun t k => by
  refine pre0 _ ?_
  refine yan X0 hx hby d9_186 rfl rfl ?_
  refine st1 _ ?_
  refine yal X1 hx hby d9_190 rfl rfl ?_
  refine yic X1 hx hby d9_192 ?_
  refine X1.iaload hx (j := (1 : Int32)) (v := (.int p11)) (by rw [e3]; exact Ar4.1) (State.isArrayOf_alike hZ.alike Ar4.2.1) Ar4.2.2 hin4 hat4 (g := (mkF m 193 (l543_0 o1 o2 o3 o4 o5 o6 p7 p8) [(.int 1), (.ref o6), (.int ((p15 - p16) - p17))])) rfl rfl (hb hby d9_193) _ ?_
  exact k
 by_cases hc6 : ((p15 - p16) - p17) = p11
 ·
  obtain ⟨fs, hr, hrun, hended, hW, hsame⟩ := X1.leave (v := some (.int 1)) (fun h => by rw [hret] at h; cases h)
  refine (Or.inl ⟨_, _, hc6, pre5 _ ?_, hrun, hended, N1, ⟨⟨_, rfl⟩, hW, hsame.mono (by decide) (by decide)⟩, e3⟩)
  show Steps p.tables e below (T1.setTop (mkF m 194 (l543_0 o1 o2 o3 o4 o5 o6 p7 p8) [(.int p11), (.int ((p15 - p16) - p17))])) _
  refine yno X1 hx hby d9_194 (teq hc6).2 ?_
  refine yic X1 hx hby d9_197 ?_
  refine ygo X1 hx hby 198 202 rfl d9_198 (by decide) ?_
  show Steps p.tables e below (T1.setTop (mkF m 202 (l543_0 o1 o2 o3 o4 o5 o6 p7 p8) [(.int 1)])) _
  exact retN X1 hx (t := .boolean) hret (by simp) (hb hby d9_202) hr
 ·
  obtain ⟨fs, hr, hrun, hended, hW, hsame⟩ := X1.leave (v := some (.int 0)) (fun h => by rw [hret] at h; cases h)
  refine (Or.inr ⟨_, _, hc6, pre5 _ ?_, hrun, hended, N1, ⟨⟨_, rfl⟩, hW, hsame.mono (by decide) (by decide)⟩, e3⟩)
  show Steps p.tables e below (T1.setTop (mkF m 194 (l543_0 o1 o2 o3 o4 o5 o6 p7 p8) [(.int p11), (.int ((p15 - p16) - p17))])) _
  refine yye X1 hx hby 194 201 rfl d9_194 (feq hc6).2 (by decide) ?_
  refine yic X1 hx hby d9_201 ?_
  show Steps p.tables e below (T1.setTop (mkF m 202 (l543_0 o1 o2 o3 o4 o5 o6 p7 p8) [(.int 0)])) _
  exact retN X1 hx (t := .boolean) hret (by simp) (hb hby d9_202) hr
theorem pd6 : parseMethodDescriptor "(Lcom/example/horn1/horn1/engine/Clause;J)V" = some ⟨[(.object "com/example/horn1/horn1/engine/Clause"), .long], none⟩ := by decide +kernel
theorem pd7 : parseMethodDescriptor "(Lcom/example/horn1/horn1/engine/Clause;)V" = some ⟨[(.object "com/example/horn1/horn1/engine/Clause")], none⟩ := by decide +kernel
set_option maxHeartbeats 4000000 in
theorem m_sta (l : Launch) (Z : State) (a0 : Array Value) (hw : HW a0 Z) {w1 : Addr} {kw1 : ClassId} (G : GW Z w1 kw1) (ws : List Jvm.Cond) (o1 o2 o3 o4 o5 o6 : Addr) (p7 : Int32) (t : Nat) (ht : t ≤ 5) (h0 : Heap) (n0 : Nat) (O0 : Old Z n0 h0) (HO : SO n0 o2 o3 o4 o5 o6) (HI : SI Z h0 n0 o1 o2 o3 o4 o5 o6 t) :
    MF l yn9 method_3_code 10 (some .boolean) ws ({ frames := 3, cells := 2, slots := 24, locals := 46 } : Room) #[(.ref o1), (.ref o2), (.ref o3), (.ref o4), (.ref o5), (.ref o6), (.int p7)] Z h0 (QST Z n0 o1 o2 o3 o4 o5 o6 (t + 1)) := by
  refine MetFree.of_bodySF (plainFor_of_name pn1) hisR ?_
  intro p e s m args below meth c s₁ Bd hml hP hK
  obtain ⟨rfl, hZ, hh⟩ := hP
  obtain ⟨hx, hby, hown, hret, hlk, X0, e0, N0⟩ := own_bd Bd hh n0
  have pre0 := own_ct s₁ (p := p) (e := e) (below := below) (ef_st m o1 o2 o3 o4 o5 o6 p7)
  revert pre0
  generalize s₁.setTop (entryFrame m #[(.ref o1), (.ref o2), (.ref o3), (.ref o4), (.ref o5), (.ref o6), (.int p7)] 10) = E0
  intro pre0
  obtain ⟨g2, g3, g4, g5, g6, n65⟩ := HO
  have finr : ∀ (T : State) (lc : List Loc) (h1 : Heap) (p8 : Int32) (o9 : Addr) (p13 : Int32), Old Z n0 h1 → Stand p l e ({ frames := 3, cells := 2, slots := 24, locals := 46 } : Room) s m #[(.ref o1), (.ref o2), (.ref o3), (.ref o4), (.ref o5), (.ref o6), (.int p7)] below meth c T lc 2 24 → T.heap = h1 → Fr n0 lc → Go p e below T (mkF m 186 #[.val (.ref o1), .val (.ref o2), .val (.ref o3), .val (.ref o4), .val (.ref o5), .val (.ref o6), .val (.int p7), .val (.int p8), .val (.ref o9), .val (.int p13)] []) E0 → SI Z h1 n0 o1 o2 o3 o4 o5 o6 (t + 1) → ∃ s₂ o, Steps p.tables e below E0 s₂ ∧ s₂.status = .running ∧ Ended s₂ below o ∧ ∃ v L, o = .returned v ∧ QST Z n0 o1 o2 o3 o4 o5 o6 (t + 1) v s₂.heap L ∧ FrameEnd s o s₂ L 2 24 := by
    intro T lc h1 p8 o9 p13 O1 X e1 N pre HI1
    obtain ⟨C', mk', m', k', u', A', B', Q', k2', k3', k4', k5', k6', v3', v4', v5', -, HL, HA, -⟩ := id HI1
    obtain ⟨sa, ka, vs, n, lo, fi, en, re, af, D, ⟨go, PE, Ps, Pl, Pf, Pe, Pr, Pa, PA, PX, dso⟩, HD, dmm, hk⟩ := HL
    have hfe : fi ≤ en := HD.2.2.2.2.2.2.1
    have hlen : (D.drop (fi - lo)).length = en - fi := by have := HD.1; rw [List.length_drop]; have := HD.2.2.2.2.2.1; omega
    have hre : re ≤ en - fi := by rw [HD.2.2.2.2.2.2.2.2.2.2.2.1, ← hlen]; exact List.countP_le_length
    rcases st_9ra hw O1 hx hby hml hown hret hlk hZ X e1 N pre go PE Pe Pf Pr HA.2.2.2.2.1 with ⟨s₂, L, hc, st, hr, he, NL, FE, eH⟩ | ⟨s₂, L, hc, st, hr, he, NL, FE, eH⟩
    · exact ⟨s₂, _, st, hr, he, _, _, rfl, ⟨rfl, NL, by rw [eH]; exact O1, by rw [eH]; exact HI1⟩, FE⟩
    · exact absurd (by rw [n_sub hfe, n_sub hre, hk]) hc
  have fini : ∀ (T : State) (lc : List Loc) (h1 : Heap) (p8 p9 : Int32), Old Z n0 h1 → Stand p l e ({ frames := 3, cells := 2, slots := 24, locals := 46 } : Room) s m #[(.ref o1), (.ref o2), (.ref o3), (.ref o4), (.ref o5), (.ref o6), (.int p7)] below meth c T lc 2 24 → T.heap = h1 → Fr n0 lc → Go p e below T (mkF m 186 #[.val (.ref o1), .val (.ref o2), .val (.ref o3), .val (.ref o4), .val (.ref o5), .val (.ref o6), .val (.int p7), .val (.int p8), .val (.int p9), .unset] []) E0 → SI Z h1 n0 o1 o2 o3 o4 o5 o6 (t + 1) → ∃ s₂ o, Steps p.tables e below E0 s₂ ∧ s₂.status = .running ∧ Ended s₂ below o ∧ ∃ v L, o = .returned v ∧ QST Z n0 o1 o2 o3 o4 o5 o6 (t + 1) v s₂.heap L ∧ FrameEnd s o s₂ L 2 24 := by
    intro T lc h1 p8 p9 O1 X e1 N pre HI1
    obtain ⟨C', mk', m', k', u', A', B', Q', k2', k3', k4', k5', k6', v3', v4', v5', -, HL, HA, -⟩ := id HI1
    obtain ⟨sa, ka, vs, n, lo, fi, en, re, af, D, ⟨go, PE, Ps, Pl, Pf, Pe, Pr, Pa, PA, PX, dso⟩, HD, dmm, hk⟩ := HL
    have hfe : fi ≤ en := HD.2.2.2.2.2.2.1
    have hlen : (D.drop (fi - lo)).length = en - fi := by have := HD.1; rw [List.length_drop]; have := HD.2.2.2.2.2.1; omega
    have hre : re ≤ en - fi := by rw [HD.2.2.2.2.2.2.2.2.2.2.2.1, ← hlen]; exact List.countP_le_length
    rcases st_9ia hw O1 hx hby hml hown hret hlk hZ X e1 N pre go PE Pe Pf Pr HA.2.2.2.2.1 with ⟨s₂, L, hc, st, hr, he, NL, FE, eH⟩ | ⟨s₂, L, hc, st, hr, he, NL, FE, eH⟩
    · exact ⟨s₂, _, st, hr, he, _, _, rfl, ⟨rfl, NL, by rw [eH]; exact O1, by rw [eH]; exact HI1⟩, FE⟩
    · exact absurd (by rw [n_sub hfe, n_sub hre, hk]) hc
  have finu : ∀ (T : State) (lc : List Loc) (h1 : Heap) (p8 : Int32), Old Z n0 h1 → Stand p l e ({ frames := 3, cells := 2, slots := 24, locals := 46 } : Room) s m #[(.ref o1), (.ref o2), (.ref o3), (.ref o4), (.ref o5), (.ref o6), (.int p7)] below meth c T lc 2 24 → T.heap = h1 → Fr n0 lc → Go p e below T (mkF m 186 #[.val (.ref o1), .val (.ref o2), .val (.ref o3), .val (.ref o4), .val (.ref o5), .val (.ref o6), .val (.int p7), .val (.int p8), .unset, .unset] []) E0 → SI Z h1 n0 o1 o2 o3 o4 o5 o6 (t + 1) → ∃ s₂ o, Steps p.tables e below E0 s₂ ∧ s₂.status = .running ∧ Ended s₂ below o ∧ ∃ v L, o = .returned v ∧ QST Z n0 o1 o2 o3 o4 o5 o6 (t + 1) v s₂.heap L ∧ FrameEnd s o s₂ L 2 24 := by
    intro T lc h1 p8 O1 X e1 N pre HI1
    obtain ⟨C', mk', m', k', u', A', B', Q', k2', k3', k4', k5', k6', v3', v4', v5', -, HL, HA, -⟩ := id HI1
    obtain ⟨sa, ka, vs, n, lo, fi, en, re, af, D, ⟨go, PE, Ps, Pl, Pf, Pe, Pr, Pa, PA, PX, dso⟩, HD, dmm, hk⟩ := HL
    have hfe : fi ≤ en := HD.2.2.2.2.2.2.1
    have hlen : (D.drop (fi - lo)).length = en - fi := by have := HD.1; rw [List.length_drop]; have := HD.2.2.2.2.2.1; omega
    have hre : re ≤ en - fi := by rw [HD.2.2.2.2.2.2.2.2.2.2.2.1, ← hlen]; exact List.countP_le_length
    rcases st_9ua hw O1 hx hby hml hown hret hlk hZ X e1 N pre go PE Pe Pf Pr HA.2.2.2.2.1 with ⟨s₂, L, hc, st, hr, he, NL, FE, eH⟩ | ⟨s₂, L, hc, st, hr, he, NL, FE, eH⟩
    · exact ⟨s₂, _, st, hr, he, _, _, rfl, ⟨rfl, NL, by rw [eH]; exact O1, by rw [eH]; exact HI1⟩, FE⟩
    · exact absurd (by rw [n_sub hfe, n_sub hre, hk]) hc
  obtain ⟨C, mk, m', k, u, A, B, Q, k2, k3, k4, k5, k6, v3, v4, v5, HC, HL, HA, HD, hm', hk', hu'⟩ := id HI
  obtain ⟨A2, A3, A4, A5, A6, E2, E3, E4, E5, E6, ov⟩ := id HA
  have PE : Exa Z h0 o1 cn7 := by obtain ⟨_, _, _, _, _, _, _, _, _, _, HS, -⟩ := id HL; exact HS.2.1
  have go : n0 ≤ o1 := by obtain ⟨_, _, _, _, _, _, _, _, _, _, HS, -⟩ := id HL; exact HS.1
  have o13 : o1 ≠ o3 := ne_exa PE E3 (by decide)
  have c3 : ∀ x ∈ C, x ≠ o3 := fun x hx => ne_exa (HC x hx).2.1 E3 (by decide)
  have hlive : ∀ {h1 : Heap} {C1 : List Addr} {mk1 : Addr → Int64}, CF Z h1 n0 C1 mk1 → Exa Z h1 o3 cn3 → Exa Z h1 o4 "[Z" → Exa Z h1 o5 "[I" → Exa Z h1 o6 "[I" → ∀ x ∈ [o3, o4, o5, o6], x ∉ C1 := fun H z3 z4 z5 z6 x hx q => by
    simp only [List.mem_cons, List.not_mem_nil, or_false] at hx
    rcases hx with rfl | rfl | rfl | rfl
    · exact ne_exa (H _ q).2.1 z3 (by decide) rfl
    · exact ne_exa (H _ q).2.1 z4 (by decide) rfl
    · exact ne_exa (H _ q).2.1 z5 (by decide) rfl
    · exact ne_exa (H _ q).2.1 z6 (by decide) rfl
  have hwr : ∀ {h1 : Heap}, Exa Z h1 o3 cn3 → Exa Z h1 o4 "[Z" → Exa Z h1 o5 "[I" → Exa Z h1 o6 "[I" → ∀ x ∈ [o3, o4, o5, o6], n0 ≤ x ∧ (x = o3 ∨ Exa Z h1 x "[Z" ∨ Exa Z h1 x "[I") := fun z3 z4 z5 z6 x hx => by
    simp only [List.mem_cons, List.not_mem_nil, or_false] at hx
    rcases hx with rfl | rfl | rfl | rfl
    · exact ⟨g3, Or.inl rfl⟩
    · exact ⟨g4, Or.inr (Or.inl z4)⟩
    · exact ⟨g5, Or.inr (Or.inr z5)⟩
    · exact ⟨g6, Or.inr (Or.inr z6)⟩
  have n24 : o2 ≠ o4 := ne_exa E2 E4 (by decide)
  have n26 : o2 ≠ o6 := ne_exa E2 E6 (by decide)
  have n23 : o2 ≠ o3 := ne_exa E2 E3 (by decide)
  have n25 : o2 ≠ o5 := ne_exa E2 E5 (by decide)
  have n34 : o3 ≠ o4 := ne_exa E3 E4 (by decide)
  have n36 : o3 ≠ o6 := ne_exa E3 E6 (by decide)
  have n46 : o4 ≠ o6 := ne_exa E4 E6 (by decide)
  have n54 : o5 ≠ o4 := ne_exa E5 E4 (by decide)
  rcases st_0a hw O0 hx hby hml hown hret hlk hZ X0 e0 N0 pre0 with ⟨T1, lc1, -, -, X1, N1, e1, pre1⟩ | ⟨T1, lc1, -, -, X1, N1, e1, pre1⟩ | ⟨T1, lc1, -, X1, N1, e1, pre1⟩
  · obtain ⟨T2, lc2, X2, N2, e2, pre2⟩ := st_7a hw O0 hx hby hml hown hret hlk hZ X1 e1 N1 pre1
    obtain ⟨_, T3, L3, X3, hQ, st3⟩ := own_vb X2 hx hZ hown (y := yn8) (own_w hw 90 rfl) (own_w hw 91 rfl) (own_w hw 93 rfl) (own_w hw 92 rfl) (own_w hw 94 rfl) (w_2 hw) e2 PE (argsL := [(.long 1)]) (rest := []) (m_ra l Z a0 hw G [] o1 o3 C mk 1 h0 n0 O0 (by decide) g3 HC HL) (g := (mkF m 168 #[.val (.ref o1), .val (.ref o2), .val (.ref o3), .val (.ref o4), .val (.ref o5), .val (.ref o6), .val (.int p7), .val (.int 7), .unset, .unset] [(.long 1), (.ref o1)])) rfl (by rw [hml]; rfl) rfl (hb hby d9_168) (lenOf pd2 rfl) (W := 0) (c1 := 0) (s1 := 0)
    obtain ⟨rfl, NL, K, HC3, HL3⟩ := hQ
    have O3 := O0.keep K (fun x hx => by rcases List.mem_cons.mp hx with rfl | z; exact go; exact (HC x z).1)
    have HA3 := sa_keep HA K (fun x hx => by rcases List.mem_cons.mp hx with rfl | z; exact ⟨o13, Or.inl PE⟩; exact ⟨c3 x z, Or.inr (Or.inl (HC x z).2.1)⟩)
    obtain ⟨B2, B3, B4, B5, B6, F2, F3, F4, F5, F6, -⟩ := id HA3
    obtain ⟨T4, lc4, X4, N4, K4, A64, E64, pre4⟩ := st_8a hw O3 hx hby hml hown hret hlk hZ X3 rfl (Fr.app N2 NL) (fun t k => pre2 _ (st3 _ k)) g6 F6 B6
    rw [show N32 u + (1 : Int32) = N32 (u + 1) from n_add u 1] at A64
    refine finu T4 lc4 T4.heap _ (O3.keep K4 (allS g6 all0)) (X4.more (by decide) (by decide)) rfl N4 pre4 ⟨C, fun c => if mk c = MX then 1 else mk c, m', 0, u + 1, A, B, Q, k2, k3, k4, k5, k6, v3, v4, v5, ?_, ?_, ?_, sd_ra HD _, by omega, by omega, by omega⟩
    · exact cf_keep HC3 K4 (fun x hx => by rw [List.mem_singleton.mp hx]; exact hlive HC3 F3 F4 F5 F6 o6 (by simp))
    · exact li_keep HL3 K4 F3 (fun x hx => by rw [List.mem_singleton.mp hx]; exact hwr F3 F4 F5 F6 o6 (by simp))
    · exact ⟨B2.keep K4 (ninS n26 nin0), B3.keep K4 (ninS n36 nin0), B4.keep K4 (ninS n46 nin0), B5.keep K4 (ninS (Ne.symm n65) nin0), A64, F2.keep K4, F3.keep K4, F4.keep K4, F5.keep K4, E64, ov⟩
  · rcases st_4a hw O0 hx hby hml hown hret hlk hZ X1 e1 N1 pre1 A6 with ⟨T2, lc2, hp, X2, N2, e2, pre2⟩ | ⟨T2, lc2, hp, X2, N2, e2, pre2⟩
    · have hm0 : 0 < m' := (n_lt (a := 0) (by omega) (by omega)).mp hp
      obtain ⟨i, hi, ei⟩ := n_idx p7 hm0 (by omega)
      rw [ei] at pre2
      obtain ⟨a1, a2, a3, a4, a5, a6⟩ := HD.1 i hi
      rcases st_5a hw O0 hx hby hml hown hret hlk hZ X2 e2 N2 pre2 (n_nn (by omega)) ((n_lt (b := 12) (by omega) (by omega)).mpr (by omega)) A3 A4 A5 A6 (by rw [n_nat (by omega)]; exact a1) (by rw [n_nat (by omega)]; exact a3) (by rw [n_nat (by omega)]; exact a4) with ⟨T3, lc3, hb0, X3, N3, e3, pre3⟩ | ⟨T3, lc3, hb0, hq, X3, N3, e3, pre3⟩ | ⟨T3, lc3, hb0, hq, X3, N3, e3, pre3⟩
      · exact fini T3 lc3 h0 _ _ O0 (X3.more (by decide) (by decide)) e3 N3 pre3 (si_mono HI)
      · have hqu : Q i = u := (n_eq (by omega) (by omega)).mp hq
        have hmx := a6 hb0 hqu
        have k1 := li_pos HL a2 hmx
        obtain ⟨_, T4, L4, X4, hQ, st4⟩ := own_vb X3 hx hZ hown (y := yn7) (own_w hw 100 rfl) (own_w hw 101 rfl) (own_w hw 103 rfl) (own_w hw 102 rfl) (own_w hw 104 rfl) (w_2 hw) e3 PE (argsL := [(.ref (A i)), (.long 1)]) (rest := []) (m_rma l Z a0 hw [] o1 (A i) o3 C mk 1 k h0 n0 O0 (by decide) HC a2 hmx E3.lt HL (by omega)) (g := (mkF m 145 #[.val (.ref o1), .val (.ref o2), .val (.ref o3), .val (.ref o4), .val (.ref o5), .val (.ref o6), .val (.int p7), .val (.int (p7 &&& (7 : Int32))), .val (.int (N32 i)), .unset] [(.long 1), (.ref (A i)), (.ref o1)])) rfl (by rw [hml]; rfl) rfl (hb hby d9_145) (lenOf pd6 rfl) (W := 0) (c1 := 1) (s1 := 15)
        obtain ⟨rfl, NL, K, HC4, HL4⟩ := hQ
        have O4 := O0.keep K (allS (HC _ a2).1 (allS go all0))
        have HA4 := sa_keep HA K (fun x hx => by rcases List.mem_cons.mp hx with rfl | z; exact ⟨c3 _ a2, Or.inr (Or.inl (HC _ a2).2.1)⟩; cases List.mem_singleton.mp z; exact ⟨o13, Or.inl PE⟩)
        obtain ⟨B2, B3, B4, B5, B6, F2, F3, F4, F5, F6, -⟩ := id HA4
        obtain ⟨T5, lc5, X5, N5, K5, A45, E45, A65, E65, pre5⟩ := st_6a hw O4 hx hby hml hown hret hlk hZ X4 rfl (Fr.app N3 NL) (fun t k => pre3 _ (st4 _ k)) g4 g6 (n_nn (by omega)) ((n_lt (b := 12) (by omega) (by omega)).mpr (by omega)) F4 F6 B4 B6 (n_nat (by omega)) (by rw [HD.2.2.2.1]; omega)
        rw [show N32 k - (1 : Int32) = N32 (k - 1) from n_sub (b := 1) k1] at A65
        refine fini T5 lc5 T5.heap _ _ (O4.keep K5 (allS g4 (allS g6 all0))) (X5.more (by decide) (by decide)) rfl N5 pre5 ⟨C, _, m', k - 1, u, A, _, Q, k2, k3, k4, k5, k6, v3, _, v5, ?_, ?_, ?_, sd_rm HD hi (by omega) 1, by omega, by omega, by omega⟩
        · exact cf_keep HC4 K5 (fun x hx => hlive HC4 F3 F4 F5 F6 x (by simp only [List.mem_cons, List.not_mem_nil, or_false] at hx ⊢; rcases hx with z | z <;> simp [z]))
        · exact li_keep HL4 K5 F3 (fun x hx => hwr F3 F4 F5 F6 x (by simp only [List.mem_cons, List.not_mem_nil, or_false] at hx ⊢; rcases hx with z | z <;> simp [z]))
        · exact ⟨B2.keep K5 (ninS n24 (ninS n26 nin0)), B3.keep K5 (ninS n34 (ninS n36 nin0)), A45, B5.keep K5 (ninS n54 (ninS (Ne.symm n65) nin0)), A65, F2.keep K5, F3.keep K5, E45, F5.keep K5, E65, ov⟩
      · exact fini T3 lc3 h0 _ _ O0 (X3.more (by decide) (by decide)) e3 N3 pre3 (si_mono HI)
    · exact finu T2 lc2 h0 _ O0 (X2.more (by decide) (by decide)) e2 N2 pre2 (si_mono HI)
  · have adds : ∀ (T : State) (lc : List Loc) (h3 : Heap) (p8 : Int32) (b : Addr), Old Z n0 h3 → Stand p l e ({ frames := 3, cells := 2, slots := 24, locals := 46 } : Room) s m #[(.ref o1), (.ref o2), (.ref o3), (.ref o4), (.ref o5), (.ref o6), (.int p7)] below meth c T lc 2 24 → T.heap = h3 → Fr n0 lc → Go p e below T (mkF m 48 #[.val (.ref o1), .val (.ref o2), .val (.ref o3), .val (.ref o4), .val (.ref o5), .val (.ref o6), .val (.int p7), .val (.int p8), .val (.ref b), .unset] []) E0 → b ∉ C → CF Z h3 n0 (b :: C) (up mk b MX) → LInv Z h3 n0 o1 o3 (b :: C) (up mk b MX) (k + 1) → SA Z h3 o2 o3 o4 o5 o6 k2 k3 k4 k5 k6 v3 v4 v5 m' k u → ∃ s₂ o, Steps p.tables e below E0 s₂ ∧ s₂.status = .running ∧ Ended s₂ below o ∧ ∃ v L, o = .returned v ∧ QST Z n0 o1 o2 o3 o4 o5 o6 (t + 1) v s₂.heap L ∧ FrameEnd s o s₂ L 2 24 := by
      intro T lc h3 p8 b O3 X e3 N pre hbC HC3 HL3 HA3
      obtain ⟨B2, B3, B4, B5, B6, F2, F3, F4, F5, F6, -⟩ := id HA3
      obtain ⟨T4, lc4, X4, N4, K4, A34, E34, A44, E44, A54, E54, A64, E64, pre4⟩ := st_3a hw O3 hx hby hml hown hret hlk hZ X e3 N pre g3 g4 g5 g6 n65 ov (n_nn (by omega)) ((n_lt (b := 12) (by omega) (by omega)).mpr (by omega)) F3 F4 F5 F6 B3 B4 B5 B6 (HC3 b (List.mem_cons_self ..)).2.1 (n_nat (by omega)) (by rw [HD.2.2.1]; omega) (by rw [HD.2.2.2.1]; omega) (by rw [HD.2.2.2.2]; omega)
      rw [show N32 m' + (1 : Int32) = N32 (m' + 1) from n_add m' 1, show N32 k + (1 : Int32) = N32 (k + 1) from n_add k 1] at A64
      refine finr T4 lc4 T4.heap _ _ _ (O3.keep K4 (allS g3 (allS g4 (allS g5 (allS g6 all0))))) X4 rfl N4 pre4 ⟨b :: C, _, m' + 1, k + 1, u, _, _, _, k2, k3, k4, k5, k6, _, _, _, cf_keep HC3 K4 (hlive HC3 F3 F4 F5 F6), li_keep HL3 K4 F3 (hwr F3 F4 F5 F6), ?_, sd_add HD (by omega) hbC, by omega, by omega, by omega⟩
      exact ⟨B2.keep K4 (ninS n23 (ninS n24 (ninS n25 (ninS n26 nin0)))), A34, A44, A54, A64, F2.keep K4, E34, E44, E54, E64, ov⟩
    have prep : ∀ (h2 : Heap) (b : Addr), Keep h0 h2 [] → h0.size ≤ b → Exa Z h2 b cn6 → Fld Z h2 b cn6 "removed" "J" (.long 9223372036854775807) → b ∉ C ∧ CF Z h2 n0 (b :: C) (up mk b MX) ∧ LInv Z h2 n0 o1 o3 C (up mk b MX) k ∧ SA Z h2 o2 o3 o4 o5 o6 k2 k3 k4 k5 k6 v3 v4 v5 m' k u := by
      intro h2 b K hsz Eb Fb
      have hbC : b ∉ C := fun q => absurd (HC b q).2.1.lt (Nat.not_lt_of_le hsz)
      refine ⟨hbC, fun x hx => ?_, li_cg (li_keep HL K E3 (fun x hx => absurd hx List.not_mem_nil)) (fun c hc => up_n mk MX (fun q => hbC (q ▸ hc))), sa_keep HA K (fun x hx => absurd hx List.not_mem_nil)⟩
      rcases List.mem_cons.mp hx with rfl | z
      · rw [up_s]; exact ⟨Nat.le_trans (own_oz O0) hsz, Eb, Fb⟩
      · have ne : x ≠ b := fun q => hbC (q ▸ z)
        rw [up_n mk MX ne]; obtain ⟨a1, a2, a3⟩ := HC x z; exact ⟨a1, a2.keep K, a3.keep K nin0⟩
    have post : ∀ (h2 h3 : Heap) (b : Addr), Keep h0 h2 [] → Old Z n0 h2 → CF Z h2 n0 (b :: C) (up mk b MX) → SA Z h2 o2 o3 o4 o5 o6 k2 k3 k4 k5 k6 v3 v4 v5 m' k u → KW Z h2 h3 n0 o1 o3 → Old Z n0 h3 ∧ CF Z h3 n0 (b :: C) (up mk b MX) ∧ SA Z h3 o2 o3 o4 o5 o6 k2 k3 k4 k5 k6 v3 v4 v5 m' k u := by
      intro h2 h3 b K O2 HC2 HA2 HK
      obtain ⟨ws, KK, hws⟩ := HK
      have PE2 := PE.keep K
      refine ⟨O2.keep KK (fun x hx => (hws x hx).1), cf_keep HC2 KK (fun x hx q => ?_), sa_keep HA2 KK (fun x hx => ?_)⟩
      · rcases (hws x hx).2 with rfl | ⟨z, -⟩
        · exact ne_exa PE2 (HC2 _ q).2.1 (by decide) rfl
        · exact ne_exa z (HC2 _ q).2.1 (by decide) rfl
      · rcases (hws x hx).2 with rfl | ⟨z, y⟩
        · exact ⟨o13, Or.inl PE2⟩
        · exact ⟨y, Or.inr (Or.inr z)⟩
    rcases st_1a hw O0 hx hby hml hown hret hlk hZ X1 e1 N1 pre1 g2 A2 with ⟨T2, lc2, b, -, X2, N2, K2, hsz, Eb, Fb, pre2⟩ | ⟨T2, lc2, b, -, X2, N2, K2, hsz, Eb, Fb, pre2⟩
    · obtain ⟨hbC, HC2, HL2, HA2⟩ := prep T2.heap b K2 hsz Eb Fb
      have O2 := O0.keep K2 all0
      obtain ⟨_, T3, L3, X3, hQ, st3⟩ := own_vb X2 hx hZ hown (y := yn6) (own_w hw 80 rfl) (own_w hw 81 rfl) (own_w hw 83 rfl) (own_w hw 82 rfl) (own_w hw 84 rfl) (w_2 hw) rfl (PE.keep K2) (argsL := [(.ref b)]) (rest := []) (m_afa l Z a0 hw [] o1 b o3 C (up mk b MX) k T2.heap n0 O2 HC2 hbC (up_s ..) (E3.keep K2).lt HL2 (by omega)) (g := (mkF m 45 #[.val (.ref o1), .val (.ref o2), .val (.ref o3), .val (.ref o4), .val (.ref o5), .val (.ref o6), .val (.int p7), .val (.int (p7 &&& (7 : Int32))), .val (.ref b), .unset] [(.ref b), (.ref o1)])) rfl (by rw [hml]; rfl) rfl (hb hby d9_45) (lenOf pd7 rfl) (W := 0) (c1 := 2) (s1 := 24)
      obtain ⟨rfl, NL, KK, HL3⟩ := hQ
      obtain ⟨O3, HC3, HA3⟩ := post T2.heap T3.heap b K2 O2 HC2 HA2 KK
      exact adds T3 _ T3.heap _ b O3 X3 rfl (Fr.app N2 NL) (fun t k => pre2 _ (st3 _ k)) hbC HC3 HL3 HA3
    · obtain ⟨hbC, HC2, HL2, HA2⟩ := prep T2.heap b K2 hsz Eb Fb
      have O2 := O0.keep K2 all0
      obtain ⟨_, T3, L3, X3, hQ, st3⟩ := own_vb X2 hx hZ hown (y := yn5) (own_w hw 60 rfl) (own_w hw 61 rfl) (own_w hw 63 rfl) (own_w hw 62 rfl) (own_w hw 64 rfl) (w_2 hw) rfl (PE.keep K2) (argsL := [(.ref b)]) (rest := []) (m_ala l Z a0 hw [] o1 b o3 C (up mk b MX) k T2.heap n0 O2 HC2 hbC (up_s ..) (E3.keep K2).lt HL2 (by omega)) (g := (mkF m 36 #[.val (.ref o1), .val (.ref o2), .val (.ref o3), .val (.ref o4), .val (.ref o5), .val (.ref o6), .val (.int p7), .val (.int (p7 &&& (7 : Int32))), .val (.ref b), .unset] [(.ref b), (.ref o1)])) rfl (by rw [hml]; rfl) rfl (hb hby d9_36) (lenOf pd7 rfl) (W := 0) (c1 := 2) (s1 := 24)
      obtain ⟨rfl, NL, KK, HL3⟩ := hQ
      obtain ⟨O3, HC3, HA3⟩ := post T2.heap T3.heap b K2 O2 HC2 HA2 KK
      obtain ⟨T4, lc4, X4, N4, e4, pre4⟩ := st_2a hw O3 hx hby hml hown hret hlk hZ X3 rfl (Fr.app N2 NL) (fun t k => pre2 _ (st3 _ k))
      exact adds T4 _ T3.heap _ b O3 X4 e4 N4 pre4 hbC HC3 HL3 HA3
set_option maxRecDepth 65536 in
set_option maxHeartbeats 40000000 in
theorem mv_0b {p : Program} {l : Launch} {e : Env} {s : State} {m : MethodId} {below : List Frame} {meth : Method} {c : Code} {E0 T0 : State} {locs : List Loc} {Z : State} {a0 : Array Value} (hw : HW a0 Z) {o1 : Addr} {p2 : Int32} {p3 : Int32} {p4 : Int32} {h0 : Heap} {n0 : Nat} (O0 : Old Z n0 h0)
    (hx : p.tables.exec = Jvm.exec) (hby : c.code = prog_41_method_10_code) (hml : c.maxLocals = 7) (hown : s.vm.findClass cn7 = some m.cls) (hret : meth.sig.returnType = none) (hlk : meth.locks = false) (hZ : Z.Warmed39 s.vm)
    (X0 : Stand p l e ({ frames := 1, cells := 1, slots := 33, locals := 13 } : Room) s m #[(.ref o1)] below meth c T0 locs 0 0) (e0 : T0.heap = h0) (N0 : Fr n0 locs) (pre0 : Go p e below T0 (mkF m 0 #[.val (.ref o1), .unset, .unset, .unset, .unset, .unset, .unset] []) E0) (g_o1 : n0 ≤ o1) (P0 : Exa Z h0 o1 cn7) (P1 : Fld Z h0 o1 cn7 "end" "I" (.int p2)) (P2 : Fld Z h0 o1 cn7 "first" "I" (.int p3)) (P3 : Fld Z h0 o1 cn7 "removed" "I" (.int p4)) :
    (∃ (T' : State) (lc : List Loc), Stand p l e ({ frames := 1, cells := 1, slots := 33, locals := 13 } : Room) s m #[(.ref o1)] below meth c T' lc 0 0 ∧ Fr n0 lc ∧ T'.heap = h0 ∧ Go p e below T' (mkF m 5 #[.val (.ref o1), .val (.int ((p2 - p3) - p4)), .unset, .unset, .unset, .unset, .unset] []) E0) := by
 obtain ⟨_, T1, L1, X1, hQ1, st1⟩ := yv X0 hx hZ hown hby hml (y := yn0) (own_w hw 69 rfl) (own_w hw 20 rfl) (own_w hw 22 rfl) (own_w hw 21 rfl) (own_w hw 23 rfl) (w_2 hw) e0 P0 [] [] (rm1 l Z a0 hw [] o1 p2 p3 p4 h0 n0 O0 g_o1 P1 P2 P3) 1 #[.val (.ref o1), .unset, .unset, .unset, .unset, .unset, .unset] rfl d4_1 (lenOf pd3 rfl) 0 0 0
 obtain ⟨rfl, Nq2, e3⟩ := hQ1
 have N1 := Fr.app N0 Nq2
 have pre4 : Go p e below T1 (mkF m 5 #[.val (.ref o1), .val (.int ((p2 - p3) - p4)), .unset, .unset, .unset, .unset, .unset] []) E0 := fun t k => by
  refine pre0 _ ?_
  refine yan X0 hx hby d4_0 rfl rfl ?_
  refine st1 _ ?_
  refine yit X1 hx hby d4_4 (l' := #[.val (.ref o1), .val (.int ((p2 - p3) - p4)), .unset, .unset, .unset, .unset, .unset]) rfl ?_
  exact k
 exact ⟨_, _, X1, N1, e3, pre4⟩
set_option maxRecDepth 65536 in
set_option maxHeartbeats 40000000 in
theorem mv_1b {p : Program} {l : Launch} {e : Env} {s : State} {m : MethodId} {below : List Frame} {meth : Method} {c : Code} {E0 T0 : State} {locs : List Loc} {Z : State} {a0 : Array Value} (hw : HW a0 Z) {o1 : Addr} {p5 : Int32} {h0 : Heap} {n0 : Nat} (O0 : Old Z n0 h0)
    (hx : p.tables.exec = Jvm.exec) (hby : c.code = prog_41_method_10_code) (hml : c.maxLocals = 7) (hown : s.vm.findClass cn7 = some m.cls) (hret : meth.sig.returnType = none) (hlk : meth.locks = false) (hZ : Z.Warmed39 s.vm)
    (X0 : Stand p l e ({ frames := 1, cells := 1, slots := 33, locals := 13 } : Room) s m #[(.ref o1)] below meth c T0 locs 0 0) (e0 : T0.heap = h0) (N0 : Fr n0 locs) (pre0 : Go p e below T0 (mkF m 5 #[.val (.ref o1), .val (.int p5), .unset, .unset, .unset, .unset, .unset] []) E0) :
    (∃ (T' : State) (lc : List Loc), ((4 : Int32) < p5) ∧ Stand p l e ({ frames := 1, cells := 1, slots := 33, locals := 13 } : Room) s m #[(.ref o1)] below meth c T' lc 0 0 ∧ Fr n0 lc ∧ T'.heap = h0 ∧ Go p e below T' (mkF m 11 #[.val (.ref o1), .val (.int p5), .val (.int p5), .unset, .unset, .unset, .unset] []) E0)
    ∨ (∃ (T' : State) (lc : List Loc), (¬ ((4 : Int32) < p5)) ∧ Stand p l e ({ frames := 1, cells := 1, slots := 33, locals := 13 } : Room) s m #[(.ref o1)] below meth c T' lc 0 0 ∧ Fr n0 lc ∧ T'.heap = h0 ∧ Go p e below T' (mkF m 11 #[.val (.ref o1), .val (.int p5), .val (.int 4), .unset, .unset, .unset, .unset] []) E0) := by
 obtain ⟨_, T1, L1, X1, hQ1, st1⟩ := own_cs X0 hx hZ hown (y := yn3) (own_w hw 70 rfl) (own_w hw 71 rfl) (own_w hw 73 rfl) (own_w hw 72 rfl) e0 (argsL := [(.int 4), (.int p5)]) (rest := []) (rm4 l Z a0 hw [] ((4 : Int32)) p5 h0 n0 O0 ) (g := (mkF m 7 #[.val (.ref o1), .val (.int p5), .unset, .unset, .unset, .unset, .unset] [(.int p5), (.int 4)])) rfl (by rw [hml]; rfl) rfl (hb hby d4_7) (lenOf pd4 rfl) (W := 0) (c1 := 0) (s1 := 0)
 have pre2 : Go p e below T0 (mkF m 7 #[.val (.ref o1), .val (.int p5), .unset, .unset, .unset, .unset, .unset] [(.int p5), (.int 4)]) E0 := fun t k => by
  refine pre0 _ ?_
  refine yic X0 hx hby d4_5 ?_
  refine yin X0 hx hby d4_6 rfl ?_
  exact k
 rcases hQ1 with ⟨hc3, rfl, Nq4, e5⟩ | ⟨hc6, rfl, Nq7, e8⟩
 ·
  have N1 := Fr.app N0 Nq4
  have pre9 : Go p e below T1 (mkF m 11 #[.val (.ref o1), .val (.int p5), .val (.int p5), .unset, .unset, .unset, .unset] []) E0 := fun t k => by
   refine pre2 _ ?_
   refine st1 _ ?_
   refine yit X1 hx hby d4_10 (l' := #[.val (.ref o1), .val (.int p5), .val (.int p5), .unset, .unset, .unset, .unset]) rfl ?_
   exact k
  exact (Or.inl ⟨_, _, hc3, X1, N1, e5, pre9⟩)
 ·
  have N1 := Fr.app N0 Nq7
  have pre10 : Go p e below T1 (mkF m 11 #[.val (.ref o1), .val (.int p5), .val (.int 4), .unset, .unset, .unset, .unset] []) E0 := fun t k => by
   refine pre2 _ ?_
   refine st1 _ ?_
   refine yit X1 hx hby d4_10 (l' := #[.val (.ref o1), .val (.int p5), .val (.int 4), .unset, .unset, .unset, .unset]) rfl ?_
   exact k
  exact (Or.inr ⟨_, _, hc6, X1, N1, e8, pre10⟩)
set_option maxRecDepth 65536 in
set_option maxHeartbeats 40000000 in
theorem mv_2b {p : Program} {l : Launch} {e : Env} {s : State} {m : MethodId} {below : List Frame} {meth : Method} {c : Code} {E0 T0 : State} {locs : List Loc} {Z : State} {a0 : Array Value} (hw : HW a0 Z) {o1 : Addr} {p7 : Int32} {p5 : Int32} {p6 : Int32} {h0 : Heap} {n0 : Nat} (O0 : Old Z n0 h0)
    (hx : p.tables.exec = Jvm.exec) (hby : c.code = prog_41_method_10_code) (hml : c.maxLocals = 7) (hown : s.vm.findClass cn7 = some m.cls) (hret : meth.sig.returnType = none) (hlk : meth.locks = false) (hZ : Z.Warmed39 s.vm)
    (X0 : Stand p l e ({ frames := 1, cells := 1, slots := 33, locals := 13 } : Room) s m #[(.ref o1)] below meth c T0 locs 0 0) (e0 : T0.heap = h0) (N0 : Fr n0 locs) (pre0 : Go p e below T0 (mkF m 11 #[.val (.ref o1), .val (.int p5), .val (.int p6), .unset, .unset, .unset, .unset] []) E0) (P1 : Fld Z h0 o1 cn7 "addsFirst" "Z" (.int p7)) :
    (∃ (T' : State) (lc : List Loc), (p7 = (0 : Int32)) ∧ Stand p l e ({ frames := 1, cells := 1, slots := 33, locals := 13 } : Room) s m #[(.ref o1)] below meth c T' lc 0 0 ∧ Fr n0 lc ∧ T'.heap = h0 ∧ Go p e below T' (mkF m 24 #[.val (.ref o1), .val (.int p5), .val (.int p6), .val (.int 0), .unset, .unset, .unset] []) E0)
    ∨ (∃ (T' : State) (lc : List Loc), (¬ (p7 = (0 : Int32))) ∧ Stand p l e ({ frames := 1, cells := 1, slots := 33, locals := 13 } : Room) s m #[(.ref o1)] below meth c T' lc 0 0 ∧ Fr n0 lc ∧ T'.heap = h0 ∧ Go p e below T' (mkF m 24 #[.val (.ref o1), .val (.int p5), .val (.int p6), .val (.int p6), .unset, .unset, .unset] []) E0) := by
 obtain ⟨T1, X1, e1, st1⟩ := yag X0 hx hZ hown hby (own_w hw 74 rfl) e0 P1 11 #[.val (.ref o1), .val (.int p5), .val (.int p6), .unset, .unset, .unset, .unset] [] d4_11 d4_12 rfl
 have pre2 : Go p e below T1 (mkF m 15 #[.val (.ref o1), .val (.int p5), .val (.int p6), .unset, .unset, .unset, .unset] [(.int p7)]) E0 := fun t k => by
  refine pre0 _ ?_
  refine st1 _ ?_
  exact k
 by_cases hc3 : p7 = (0 : Int32)
 ·
  have pre4 : Go p e below T1 (mkF m 15 #[.val (.ref o1), .val (.int p5), .val (.int p6), .unset, .unset, .unset, .unset] [(.int 0)]) E0 := fun t k => pre2 t (by rw [hc3]; exact k)
  have pre5 : Go p e below T1 (mkF m 24 #[.val (.ref o1), .val (.int p5), .val (.int p6), .val (.int 0), .unset, .unset, .unset] []) E0 := fun t k => by
   refine pre4 _ ?_
   refine XS.ifYes X1.here hx rfl (pc0 := 15) (pc' := 22) rfl (hb hby d4_15) rfl ((if0 _ _).trans (teq (by decide : (0 : Int32) = (0 : Int32))).1) (by decide) (by decide) ?_
   refine yic X1 hx hby d4_22 ?_
   refine yit X1 hx hby d4_23 (l' := #[.val (.ref o1), .val (.int p5), .val (.int p6), .val (.int 0), .unset, .unset, .unset]) rfl ?_
   exact k
  exact (Or.inl ⟨_, _, hc3, X1, N0, e1, pre5⟩)
 ·
  have pre6 : Go p e below T1 (mkF m 24 #[.val (.ref o1), .val (.int p5), .val (.int p6), .val (.int p6), .unset, .unset, .unset] []) E0 := fun t k => by
   refine pre2 _ ?_
   refine yfn X1 hx hby d4_15 ((if0 _ _).trans (feq hc3).1) ?_
   refine yin X1 hx hby d4_18 rfl ?_
   refine ygo X1 hx hby 19 23 rfl d4_19 (by decide) ?_
   refine yit X1 hx hby d4_23 (l' := #[.val (.ref o1), .val (.int p5), .val (.int p6), .val (.int p6), .unset, .unset, .unset]) rfl ?_
   exact k
  exact (Or.inr ⟨_, _, hc3, X1, N0, e1, pre6⟩)
set_option maxRecDepth 65536 in
set_option maxHeartbeats 40000000 in
theorem mv_3b {p : Program} {l : Launch} {e : Env} {s : State} {m : MethodId} {below : List Frame} {meth : Method} {c : Code} {E0 T0 : State} {locs : List Loc} {Z : State} {a0 : Array Value} (hw : HW a0 Z) {o1 : Addr} {p5 : Int32} {p6 : Int32} {p8 : Int32} {h0 : Heap} {n0 : Nat} (O0 : Old Z n0 h0)
    (hx : p.tables.exec = Jvm.exec) (hby : c.code = prog_41_method_10_code) (hml : c.maxLocals = 7) (hown : s.vm.findClass cn7 = some m.cls) (hret : meth.sig.returnType = none) (hlk : meth.locks = false) (hZ : Z.Warmed39 s.vm)
    (X0 : Stand p l e ({ frames := 1, cells := 1, slots := 33, locals := 13 } : Room) s m #[(.ref o1)] below meth c T0 locs 0 0) (e0 : T0.heap = h0) (N0 : Fr n0 locs) (pre0 : Go p e below T0 (mkF m 24 #[.val (.ref o1), .val (.int p5), .val (.int p6), .val (.int p8), .unset, .unset, .unset] []) E0) :
    (∃ (T' : State) (lc : List Loc), Stand p l e ({ frames := 1, cells := 1, slots := 33, locals := 13 } : Room) s m #[(.ref o1)] below meth c T' lc 0 0 ∧ Fr n0 lc ∧ T'.heap = h0 ∧ Go p e below T' (mkF m 29 #[.val (.ref o1), .val (.int p5), .val (.int p6), .val (.int p8), .unset, .unset, .unset] [(.int ((p8 + p5) + p6))]) E0) := by
 have pre1 : Go p e below T0 (mkF m 29 #[.val (.ref o1), .val (.int p5), .val (.int p6), .val (.int p8), .unset, .unset, .unset] [(.int ((p8 + p5) + p6))]) E0 := fun t k => by
  refine pre0 _ ?_
  refine yin X0 hx hby d4_24 rfl ?_
  refine yin X0 hx hby d4_25 rfl ?_
  refine yad X0 hx hby d4_26 ?_
  refine yin X0 hx hby d4_27 rfl ?_
  refine yad X0 hx hby d4_28 ?_
  exact k
 exact ⟨_, _, X0, N0, e0, pre1⟩
set_option maxRecDepth 65536 in
set_option maxHeartbeats 40000000 in
theorem mv_4b {p : Program} {l : Launch} {e : Env} {s : State} {m : MethodId} {below : List Frame} {meth : Method} {c : Code} {E0 T0 : State} {locs : List Loc} {Z : State} {a0 : Array Value} (hw : HW a0 Z) {p9 : Int32} {o1 : Addr} {p3 : Int32} {p5 : Int32} {p6 : Int32} {p8 : Int32} {h0 : Heap} {n0 : Nat} (O0 : Old Z n0 h0)
    (hx : p.tables.exec = Jvm.exec) (hby : c.code = prog_41_method_10_code) (hml : c.maxLocals = 7) (hown : s.vm.findClass cn7 = some m.cls) (hret : meth.sig.returnType = none) (hlk : meth.locks = false) (hZ : Z.Warmed39 s.vm)
    (X0 : Stand p l e ({ frames := 1, cells := 1, slots := 33, locals := 13 } : Room) s m #[(.ref o1)] below meth c T0 locs 0 0) (e0 : T0.heap = h0) (N0 : Fr n0 locs) (pre0 : Go p e below T0 (mkF m 29 #[.val (.ref o1), .val (.int p5), .val (.int p6), .val (.int p8), .unset, .unset, .unset] [(.int p9)]) E0) (bd_p9 : 0 ≤ p9.toInt ∧ p9.toInt ≤ 33) (P1 : Fld Z h0 o1 cn7 "first" "I" (.int p3)) :
    (∃ (T' : State) (lc : List Loc) (b2 : Addr) (k2 : ClassId), Stand p l e ({ frames := 1, cells := 1, slots := 33, locals := 13 } : Room) s m #[(.ref o1)] below meth c T' lc 1 33 ∧ Fr n0 lc ∧ Keep h0 T'.heap [] ∧ h0.size ≤ b2 ∧ Ovr Z k2 cn6 ∧ (Arv Z T'.heap b2 k2 (.object cn6) p9 [] .null) ∧ (Exa Z T'.heap b2 cn3) ∧ Go p e below T' (mkF m 43 #[.val (.ref o1), .val (.int p5), .val (.int p6), .val (.int p8), .val (.ref b2), .val (.int p8), .val (.int p3)] []) E0) := by
 have nn1 : ¬ (p9 < (0 : Int32)) := own_gnlt1 (n := 0) (k := (0 : Int32)) (by decide) (by have q0 := bd_p9; omega)
 obtain ⟨T2, h2, k2, X2, e2, E2, A2, EX2, OV2, st2⟩ := newRE X0 hx hZ hown (own_w hw 76 rfl) (own_w hw 16 rfl) e0 (g := (mkF m 29 #[.val (.ref o1), .val (.int p5), .val (.int p6), .val (.int p8), .unset, .unset, .unset] [(.int p9)])) rfl (hb hby d4_29) rfl nn1 (cap := 33) (by have q0 := bd_p9; simp only [Int32.toNatClampNeg]; omega) (by decide) (by decide) (by decide) (ad := cn3) (by decide)
 obtain ⟨b2, g2⟩ : ∃ z, z = h0.size := ⟨_, rfl⟩
 rw [← g2] at A2 EX2 st2
 have sz_b2 : h0.size ≤ b2 := Nat.le_of_eq g2.symm
 have V2_0 := Arv.new A2 nn1
 have V2 : Arv Z h2 b2 k2 (.object cn6) p9 [] .null := V2_0
 have f3 := (P1.ext E2)
 obtain ⟨T4, X4, e4, st4⟩ := yag X2 hx hZ hown hby (w_26 hw) e2 f3 37 #[.val (.ref o1), .val (.int p5), .val (.int p6), .val (.int p8), .val (.ref b2), .val (.int p8), .unset] [] d4_37 d4_38 rfl
 have pre5 : Go p e below T4 (mkF m 43 #[.val (.ref o1), .val (.int p5), .val (.int p6), .val (.int p8), .val (.ref b2), .val (.int p8), .val (.int p3)] []) E0 := fun t k => by
  refine pre0 _ ?_
  refine st2 _ ?_
  refine XS.astore X2.here hx rfl (hb hby d4_32) rfl rfl (l' := #[.val (.ref o1), .val (.int p5), .val (.int p6), .val (.int p8), .val (.ref b2), .unset, .unset]) rfl ?_
  refine yin X2 hx hby d4_34 rfl ?_
  refine yis X2 hx hby d4_35 (l' := #[.val (.ref o1), .val (.int p5), .val (.int p6), .val (.int p8), .val (.ref b2), .val (.int p8), .unset]) rfl ?_
  refine st4 _ ?_
  refine yis X4 hx hby d4_41 (l' := #[.val (.ref o1), .val (.int p5), .val (.int p6), .val (.int p8), .val (.ref b2), .val (.int p8), .val (.int p3)]) rfl ?_
  exact k
 have KL : Keep h0 h2 [] := ((Keep.refl h0 []).ext E2)
 exact ⟨_, _, b2, k2, X4, N0, (by rw [e4]; exact KL), (Nat.le_trans (Nat.le_refl _) sz_b2), OV2, (by rw [e4]; exact V2), (by rw [e4]; exact EX2), pre5⟩
set_option maxRecDepth 65536 in
set_option maxHeartbeats 40000000 in
theorem mv_5b {p : Program} {l : Launch} {e : Env} {s : State} {m : MethodId} {below : List Frame} {meth : Method} {c : Code} {E0 T0 : State} {locs : List Loc} {Z : State} {a0 : Array Value} (hw : HW a0 Z) {o7 : Addr} {o6 : Addr} {kc9 : ClassId} {p11 : Int32} {p4 : Int32} {p9 : Int32} {p10 : Int32} {p12 : Int32} {q7 : Int64} {o1 : Addr} {o5 : Addr} {kc8 : ClassId} {p5 : Int32} {p6 : Int32} {p8 : Int32} {vs : List Value} {vs2 : List Value} {ix1 : Nat} {h0 : Heap} {n0 : Nat} (O0 : Old Z n0 h0)
    (hx : p.tables.exec = Jvm.exec) (hby : c.code = prog_41_method_10_code) (hml : c.maxLocals = 7) (hown : s.vm.findClass cn7 = some m.cls) (hret : meth.sig.returnType = none) (hlk : meth.locks = false) (hZ : Z.Warmed39 s.vm)
    (X0 : Stand p l e ({ frames := 1, cells := 1, slots := 33, locals := 13 } : Room) s m #[(.ref o1)] below meth c T0 locs 1 33) (e0 : T0.heap = h0) (N0 : Fr n0 locs) (pre0 : Go p e below T0 (mkF m 43 #[.val (.ref o1), .val (.int p5), .val (.int p6), .val (.int p8), .val (.ref o7), .val (.int p10), .val (.int p11)] []) E0) (g_o7 : n0 ≤ o7) (g_o6 : n0 ≤ o6) (Ov_kc9 : Ovr Z kc9 cn6) (hp0 : p11 < p4) (hp1 : ¬ (p11 < (0 : Int32))) (hp2 : p11 < p9) (hp3 : ¬ (p10 < (0 : Int32))) (hp4 : p10 < p12) (hp5 : q7 = (9223372036854775807 : Int64)) (P1 : Fld Z h0 o1 cn7 "end" "I" (.int p4)) (P2 : Fld Z h0 o1 cn7 "slots" cn3 (.ref o5)) (P3 : Arv Z h0 o5 kc8 (.object cn6) p9 vs .null) (P4 : Exa Z h0 o6 cn6) (P5 : Fld Z h0 o6 cn6 "removed" "J" (.long q7)) (P6 : Arv Z h0 o7 kc9 (.object cn6) p12 vs2 .null) (P7 : Exa Z h0 o7 cn3) (hrd : vs.getD p11.toNatClampNeg .null = .ref o6) (hj : p10.toNatClampNeg = ix1) (hi : ix1 < vs2.length) :
    (∃ (T' : State) (lc : List Loc), Stand p l e ({ frames := 1, cells := 1, slots := 33, locals := 13 } : Room) s m #[(.ref o1)] below meth c T' lc 1 33 ∧ Fr n0 lc ∧ Keep h0 T'.heap [o7] ∧ (Arv Z T'.heap o7 kc9 (.object cn6) p12 (vs2.set ix1 (.ref o6)) .null) ∧ (Exa Z T'.heap o7 cn3) ∧ Go p e below T' (mkF m 43 #[.val (.ref o1), .val (.int p5), .val (.int p6), .val (.int p8), .val (.ref o7), .val (.int (p10 + (1 : Int32))), .val (.int (p11 + (1 : Int32)))] []) E0) := by
 obtain ⟨T1, X1, e1, st1⟩ := yag X0 hx hZ hown hby (w_24 hw) e0 P1 45 #[.val (.ref o1), .val (.int p5), .val (.int p6), .val (.int p8), .val (.ref o7), .val (.int p10), .val (.int p11)] [(.int p11)] d4_45 d4_46 rfl
 obtain ⟨T2, X2, e2, st2⟩ := yag X1 hx hZ hown hby (own_w hw 11 rfl) e1 P2 52 #[.val (.ref o1), .val (.int p5), .val (.int p6), .val (.int p8), .val (.ref o7), .val (.int p10), .val (.int p11)] [] d4_52 d4_53 rfl
 obtain ⟨cl3, Ar3, qa3, Sa3, Na3, Ha3, Ga3⟩ := id (P3)
 have hin3 := inb_of (j := p11) Sa3 ⟨hp1, hp2⟩
 have hat3 : cl3.slots[(p11).toNatClampNeg]? = some (.ref o6) := Has.at Ha3 hin3 hrd
 obtain ⟨_, T4, L4, X4, hQ4, st4⟩ := yv X2 hx hZ hown hby hml (y := yn1) (own_w hw 85 rfl) (own_w hw 86 rfl) (own_w hw 88 rfl) (own_w hw 87 rfl) (own_w hw 89 rfl) (own_w hw 36 rfl) e2 P4 [] [] (rm2 l Z a0 hw [] o6 q7 h0 n0 O0 g_o6 P5) 59 #[.val (.ref o1), .val (.int p5), .val (.int p6), .val (.int p8), .val (.ref o7), .val (.int p10), .val (.int p11)] rfl d4_59 (lenOf pd1 rfl) 0 1 33
 have pre5 : Go p e below T2 (mkF m 59 #[.val (.ref o1), .val (.int p5), .val (.int p6), .val (.int p8), .val (.ref o7), .val (.int p10), .val (.int p11)] [(.ref o6)]) E0 := fun t k => by
  refine pre0 _ ?_
  refine yil X0 hx hby d4_43 rfl ?_
  refine st1 _ ?_
  refine yno X1 hx hby d4_49 (tlt hp0).2.1 ?_
  refine st2 _ ?_
  refine yil X2 hx hby d4_56 rfl ?_
  refine X2.aaload hx (j := p11) (v := (.ref o6)) (by rw [e2]; exact Ar3.1) (State.isArrayOf_alike hZ.alike Ar3.2.1) rfl Ar3.2.2 hin3 hat3 (g := (mkF m 58 #[.val (.ref o1), .val (.int p5), .val (.int p6), .val (.int p8), .val (.ref o7), .val (.int p10), .val (.int p11)] [(.int p11), (.ref o5)])) rfl rfl (hb hby d4_58) _ ?_
  exact k
 rcases hQ4 with ⟨hc6, rfl, Nq7, e8⟩ | ⟨hc9, rfl, Nq10, e11⟩
 ·
  have N4 := Fr.app N0 Nq7
  obtain ⟨T12, X12, e12, st12⟩ := yag X4 hx hZ hown hby (own_w hw 11 rfl) e8 P2 69 #[.val (.ref o1), .val (.int p5), .val (.int p6), .val (.int p8), .val (.ref o7), .val (.int p10), .val (.int p11)] [(.int p10), (.ref o7)] d4_69 d4_70 rfl
  obtain ⟨cl13, Ar13, qa13, Sa13, Na13, Ha13, Ga13⟩ := id (P3)
  have hin13 := inb_of (j := p11) Sa13 ⟨hp1, hp2⟩
  have hat13 : cl13.slots[(p11).toNatClampNeg]? = some (.ref o6) := Has.at Ha13 hin13 hrd
  obtain ⟨cl14, Ar14, qa14, Sa14, Na14, Ha14, Ga14⟩ := id (P6)
  have hin14 := inb_of (j := p10) Sa14 ⟨hp3, hp4⟩
  obtain ⟨T15, h15, X15, e15, W15, st15⟩ := stR X12 hx hZ e12 Ar14 (j := p10) hin14 rfl (Sto.ofV Ar14 qa14 Ov_kc9 (Ins.self P4)) (g := (mkF m 76 #[.val (.ref o1), .val (.int p5), .val (.int p6), .val (.int p8), .val (.ref o7), .val (.int p10), .val (.int p11)] [(.ref o6), (.int p10), (.ref o7)])) rfl rfl (hb hby d4_76)
  have V15 : Arv Z h15 o7 kc9 (.object cn6) p12 (vs2.set ix1 (.ref o6)) .null := Arv.set Ar14 qa14 Sa14 Na14 Ha14 Ga14 rfl W15 ix1 hj hi
  have N15 := Fr.snoc X15 N4 g_o7
  have pre16 : Go p e below T15 (mkF m 43 #[.val (.ref o1), .val (.int p5), .val (.int p6), .val (.int p8), .val (.ref o7), .val (.int (p10 + (1 : Int32))), .val (.int (p11 + (1 : Int32)))] []) E0 := fun t k => by
   refine pre5 _ ?_
   refine st4 _ ?_
   refine yfn X4 hx hby d4_62 ((if0 _ _).trans (feq (by decide : ¬ ((1 : Int32) = (0 : Int32)))).1) ?_
   refine yal X4 hx hby d4_65 rfl rfl ?_
   refine yil X4 hx hby d4_67 rfl ?_
   refine st12 _ ?_
   refine yil X12 hx hby d4_73 rfl ?_
   refine X12.aaload hx (j := p11) (v := (.ref o6)) (by rw [e12]; exact Ar13.1) (State.isArrayOf_alike hZ.alike Ar13.2.1) rfl Ar13.2.2 hin13 hat13 (g := (mkF m 75 #[.val (.ref o1), .val (.int p5), .val (.int p6), .val (.int p8), .val (.ref o7), .val (.int p10), .val (.int p11)] [(.int p11), (.ref o5), (.int p10), (.ref o7)])) rfl rfl (hb hby d4_75) _ ?_
   refine st15 _ ?_
   refine XS.iinc X15.here hx rfl (hb hby d4_77) rfl (l' := #[.val (.ref o1), .val (.int p5), .val (.int p6), .val (.int p8), .val (.ref o7), .val (.int (p10 + (1 : Int32))), .val (.int p11)]) rfl ?_
   refine XS.iinc X15.here hx rfl (hb hby d4_80) rfl (l' := #[.val (.ref o1), .val (.int p5), .val (.int p6), .val (.int p8), .val (.ref o7), .val (.int (p10 + (1 : Int32))), .val (.int (p11 + (1 : Int32)))]) rfl ?_
   refine ygo X15 hx hby 83 43 rfl d4_83 (by decide) ?_
   exact k
  have KL : Keep h0 h15 [o7] := ((Keep.refl h0 [o7]).wr W15 (Or.inl (List.mem_of_getElem? (i := 0) rfl)))
  have f17 := (P7.wr W15)
  exact ⟨_, _, X15, N15, (by rw [e15]; exact KL), (by rw [e15]; exact V15), (by rw [e15]; exact f17), pre16⟩
 ·
  exact absurd hp5 hc9
set_option maxRecDepth 65536 in
set_option maxHeartbeats 40000000 in
theorem mv_8b {p : Program} {l : Launch} {e : Env} {s : State} {m : MethodId} {below : List Frame} {meth : Method} {c : Code} {E0 T0 : State} {locs : List Loc} {Z : State} {a0 : Array Value} (hw : HW a0 Z) {o6 : Addr} {p11 : Int32} {p4 : Int32} {p9 : Int32} {q7 : Int64} {o1 : Addr} {o5 : Addr} {kc8 : ClassId} {p5 : Int32} {p6 : Int32} {p8 : Int32} {o7 : Addr} {p10 : Int32} {vs : List Value} {h0 : Heap} {n0 : Nat} (O0 : Old Z n0 h0)
    (hx : p.tables.exec = Jvm.exec) (hby : c.code = prog_41_method_10_code) (hml : c.maxLocals = 7) (hown : s.vm.findClass cn7 = some m.cls) (hret : meth.sig.returnType = none) (hlk : meth.locks = false) (hZ : Z.Warmed39 s.vm)
    (X0 : Stand p l e ({ frames := 1, cells := 1, slots := 33, locals := 13 } : Room) s m #[(.ref o1)] below meth c T0 locs 1 33) (e0 : T0.heap = h0) (N0 : Fr n0 locs) (pre0 : Go p e below T0 (mkF m 43 #[.val (.ref o1), .val (.int p5), .val (.int p6), .val (.int p8), .val (.ref o7), .val (.int p10), .val (.int p11)] []) E0) (g_o6 : n0 ≤ o6) (hp0 : p11 < p4) (hp1 : ¬ (p11 < (0 : Int32))) (hp2 : p11 < p9) (hp3 : ¬ (q7 = (9223372036854775807 : Int64))) (P1 : Fld Z h0 o1 cn7 "end" "I" (.int p4)) (P2 : Fld Z h0 o1 cn7 "slots" cn3 (.ref o5)) (P3 : Arv Z h0 o5 kc8 (.object cn6) p9 vs .null) (P4 : Exa Z h0 o6 cn6) (P5 : Fld Z h0 o6 cn6 "removed" "J" (.long q7)) (hrd : vs.getD p11.toNatClampNeg .null = .ref o6) :
    (∃ (T' : State) (lc : List Loc), Stand p l e ({ frames := 1, cells := 1, slots := 33, locals := 13 } : Room) s m #[(.ref o1)] below meth c T' lc 1 33 ∧ Fr n0 lc ∧ T'.heap = h0 ∧ Go p e below T' (mkF m 43 #[.val (.ref o1), .val (.int p5), .val (.int p6), .val (.int p8), .val (.ref o7), .val (.int p10), .val (.int (p11 + (1 : Int32)))] []) E0) := by
 obtain ⟨T1, X1, e1, st1⟩ := yag X0 hx hZ hown hby (w_24 hw) e0 P1 45 #[.val (.ref o1), .val (.int p5), .val (.int p6), .val (.int p8), .val (.ref o7), .val (.int p10), .val (.int p11)] [(.int p11)] d4_45 d4_46 rfl
 obtain ⟨T2, X2, e2, st2⟩ := yag X1 hx hZ hown hby (own_w hw 11 rfl) e1 P2 52 #[.val (.ref o1), .val (.int p5), .val (.int p6), .val (.int p8), .val (.ref o7), .val (.int p10), .val (.int p11)] [] d4_52 d4_53 rfl
 obtain ⟨cl3, Ar3, qa3, Sa3, Na3, Ha3, Ga3⟩ := id (P3)
 have hin3 := inb_of (j := p11) Sa3 ⟨hp1, hp2⟩
 have hat3 : cl3.slots[(p11).toNatClampNeg]? = some (.ref o6) := Has.at Ha3 hin3 hrd
 obtain ⟨_, T4, L4, X4, hQ4, st4⟩ := yv X2 hx hZ hown hby hml (y := yn1) (own_w hw 85 rfl) (own_w hw 86 rfl) (own_w hw 88 rfl) (own_w hw 87 rfl) (own_w hw 89 rfl) (own_w hw 36 rfl) e2 P4 [] [] (rm2 l Z a0 hw [] o6 q7 h0 n0 O0 g_o6 P5) 59 #[.val (.ref o1), .val (.int p5), .val (.int p6), .val (.int p8), .val (.ref o7), .val (.int p10), .val (.int p11)] rfl d4_59 (lenOf pd1 rfl) 0 1 33
 have pre5 : Go p e below T2 (mkF m 59 #[.val (.ref o1), .val (.int p5), .val (.int p6), .val (.int p8), .val (.ref o7), .val (.int p10), .val (.int p11)] [(.ref o6)]) E0 := fun t k => by
  refine pre0 _ ?_
  refine yil X0 hx hby d4_43 rfl ?_
  refine st1 _ ?_
  refine yno X1 hx hby d4_49 (tlt hp0).2.1 ?_
  refine st2 _ ?_
  refine yil X2 hx hby d4_56 rfl ?_
  refine X2.aaload hx (j := p11) (v := (.ref o6)) (by rw [e2]; exact Ar3.1) (State.isArrayOf_alike hZ.alike Ar3.2.1) rfl Ar3.2.2 hin3 hat3 (g := (mkF m 58 #[.val (.ref o1), .val (.int p5), .val (.int p6), .val (.int p8), .val (.ref o7), .val (.int p10), .val (.int p11)] [(.int p11), (.ref o5)])) rfl rfl (hb hby d4_58) _ ?_
  exact k
 rcases hQ4 with ⟨hc6, rfl, Nq7, e8⟩ | ⟨hc9, rfl, Nq10, e11⟩
 ·
  exact absurd hc6 hp3
 ·
  have N4 := Fr.app N0 Nq10
  have pre12 : Go p e below T4 (mkF m 43 #[.val (.ref o1), .val (.int p5), .val (.int p6), .val (.int p8), .val (.ref o7), .val (.int p10), .val (.int (p11 + (1 : Int32)))] []) E0 := fun t k => by
   refine pre5 _ ?_
   refine st4 _ ?_
   refine XS.ifYes X4.here hx rfl (pc0 := 62) (pc' := 80) rfl (hb hby d4_62) rfl ((if0 _ _).trans (teq (by decide : (0 : Int32) = (0 : Int32))).1) (by decide) (by decide) ?_
   refine XS.iinc X4.here hx rfl (hb hby d4_80) rfl (l' := #[.val (.ref o1), .val (.int p5), .val (.int p6), .val (.int p8), .val (.ref o7), .val (.int p10), .val (.int (p11 + (1 : Int32)))]) rfl ?_
   refine ygo X4 hx hby 83 43 rfl d4_83 (by decide) ?_
   exact k
  exact ⟨_, _, X4, N4, e11, pre12⟩
set_option maxRecDepth 65536 in
set_option maxHeartbeats 40000000 in
theorem mv_6b {p : Program} {l : Launch} {e : Env} {s : State} {m : MethodId} {below : List Frame} {meth : Method} {c : Code} {E0 T0 : State} {locs : List Loc} {Z : State} {a0 : Array Value} (hw : HW a0 Z) {p11 : Int32} {p4 : Int32} {o1 : Addr} {p5 : Int32} {p6 : Int32} {p8 : Int32} {o7 : Addr} {p10 : Int32} {h0 : Heap} {n0 : Nat} (O0 : Old Z n0 h0)
    (hx : p.tables.exec = Jvm.exec) (hby : c.code = prog_41_method_10_code) (hml : c.maxLocals = 7) (hown : s.vm.findClass cn7 = some m.cls) (hret : meth.sig.returnType = none) (hlk : meth.locks = false) (hZ : Z.Warmed39 s.vm)
    (X0 : Stand p l e ({ frames := 1, cells := 1, slots := 33, locals := 13 } : Room) s m #[(.ref o1)] below meth c T0 locs 1 33) (e0 : T0.heap = h0) (N0 : Fr n0 locs) (pre0 : Go p e below T0 (mkF m 43 #[.val (.ref o1), .val (.int p5), .val (.int p6), .val (.int p8), .val (.ref o7), .val (.int p10), .val (.int p11)] []) E0) (hp0 : ¬ (p11 < p4)) (P1 : Fld Z h0 o1 cn7 "end" "I" (.int p4)) :
    (∃ (T' : State) (lc : List Loc), Stand p l e ({ frames := 1, cells := 1, slots := 33, locals := 13 } : Room) s m #[(.ref o1)] below meth c T' lc 1 33 ∧ Fr n0 lc ∧ T'.heap = h0 ∧ Go p e below T' (mkF m 86 #[.val (.ref o1), .val (.int p5), .val (.int p6), .val (.int p8), .val (.ref o7), .val (.int p10), .val (.int p11)] []) E0) := by
 obtain ⟨T1, X1, e1, st1⟩ := yag X0 hx hZ hown hby (w_24 hw) e0 P1 45 #[.val (.ref o1), .val (.int p5), .val (.int p6), .val (.int p8), .val (.ref o7), .val (.int p10), .val (.int p11)] [(.int p11)] d4_45 d4_46 rfl
 have pre2 : Go p e below T1 (mkF m 86 #[.val (.ref o1), .val (.int p5), .val (.int p6), .val (.int p8), .val (.ref o7), .val (.int p10), .val (.int p11)] []) E0 := fun t k => by
  refine pre0 _ ?_
  refine yil X0 hx hby d4_43 rfl ?_
  refine st1 _ ?_
  refine yye X1 hx hby 49 86 rfl d4_49 (flt hp0).2.1 (by decide) ?_
  exact k
 exact ⟨_, _, X1, N0, e1, pre2⟩
def l555_0 (o1 : Addr) (p5 p6 p8 : Int32) (o7 : Addr) (p10 p11 : Int32) : Array Slot := #[.val (.ref o1), .val (.int p5), .val (.int p6), .val (.int p8), .val (.ref o7), .val (.int p10), .val (.int p11)]
set_option maxRecDepth 65536 in
set_option maxHeartbeats 40000000 in
theorem mv_7b {p : Program} {l : Launch} {e : Env} {s : State} {m : MethodId} {below : List Frame} {meth : Method} {c : Code} {E0 T0 : State} {locs : List Loc} {Z : State} {a0 : Array Value} (hw : HW a0 Z) {o1 : Addr} {o5 : Addr} {p13 : Int32} {p14 : Int32} {p15 : Int32} {p16 : Int32} {p17 : Int32} {p5 : Int32} {p6 : Int32} {p8 : Int32} {o7 : Addr} {p10 : Int32} {p11 : Int32} {h0 : Heap} {n0 : Nat} (O0 : Old Z n0 h0)
    (hx : p.tables.exec = Jvm.exec) (hby : c.code = prog_41_method_10_code) (hml : c.maxLocals = 7) (hown : s.vm.findClass cn7 = some m.cls) (hret : meth.sig.returnType = none) (hlk : meth.locks = false) (hZ : Z.Warmed39 s.vm)
    (X0 : Stand p l e ({ frames := 1, cells := 1, slots := 33, locals := 13 } : Room) s m #[(.ref o1)] below meth c T0 locs 1 33) (e0 : T0.heap = h0) (N0 : Fr n0 locs) (pre0 : Go p e below T0 (mkF m 86 (l555_0 o1 p5 p6 p8 o7 p10 p11) []) E0) (g_o1 : n0 ≤ o1) (P0 : Exa Z h0 o1 cn7) (P1 : Fld Z h0 o1 cn7 "slots" cn3 (.ref o5)) (P2 : Fld Z h0 o1 cn7 "low" "I" (.int p13)) (P3 : Fld Z h0 o1 cn7 "first" "I" (.int p14)) (P4 : Fld Z h0 o1 cn7 "end" "I" (.int p15)) (P5 : Fld Z h0 o1 cn7 "removed" "I" (.int p16)) (P6 : Fld Z h0 o1 cn7 "addsFirst" "Z" (.int p17)) :
    (∃ (s₂ : State) (L : List Loc), Steps p.tables e below E0 s₂ ∧ s₂.status = .running ∧ Ended s₂ below (.returned none) ∧ Fr n0 L ∧ FrameEnd s (.returned none) s₂ L 1 33 ∧ Keep h0 s₂.heap [o1] ∧ (Exa Z s₂.heap o1 cn7) ∧ (Fld Z s₂.heap o1 cn7 "addsFirst" "Z" (.int p17)) ∧ (Fld Z s₂.heap o1 cn7 "end" "I" (.int p10)) ∧ (Fld Z s₂.heap o1 cn7 "first" "I" (.int p8)) ∧ (Fld Z s₂.heap o1 cn7 "low" "I" (.int p8)) ∧ (Fld Z s₂.heap o1 cn7 "removed" "I" (.int 0)) ∧ (Fld Z s₂.heap o1 cn7 "slots" cn3 (.ref o7))) := by
 obtain ⟨T1, h1, X1, e1, W1, st1⟩ := yp X0 hx hZ hown hby (own_w hw 11 rfl) e0 P1 P0 (own_w hw 12 rfl) (w_1 hw) (ty := (.array (.object cn6))) (v := (.ref o7)) (by decide) rfl rfl 89 (l555_0 o1 p5 p6 p8 o7 p10 p11) [] d4_89
 have N1 := Fr.snoc X1 N0 g_o1
 have Fw1 := P1.same W1
 have f2 := (P2.other W1 (Or.inr (sn0 hw)))
 have f3 := (P0.wr W1)
 obtain ⟨T4, h4, X4, e4, W4, st4⟩ := yp X1 hx hZ hown hby (own_w hw 77 rfl) e1 f2 f3 (own_w hw 78 rfl) (w_1 hw) (ty := .int) (v := (.int p8)) (by decide) rfl rfl 94 (l555_0 o1 p5 p6 p8 o7 p10 p11) [] d4_94
 have N4 := Fr.snoc X4 N1 g_o1
 have Fw4 := f2.same W4
 have f5 := ((P3.other W1 (Or.inr (sn1 hw))).other W4 (Or.inr (sn2 hw)))
 have f6 := (f3.wr W4)
 obtain ⟨T7, h7, X7, e7, W7, st7⟩ := yp X4 hx hZ hown hby (w_26 hw) e4 f5 f6 (own_w hw 27 rfl) (w_1 hw) (ty := .int) (v := (.int p8)) (by decide) rfl rfl 99 (l555_0 o1 p5 p6 p8 o7 p10 p11) [] d4_99
 have N7 := Fr.snoc X7 N4 g_o1
 have Fw7 := f5.same W7
 have f8 := (((P4.other W1 (Or.inr (sn3 hw))).other W4 (Or.inr (sn4 hw))).other W7 (Or.inr (sn5 hw)))
 have f9 := (f6.wr W7)
 obtain ⟨T10, h10, X10, e10, W10, st10⟩ := yp X7 hx hZ hown hby (w_24 hw) e7 f8 f9 (own_w hw 25 rfl) (w_1 hw) (ty := .int) (v := (.int p10)) (by decide) rfl rfl 105 (l555_0 o1 p5 p6 p8 o7 p10 p11) [] d4_105
 have N10 := Fr.snoc X10 N7 g_o1
 have Fw10 := f8.same W10
 have f11 := ((((P5.other W1 (Or.inr (sn6 hw))).other W4 (Or.inr (sn7 hw))).other W7 (Or.inr (sn8 hw))).other W10 (Or.inr (sn9 hw)))
 have f12 := (f9.wr W10)
 obtain ⟨T13, h13, X13, e13, W13, st13⟩ := yp X10 hx hZ hown hby (own_w hw 28 rfl) e10 f11 f12 (own_w hw 29 rfl) (w_1 hw) (ty := .int) (v := (.int 0)) (by decide) rfl rfl 110 (l555_0 o1 p5 p6 p8 o7 p10 p11) [] d4_110
 have N13 := Fr.snoc X13 N10 g_o1
 have Fw13 := f11.same W13
 obtain ⟨fs, hr, hrun, hended, hW, hsame⟩ := X13.leave (v := none) (fun _ => rfl)
 have KL : Keep h0 h13 [o1] := ((((((Keep.refl h0 [o1]).wr W1 (Or.inl (List.mem_of_getElem? (i := 0) rfl))).wr W4 (Or.inl (List.mem_of_getElem? (i := 0) rfl))).wr W7 (Or.inl (List.mem_of_getElem? (i := 0) rfl))).wr W10 (Or.inl (List.mem_of_getElem? (i := 0) rfl))).wr W13 (Or.inl (List.mem_of_getElem? (i := 0) rfl)))
 have f14 := (f12.wr W13)
 have f15 := (((((P6.other W1 (Or.inr (sn10 hw))).other W4 (Or.inr (sn11 hw))).other W7 (Or.inr (sn12 hw))).other W10 (Or.inr (sn13 hw))).other W13 (Or.inr (sn14 hw)))
 have f16 := (Fw10.other W13 (Or.inr (sn15 hw)))
 have f17 := ((Fw7.other W10 (Or.inr (sn17 hw))).other W13 (Or.inr (sn18 hw)))
 have f18 := (((Fw4.other W7 (Or.inr (sn20 hw))).other W10 (Or.inr (sn21 hw))).other W13 (Or.inr (sn22 hw)))
 have f19 := ((((Fw1.other W4 (Or.inr (sn25 hw))).other W7 (Or.inr (sn26 hw))).other W10 (Or.inr (sn27 hw))).other W13 (Or.inr (sn28 hw)))
 refine ⟨_, _, pre0 _ ?_, hrun, hended, N13, ⟨⟨_, rfl⟩, hW, hsame.mono (by decide) (by decide)⟩, (by show _; rw [show (T13.setFrames fs).heap = _ from e13]; exact KL), (by show _; rw [show (T13.setFrames fs).heap = _ from e13]; exact f14), (by show _; rw [show (T13.setFrames fs).heap = _ from e13]; exact f15), (by show _; rw [show (T13.setFrames fs).heap = _ from e13]; exact f16), (by show _; rw [show (T13.setFrames fs).heap = _ from e13]; exact f17), (by show _; rw [show (T13.setFrames fs).heap = _ from e13]; exact f18), (by show _; rw [show (T13.setFrames fs).heap = _ from e13]; exact Fw13), (by show _; rw [show (T13.setFrames fs).heap = _ from e13]; exact f19)⟩
 show Steps p.tables e below (T0.setTop (mkF m 86 (l555_0 o1 p5 p6 p8 o7 p10 p11) [])) _
 refine yan X0 hx hby d4_86 rfl rfl ?_
 refine yal X0 hx hby d4_87 rfl rfl ?_
 refine st1 _ ?_
 refine yan X1 hx hby d4_92 rfl rfl ?_
 refine yin X1 hx hby d4_93 rfl ?_
 refine st4 _ ?_
 refine yan X4 hx hby d4_97 rfl rfl ?_
 refine yin X4 hx hby d4_98 rfl ?_
 refine st7 _ ?_
 refine yan X7 hx hby d4_102 rfl rfl ?_
 refine yil X7 hx hby d4_103 rfl ?_
 refine st10 _ ?_
 refine yan X10 hx hby d4_108 rfl rfl ?_
 refine yic X10 hx hby d4_109 ?_
 refine st13 _ ?_
 show Steps p.tables e below (T13.setTop (mkF m 113 (l555_0 o1 p5 p6 p8 o7 p10 p11) [])) _
 exact X13.returnOut hx hret (hb hby d4_113) hr
theorem mv_loopb {p : Program} {l : Launch} {e : Env} {s : State} {m : MethodId} {below : List Frame} {meth : Method} {c : Code} {E0 : State} {Z : State} {a0 : Array Value} (hw : HW a0 Z) {o1 sa o7 : Addr} {p5 p6 p8 : Int32} {ka k7 : ClassId} {vs : List Value} {n n7 n0 : Nat} {mk : Addr → Int64}
    (hx : p.tables.exec = Jvm.exec) (hby : c.code = prog_41_method_10_code) (hml : c.maxLocals = 7) (hown : s.vm.findClass cn7 = some m.cls) (hret : meth.sig.returnType = none) (hlk : meth.locks = false) (hZ : Z.Warmed39 s.vm) (hn : n ≤ 64) (hn7 : n7 ≤ 64) (g7 : n0 ≤ o7) (ov : Ovr Z k7 cn6) (h71 : o1 ≠ o7) (h7s : sa ≠ o7) :
    ∀ (rest : List Addr) (i t : Nat) (vs2 : List Value) (h0 : Heap) (T0 : State) (locs : List Loc), Old Z n0 h0 → Stand p l e ({ frames := 1, cells := 1, slots := 33, locals := 13 } : Room) s m #[(.ref o1)] below meth c T0 locs 1 33 → T0.heap = h0 → Fr n0 locs →
      Go p e below T0 (mkF m 43 #[.val (.ref o1), .val (.int p5), .val (.int p6), .val (.int p8), .val (.ref o7), .val (.int (N32 t)), .val (.int (N32 i))] []) E0 → Fld Z h0 o1 cn7 "end" "I" (.int (N32 (i + rest.length))) → Fld Z h0 o1 cn7 "slots" cn3 (.ref sa) →
      Arv Z h0 sa ka (.object cn6) (N32 n) vs .null → i + rest.length ≤ n → (∀ j (hj : j < rest.length), vs.getD (i + j) .null = .ref rest[j]) → CF Z h0 n0 rest mk →
      Arv Z h0 o7 k7 (.object cn6) (N32 n7) vs2 .null → Exa Z h0 o7 cn3 → vs2.length = n7 → t + (rest.filter (lv mk)).length ≤ n7 →
      ∃ (T' : State) (lc : List Loc) (w : List Value), Stand p l e ({ frames := 1, cells := 1, slots := 33, locals := 13 } : Room) s m #[(.ref o1)] below meth c T' lc 1 33 ∧ Fr n0 lc ∧ Keep h0 T'.heap [o7] ∧ Arv Z T'.heap o7 k7 (.object cn6) (N32 n7) w .null ∧ Exa Z T'.heap o7 cn3 ∧ w.length = n7 ∧ (∀ j, j < t → w.getD j .null = vs2.getD j .null) ∧ (∀ j (hj : j < (rest.filter (lv mk)).length), w.getD (t + j) .null = .ref (rest.filter (lv mk))[j]) ∧
        Go p e below T' (mkF m 86 #[.val (.ref o1), .val (.int p5), .val (.int p6), .val (.int p8), .val (.ref o7), .val (.int (N32 (t + (rest.filter (lv mk)).length))), .val (.int (N32 (i + rest.length)))] []) E0 := by
  intro rest
  induction rest with
  | nil =>
    intro i t vs2 h0 T0 locs O0 X0 e0 N0 pre0 Pe Ps PA hle hrd hcf P7 E7 hv2 ht
    obtain ⟨T', lc, X', N', e', pre'⟩ := mv_6b hw O0 hx hby hml hown hret hlk hZ X0 e0 N0 pre0 (fun q => absurd ((n_lt (by simp at hle; omega) (by simp at hle; simp; omega)).mp q) (by simp)) Pe
    refine ⟨T', lc, vs2, X', N', ?_, ?_, ?_, hv2, fun j _ => rfl, fun j hj => absurd hj (by simp), pre'⟩
    · rw [e']; exact Keep.refl _ _
    · rw [e']; exact P7
    · rw [e']; exact E7
  | cons a rest ih =>
    intro i t vs2 h0 T0 locs O0 X0 e0 N0 pre0 Pe Ps PA hle hrd hcf P7 E7 hv2 ht
    have hl : i + (rest.length + 1) ≤ n := by simpa using hle
    have ea : i + (a :: rest).length = (i + 1) + rest.length := by simp; omega
    rw [ea] at Pe ⊢
    obtain ⟨ga, Ea, Fa⟩ := hcf a (List.mem_cons_self ..)
    have hr0 : vs.getD (N32 i).toNatClampNeg .null = .ref a := by rw [n_nat (by omega)]; exact hrd 0 (by simp)
    have hrd' : ∀ j (hj : j < rest.length), vs.getD (i + 1 + j) .null = .ref rest[j] := fun j hj => by
      have := hrd (j + 1) (by simp; omega)
      rw [show i + 1 + j = i + (j + 1) by omega]; simpa using this
    have i1 : N32 i + (1 : Int32) = N32 (i + 1) := n_add i 1
    have t1 : N32 t + (1 : Int32) = N32 (t + 1) := n_add t 1
    have hcf' : CF Z h0 n0 rest mk := fun c hc => hcf c (List.mem_cons_of_mem _ hc)
    by_cases hm : mk a = MX
    · have hf : (a :: rest).filter (lv mk) = a :: rest.filter (lv mk) := by simp [lv, hm]
      rw [hf] at ht ⊢
      have ht' : t + ((rest.filter (lv mk)).length + 1) ≤ n7 := by simpa using ht
      have na : o7 ≠ a := ne_exa E7 Ea (by decide)
      rcases mv_5b hw O0 hx hby hml hown hret hlk hZ X0 e0 N0 pre0 g7 ga ov ((n_lt (by omega) (by omega)).mpr (by omega)) (n_nn (by omega)) ((n_lt (by omega) (by omega)).mpr (by omega)) (n_nn (by omega)) ((n_lt (by omega) (by omega)).mpr (by omega)) hm Pe Ps PA Ea Fa P7 E7 hr0 (n_nat (by omega)) (by omega) with ⟨T', lc, X', N', K', P7', E7', pre'⟩
      · rw [i1, t1] at pre'
        obtain ⟨T2, lc2, w, X2, N2, K2, A2, E2, w1, w2, w3, pre2⟩ := ih (i + 1) (t + 1) (vs2.set t (.ref a)) T'.heap T' lc (O0.keep K' (allS g7 all0)) X' rfl N' pre' (Pe.keep K' (ninS h71 nin0)) (Ps.keep K' (ninS h71 nin0)) (PA.keep K' (ninS h7s nin0)) (by omega) hrd'
          (fun c hc => by obtain ⟨gc, Ec, Fc⟩ := hcf' c hc; exact ⟨gc, Ec.keep K', Fc.keep K' (ninS (fun q => (ne_exa E7 Ec (by decide)) q.symm) nin0)⟩) P7' E7' (by simpa using hv2) (by omega)
        have el : t + (a :: rest.filter (lv mk)).length = t + 1 + (rest.filter (lv mk)).length := by simp; omega
        refine ⟨T2, lc2, w, X2, N2, K'.trans K2 (fun x hx => Or.inl hx), A2, E2, w1, fun j hj => ?_, fun j hj => ?_, by rw [el]; exact pre2⟩
        · rw [w2 j (by omega)]; simp only [List.getD_eq_getElem?_getD]; rw [List.getElem?_set_ne (by omega)]
        · cases j with
          | zero => rw [Nat.add_zero, w2 t (by omega)]; simp only [List.getD_eq_getElem?_getD]; rw [List.getElem?_set_self (by omega)]; rfl
          | succ j => rw [show t + (j + 1) = t + 1 + j by omega]; have := w3 j (by simpa using hj); simpa using this
    · have hf : (a :: rest).filter (lv mk) = rest.filter (lv mk) := by simp [lv, hm]
      rw [hf] at ht ⊢
      obtain ⟨T', lc, X', N', e', pre'⟩ := mv_8b hw O0 hx hby hml hown hret hlk hZ X0 e0 N0 pre0 ga ((n_lt (by omega) (by omega)).mpr (by omega)) (n_nn (by omega)) ((n_lt (by omega) (by omega)).mpr (by omega)) hm Pe Ps PA Ea Fa hr0
      rw [i1] at pre'
      exact ih (i + 1) t vs2 h0 T' lc O0 X' e' N' pre' Pe Ps PA (by omega) hrd' hcf' P7 E7 hv2 ht
theorem ef_mvb (m : MethodId) (x0 : Addr) : entryFrame m #[(.ref x0)] 7 = mkF m 0 #[.val (.ref x0), .unset, .unset, .unset, .unset, .unset, .unset] [] := by first | (simp [entryFrame, mkF, argsToLocals, Value.category]; done) | rfl
def QMVb (Z : State) (o1 : Addr) (C : List Addr) (mk : Addr → Int64) (af : Int32) (k : Nat) (h0 : Heap) (n0 : Nat) (v : Option Value) (h : Heap) (L : List Loc) : Prop :=
  v = none ∧ Fr n0 L ∧ Keep h0 h [o1] ∧ ∃ sa ka vs n lo en D, LS Z h n0 o1 sa ka vs n lo lo en 0 af ∧ LD C D mk vs n lo lo en 0 af ∧ en < n ∧ (af = 1 → 0 < lo) ∧ n0 ≤ sa ∧ h0.size ≤ sa ∧ en - lo - 0 = k
set_option maxHeartbeats 4000000 in
theorem m_mvb (l : Launch) (Z : State) (a0 : Array Value) (hw : HW a0 Z) (ws : List Jvm.Cond) (o1 : Addr) (C D : List Addr) (mk : Addr → Int64) (sa : Addr) (ka : ClassId) (vs : List Value) (n lo fi en re : Nat) (af : Int32) (h0 : Heap) (n0 : Nat) (O0 : Old Z n0 h0) (HC : CF Z h0 n0 C mk) (HS : LS Z h0 n0 o1 sa ka vs n lo fi en re af) (HD : LD C D mk vs n lo fi en re af) (hB : en - fi - re ≤ 11) :
    MF l yn4 prog_41_method_10_code 7 none ws ({ frames := 1, cells := 1, slots := 33, locals := 13 } : Room) #[(.ref o1)] Z h0 (QMVb Z o1 C mk af (en - fi - re) h0 n0) := by
  refine MetFree.of_bodySF (plainFor_of_name pn0) hisR ?_
  intro p e s m args below meth c s₁ Bd hml hP hK
  obtain ⟨rfl, hZ, hh⟩ := hP
  obtain ⟨hx, hby, hown, hret, hlk, X0, e0, N0⟩ := own_bd Bd hh n0
  have pre0 := own_ct s₁ (p := p) (e := e) (below := below) (ef_mvb m o1)
  revert pre0
  generalize s₁.setTop (entryFrame m #[(.ref o1)] 7) = E0
  intro pre0
  obtain ⟨go, PE, Ps, Pl, Pf, Pe, Pr, Pa, PA, PX, dso⟩ := id HS
  obtain ⟨d1, d2, d3, d4, d5, d6, d7, d8, d9, d10, d11, d12, d13⟩ := id HD
  have hlen : (D.drop (fi - lo)).length = en - fi := by rw [List.length_drop]; omega
  have hcnt : (D.drop (fi - lo)).length = (D.drop (fi - lo)).countP (fun c => decide (mk c ≠ MX)) + (D.drop (fi - lo)).countP (lv mk) := by
    rw [List.length_eq_countP_add_countP (fun c => decide (mk c ≠ MX))]
    congr 1
    apply List.countP_congr; intro x _; simp [lv]
  rw [← d12, hlen] at hcnt
  have hfl : ((D.drop (fi - lo)).filter (lv mk)).length = en - fi - re := by
    rw [← List.countP_eq_length_filter]; omega
  have hre : re ≤ en - fi := by omega
  generalize hk : en - fi - re = k at hB hfl ⊢
  obtain ⟨T1, lc1, X1, N1, e1, pre1⟩ := mv_0b hw O0 hx hby hml hown hret hlk hZ X0 e0 N0 pre0 go PE Pe Pf Pr
  rw [n_sub d7, n_sub hre, hk] at pre1
  obtain ⟨r, hr, T2, lc2, X2, N2, e2, pre2⟩ : ∃ r : Nat, (4 ≤ r ∧ k ≤ r ∧ r ≤ 11) ∧ ∃ (T' : State) (lc : List Loc), Stand p l e ({ frames := 1, cells := 1, slots := 33, locals := 13 } : Room) s m #[(.ref o1)] below meth c T' lc 0 0 ∧ Fr n0 lc ∧ T'.heap = h0 ∧ Go p e below T' (mkF m 11 #[.val (.ref o1), .val (.int (N32 k)), .val (.int (N32 r)), .unset, .unset, .unset, .unset] []) E0 := by
    rcases mv_1b hw O0 hx hby hml hown hret hlk hZ X1 e1 N1 pre1 with ⟨T', lc, hc, r⟩ | ⟨T', lc, hc, r⟩
    · exact ⟨k, ⟨Nat.le_of_lt ((n_lt (a := 4) (by omega) (by omega)).mp hc), Nat.le_refl _, hB⟩, T', lc, r⟩
    · exact ⟨4, ⟨Nat.le_refl _, Nat.le_of_not_lt (fun q => hc ((n_lt (a := 4) (by omega) (by omega)).mpr q)), by omega⟩, T', lc, r⟩
  obtain ⟨b, hb1, hb2, T3, lc3, X3, N3, e3, pre3⟩ : ∃ b : Nat, b ≤ r ∧ (af = 1 → 0 < b) ∧ ∃ (T' : State) (lc : List Loc), Stand p l e ({ frames := 1, cells := 1, slots := 33, locals := 13 } : Room) s m #[(.ref o1)] below meth c T' lc 0 0 ∧ Fr n0 lc ∧ T'.heap = h0 ∧ Go p e below T' (mkF m 24 #[.val (.ref o1), .val (.int (N32 k)), .val (.int (N32 r)), .val (.int (N32 b)), .unset, .unset, .unset] []) E0 := by
    rcases mv_2b hw O0 hx hby hml hown hret hlk hZ X2 e2 N2 pre2 Pa with ⟨T', lc, hc, r⟩ | ⟨T', lc, hc, r'⟩
    · exact ⟨0, Nat.zero_le _, fun q => absurd (q.symm.trans hc) (by decide), T', lc, r⟩
    · exact ⟨r, Nat.le_refl _, fun _ => by omega, T', lc, r'⟩
  obtain ⟨T4, lc4, X4, N4, e4, pre4⟩ := mv_3b hw O0 hx hby hml hown hret hlk hZ X3 e3 N3 pre3
  rw [n_add, n_add] at pre4
  generalize hn7 : b + k + r = n7 at pre4
  obtain ⟨T5, lc5, o7, k7, X5, N5, K5, g7, ov, A5, E5, pre5⟩ := mv_4b hw O0 hx hby hml hown hret hlk hZ X4 e4 N4 pre4 (by rw [n_int (by omega)]; omega) Pf
  have O5 := O0.keep K5 all0
  have gg7 : n0 ≤ o7 := Nat.le_trans (own_oz O0) g7
  have h71 : o1 ≠ o7 := Nat.ne_of_lt (Nat.lt_of_lt_of_le PE.lt g7)
  have h7s : sa ≠ o7 := Nat.ne_of_lt (Nat.lt_of_lt_of_le PA.lt g7)
  have A5' := A5.pad (pad_rep [] .null n7)
  obtain ⟨T6, lc6, w, X6, N6, K6, A6, E6, w1, w2, w3, pre6⟩ := mv_loopb hw hx hby hml hown hret hlk hZ d9 (n7 := n7) (by omega) gg7 ov h71 h7s (D.drop (fi - lo)) fi b ([] ++ List.replicate n7 .null) T5.heap T5 lc5 O5 X5 rfl N5 pre5 (by rw [hlen, show fi + (en - fi) = en by omega]; exact Pe.keep K5 nin0) (Ps.keep K5 nin0) (PA.keep K5 nin0) (by omega)
    (fun j hj => by
      have hj2 : fi - lo + j < D.length := by rw [List.length_drop] at hj; omega
      have := d2 (fi - lo + j) hj2
      rw [show lo + (fi - lo + j) = fi + j by omega] at this
      rw [this, List.getElem_drop])
    (fun c hc => by obtain ⟨gc, Ec, Fc⟩ := HC c (d4 c (List.mem_of_mem_drop hc)); exact ⟨gc, Ec.keep K5, Fc.keep K5 nin0⟩) A5' E5 (by simp) (by rw [hfl]; omega)
  have O6 := O5.keep K6 (allS gg7 all0)
  obtain ⟨s₂, L, st, hr', he, NL, FE, K7, E7, F0, F1, F2, F3, F4, F5⟩ := mv_7b hw O6 hx hby hml hown hret hlk hZ X6 rfl N6 pre6 go ((PE.keep K5).keep K6) ((Ps.keep K5 nin0).keep K6 (ninS h71 nin0)) ((Pl.keep K5 nin0).keep K6 (ninS h71 nin0)) ((Pf.keep K5 nin0).keep K6 (ninS h71 nin0)) ((Pe.keep K5 nin0).keep K6 (ninS h71 nin0)) ((Pr.keep K5 nin0).keep K6 (ninS h71 nin0)) ((Pa.keep K5 nin0).keep K6 (ninS h71 nin0))
  have K8 : Keep h0 s₂.heap [o1] := ((k_mono K5 (fun x hx => absurd hx List.not_mem_nil)).trans K6 (fun x hx => by cases List.mem_singleton.mp hx; exact Or.inr g7)).trans K7 (fun x hx => Or.inl hx)
  refine ⟨s₂, _, st, hr', he, _, _, rfl, ⟨rfl, NL, K8, o7, k7, w, n7, b, b + ((D.drop (fi - lo)).filter (lv mk)).length, (D.drop (fi - lo)).filter (lv mk), ?_, ?_, by rw [hfl]; omega, hb2, gg7, g7, by rw [hfl]; omega⟩, FE⟩
  · exact ⟨go, E7, F5, F3, F2, F1, F4, F0, A6.keep K7 (ninS (Ne.symm h71) nin0), Or.inr ⟨gg7, ov, E6.keep K7⟩, Ne.symm h71⟩
  · refine ⟨rfl, w3, (d3.sublist (List.drop_sublist _ _)).sublist List.filter_sublist, fun c hc => d4 c (List.mem_of_mem_drop ((List.mem_filter.mp hc).1)), fun c hc q => ?_, Nat.le_refl _, Nat.le_add_right _ _, by rw [hfl]; omega, by omega, w1, fun c hc => absurd hc (by simp), ?_, d13⟩
    · rw [Nat.sub_self, List.drop_zero]; exact List.mem_filter.mpr ⟨d5 c hc q, by simp [lv, q]⟩
    · rw [Nat.sub_self, List.drop_zero]; symm; rw [List.countP_eq_zero]; intro x hx; have := (List.mem_filter.mp hx).2; simp [lv] at this; simp [this]
set_option maxRecDepth 65536 in
set_option maxHeartbeats 40000000 in
theorem al_0b {p : Program} {l : Launch} {e : Env} {s : State} {m : MethodId} {below : List Frame} {meth : Method} {c : Code} {E0 T0 : State} {locs : List Loc} {Z : State} {a0 : Array Value} (hw : HW a0 Z) {o1 : Addr} {p3 : Int32} {o4 : Addr} {kc8 : ClassId} {p5 : Int32} {o2 : Addr} {vs : List Value} {h0 : Heap} {n0 : Nat} (O0 : Old Z n0 h0)
    (hx : p.tables.exec = Jvm.exec) (hby : c.code = prog_41_method_6_code) (hml : c.maxLocals = 2) (hown : s.vm.findClass cn7 = some m.cls) (hret : meth.sig.returnType = none) (hlk : meth.locks = false) (hZ : Z.Warmed39 s.vm)
    (X0 : Stand p l e ({ frames := 2, cells := 1, slots := 33, locals := 31 } : Room) s m #[(.ref o1), (.ref o2)] below meth c T0 locs 0 0) (e0 : T0.heap = h0) (N0 : Fr n0 locs) (pre0 : Go p e below T0 (mkF m 0 #[.val (.ref o1), .val (.ref o2)] []) E0) (P1 : Fld Z h0 o1 cn7 "end" "I" (.int p3)) (P2 : Fld Z h0 o1 cn7 "slots" cn3 (.ref o4)) (P3 : Arv Z h0 o4 kc8 (.object cn6) p5 vs .null) :
    (∃ (T' : State) (lc : List Loc), (p3 = p5) ∧ Stand p l e ({ frames := 2, cells := 1, slots := 33, locals := 31 } : Room) s m #[(.ref o1), (.ref o2)] below meth c T' lc 0 0 ∧ Fr n0 lc ∧ T'.heap = h0 ∧ Go p e below T' (mkF m 13 #[.val (.ref o1), .val (.ref o2)] [(.ref o1)]) E0)
    ∨ (∃ (T' : State) (lc : List Loc), (¬ (p3 = p5)) ∧ Stand p l e ({ frames := 2, cells := 1, slots := 33, locals := 31 } : Room) s m #[(.ref o1), (.ref o2)] below meth c T' lc 0 0 ∧ Fr n0 lc ∧ T'.heap = h0 ∧ Go p e below T' (mkF m 16 #[.val (.ref o1), .val (.ref o2)] []) E0) := by
 obtain ⟨T1, X1, e1, st1⟩ := yag X0 hx hZ hown hby (w_24 hw) e0 P1 0 #[.val (.ref o1), .val (.ref o2)] [] d5_0 d5_1 rfl
 obtain ⟨T2, X2, e2, st2⟩ := yag X1 hx hZ hown hby (own_w hw 11 rfl) e1 P2 4 #[.val (.ref o1), .val (.ref o2)] [(.int p3)] d5_4 d5_5 rfl
 obtain ⟨cl3, Ar3, qa3, Sa3, Na3, Ha3, Ga3⟩ := id (P3)
 have pre4 : Go p e below T2 (mkF m 9 #[.val (.ref o1), .val (.ref o2)] [(.int p5), (.int p3)]) E0 := fun t k => by
  refine pre0 _ ?_
  refine st1 _ ?_
  refine st2 _ ?_
  refine X2.arraylength hx (by rw [e2]; exact Ar3.1) (State.isArrayOf_alike hZ.alike Ar3.2.1) (g := (mkF m 8 #[.val (.ref o1), .val (.ref o2)] [(.ref o4), (.int p3)])) rfl rfl (hb hby d5_8) _ ?_
  rw [len_of Sa3 Na3]
  exact k
 by_cases hc5 : p3 = p5
 ·
  have pre6 : Go p e below T2 (mkF m 13 #[.val (.ref o1), .val (.ref o2)] [(.ref o1)]) E0 := fun t k => by
   refine pre4 _ ?_
   refine yno X2 hx hby d5_9 (teq hc5).2 ?_
   refine yan X2 hx hby d5_12 rfl rfl ?_
   exact k
  exact (Or.inl ⟨_, _, hc5, X2, N0, e2, pre6⟩)
 ·
  have pre7 : Go p e below T2 (mkF m 16 #[.val (.ref o1), .val (.ref o2)] []) E0 := fun t k => by
   refine pre4 _ ?_
   refine yye X2 hx hby 9 16 rfl d5_9 (feq hc5).2 (by decide) ?_
   exact k
  exact (Or.inr ⟨_, _, hc5, X2, N0, e2, pre7⟩)
def l558_0 (o1 o2 : Addr) : Array Slot := #[.val (.ref o1), .val (.ref o2)]
set_option maxRecDepth 65536 in
set_option maxHeartbeats 40000000 in
theorem al_1b {p : Program} {l : Launch} {e : Env} {s : State} {m : MethodId} {below : List Frame} {meth : Method} {c : Code} {E0 T0 : State} {locs : List Loc} {Z : State} {a0 : Array Value} (hw : HW a0 Z) {o1 : Addr} {o4 : Addr} {kc8 : ClassId} {p3 : Int32} {p5 : Int32} {o2 : Addr} {p13 : Int32} {p14 : Int32} {p16 : Int32} {p17 : Int32} {vs : List Value} {ix1 : Nat} {h0 : Heap} {n0 : Nat} (O0 : Old Z n0 h0)
    (hx : p.tables.exec = Jvm.exec) (hby : c.code = prog_41_method_6_code) (hml : c.maxLocals = 2) (hown : s.vm.findClass cn7 = some m.cls) (hret : meth.sig.returnType = none) (hlk : meth.locks = false) (hZ : Z.Warmed39 s.vm)
    (X0 : Stand p l e ({ frames := 2, cells := 1, slots := 33, locals := 31 } : Room) s m #[(.ref o1), (.ref o2)] below meth c T0 locs 1 33) (e0 : T0.heap = h0) (N0 : Fr n0 locs) (pre0 : Go p e below T0 (mkF m 16 (l558_0 o1 o2) []) E0) (g_o1 : n0 ≤ o1) (g_o4 : n0 ≤ o4) (Ov_kc8 : Ovr Z kc8 cn6) (hp0 : ¬ (p3 < (0 : Int32))) (hp1 : p3 < p5) (P0 : Exa Z h0 o1 cn7) (P1 : Fld Z h0 o1 cn7 "end" "I" (.int p3)) (P2 : Fld Z h0 o1 cn7 "slots" cn3 (.ref o4)) (P3 : Arv Z h0 o4 kc8 (.object cn6) p5 vs .null) (P4 : Exa Z h0 o4 cn3) (P5 : Exa Z h0 o2 cn6) (P6 : Fld Z h0 o1 cn7 "low" "I" (.int p13)) (P7 : Fld Z h0 o1 cn7 "first" "I" (.int p14)) (P8 : Fld Z h0 o1 cn7 "removed" "I" (.int p16)) (P9 : Fld Z h0 o1 cn7 "addsFirst" "Z" (.int p17)) (hj : p3.toNatClampNeg = ix1) (hi : ix1 < vs.length) :
    (∃ (s₂ : State) (L : List Loc), Steps p.tables e below E0 s₂ ∧ s₂.status = .running ∧ Ended s₂ below (.returned none) ∧ Fr n0 L ∧ FrameEnd s (.returned none) s₂ L 1 33 ∧ Keep h0 s₂.heap [o4, o1] ∧ (Arv Z s₂.heap o4 kc8 (.object cn6) p5 (vs.set ix1 (.ref o2)) .null) ∧ (Exa Z s₂.heap o4 cn3) ∧ (Exa Z s₂.heap o1 cn7) ∧ (Fld Z s₂.heap o1 cn7 "addsFirst" "Z" (.int p17)) ∧ (Fld Z s₂.heap o1 cn7 "end" "I" (.int (p3 + (1 : Int32)))) ∧ (Fld Z s₂.heap o1 cn7 "first" "I" (.int p14)) ∧ (Fld Z s₂.heap o1 cn7 "low" "I" (.int p13)) ∧ (Fld Z s₂.heap o1 cn7 "removed" "I" (.int p16)) ∧ (Fld Z s₂.heap o1 cn7 "slots" cn3 (.ref o4))) := by
 obtain ⟨T1, X1, e1, st1⟩ := yag X0 hx hZ hown hby (own_w hw 11 rfl) e0 P2 16 (l558_0 o1 o2) [] d5_16 d5_17 rfl
 obtain ⟨T2, X2, e2, st2⟩ := yag X1 hx hZ hown hby (w_24 hw) e1 P1 20 (l558_0 o1 o2) [(.ref o4)] d5_20 d5_21 rfl
 obtain ⟨cl3, Ar3, qa3, Sa3, Na3, Ha3, Ga3⟩ := id (P3)
 have hin3 := inb_of (j := p3) Sa3 ⟨hp0, hp1⟩
 obtain ⟨T4, h4, X4, e4, W4, st4⟩ := stR X2 hx hZ e2 Ar3 (j := p3) hin3 rfl (Sto.ofV Ar3 qa3 Ov_kc8 (Ins.self P5)) (g := (mkF m 25 (l558_0 o1 o2) [(.ref o2), (.int p3), (.ref o4)])) rfl rfl (hb hby d5_25)
 have V4 : Arv Z h4 o4 kc8 (.object cn6) p5 (vs.set ix1 (.ref o2)) .null := Arv.set Ar3 qa3 Sa3 Na3 Ha3 Ga3 rfl W4 ix1 hj hi
 have N4 := Fr.snoc X4 N0 g_o4
 have f5 := (P0.wr W4)
 have f6 := (P4.wr W4)
 have ne7 : o1 ≠ o4 := ne_exa f5 f6 (by decide)
 have f8 := (P1.other W4 (Or.inl ne7))
 obtain ⟨T9, X9, e9, st9⟩ := yg X4 hx hZ hown hby (w_24 hw) e4 f8 28 (l558_0 o1 o2) [(.ref o1)] d5_28
 obtain ⟨T10, h10, X10, e10, W10, st10⟩ := yp X9 hx hZ hown hby (w_24 hw) e9 f8 f5 (own_w hw 25 rfl) (w_1 hw) (ty := .int) (v := (.int (p3 + (1 : Int32)))) (by decide) rfl rfl 33 (l558_0 o1 o2) [] d5_33
 have N10 := Fr.snoc X10 N4 g_o1
 have Fw10 := f8.same W10
 obtain ⟨fs, hr, hrun, hended, hW, hsame⟩ := X10.leave (v := none) (fun _ => rfl)
 have KL : Keep h0 h10 [o4, o1] := (((Keep.refl h0 [o4, o1]).wr W4 (Or.inl (List.mem_of_getElem? (i := 0) rfl))).wr W10 (Or.inl (List.mem_of_getElem? (i := 1) rfl)))
 have f11 := (V4.other W10 (Ne.symm ne7))
 have f12 := (f6.wr W10)
 have f13 := (f5.wr W10)
 have f14 := ((P9.other W4 (Or.inl ne7)).other W10 (Or.inr (sn13 hw)))
 have f15 := ((P7.other W4 (Or.inl ne7)).other W10 (Or.inr (sn17 hw)))
 have f16 := ((P6.other W4 (Or.inl ne7)).other W10 (Or.inr (sn21 hw)))
 have f17 := ((P8.other W4 (Or.inl ne7)).other W10 (Or.inr (sn9 hw)))
 have f18 := ((P2.other W4 (Or.inl ne7)).other W10 (Or.inr (sn27 hw)))
 refine ⟨_, _, pre0 _ ?_, hrun, hended, N10, ⟨⟨_, rfl⟩, hW, hsame.mono (by decide) (by decide)⟩, (by show _; rw [show (T10.setFrames fs).heap = _ from e10]; exact KL), (by show _; rw [show (T10.setFrames fs).heap = _ from e10]; exact f11), (by show _; rw [show (T10.setFrames fs).heap = _ from e10]; exact f12), (by show _; rw [show (T10.setFrames fs).heap = _ from e10]; exact f13), (by show _; rw [show (T10.setFrames fs).heap = _ from e10]; exact f14), (by show _; rw [show (T10.setFrames fs).heap = _ from e10]; exact Fw10), (by show _; rw [show (T10.setFrames fs).heap = _ from e10]; exact f15), (by show _; rw [show (T10.setFrames fs).heap = _ from e10]; exact f16), (by show _; rw [show (T10.setFrames fs).heap = _ from e10]; exact f17), (by show _; rw [show (T10.setFrames fs).heap = _ from e10]; exact f18)⟩
 show Steps p.tables e below (T0.setTop (mkF m 16 (l558_0 o1 o2) [])) _
 refine st1 _ ?_
 refine st2 _ ?_
 refine yan X2 hx hby d5_24 rfl rfl ?_
 refine st4 _ ?_
 refine yan X4 hx hby d5_26 rfl rfl ?_
 refine XS.dup X4.here hx rfl (hb hby d5_27) rfl rfl ?_
 refine st9 _ ?_
 refine yic X9 hx hby d5_31 ?_
 refine yad X9 hx hby d5_32 ?_
 refine st10 _ ?_
 show Steps p.tables e below (T10.setTop (mkF m 36 (l558_0 o1 o2) [])) _
 exact X10.returnOut hx hret (hb hby d5_36) hr
theorem ef_alb (m : MethodId) (x0 x1 : Addr) : entryFrame m #[(.ref x0), (.ref x1)] 2 = mkF m 0 #[.val (.ref x0), .val (.ref x1)] [] := by first | (simp [entryFrame, mkF, argsToLocals, Value.category]; done) | rfl
set_option maxHeartbeats 4000000 in
theorem m_alb (l : Launch) (Z : State) (a0 : Array Value) (hw : HW a0 Z) (ws : List Jvm.Cond) (o1 c0 mm : Addr) (C : List Addr) (mk : Addr → Int64) (k : Nat) (h0 : Heap) (n0 : Nat) (O0 : Old Z n0 h0) (HC : CF Z h0 n0 (c0 :: C) mk) (hcC : c0 ∉ C) (hm : mk c0 = MX) (hmm : mm < h0.size) (HI : LInv Z h0 n0 o1 mm C mk k) (hB : k ≤ 11) :
    MF l yn5 prog_41_method_6_code 2 none ws ({ frames := 2, cells := 1, slots := 33, locals := 31 } : Room) #[(.ref o1), (.ref c0)] Z h0 (QAL Z o1 mm (c0 :: C) mk (k + 1) h0 n0) := by
  refine MetFree.of_bodySF (plainFor_of_name pn0) hisR ?_
  intro p e s m args below meth c s₁ Bd hml hP hK
  obtain ⟨rfl, hZ, hh⟩ := hP
  obtain ⟨hx, hby, hown, hret, hlk, X0, e0, N0⟩ := own_bd Bd hh n0
  have pre0 := own_ct s₁ (p := p) (e := e) (below := below) (ef_alb m o1 c0)
  revert pre0
  generalize s₁.setTop (entryFrame m #[(.ref o1), (.ref c0)] 2) = E0
  intro pre0
  have tail : ∀ (T : State) (lc : List Loc) (h1 : Heap) sa ka vs n lo fi en re af D, Old Z n0 h1 → Stand p l e ({ frames := 2, cells := 1, slots := 33, locals := 31 } : Room) s m #[(.ref o1), (.ref c0)] below meth c T lc 1 33 → T.heap = h1 → Fr n0 lc → Go p e below T (mkF m 16 #[.val (.ref o1), .val (.ref c0)] []) E0 → LS Z h1 n0 o1 sa ka vs n lo fi en re af → LD C D mk vs n lo fi en re af → en < n → sa ≠ mm → en - fi - re = k → re ≤ en - fi →
      CF Z h1 n0 (c0 :: C) mk → (∃ w, Keep h0 h1 w ∧ (∀ x ∈ w, x = o1)) → (sa < h0.size → Exa Z h0 sa cn3) → n0 ≤ o1 →
      ∃ s₂ o, Steps p.tables e below E0 s₂ ∧ s₂.status = .running ∧ Ended s₂ below o ∧ ∃ v L, o = .returned v ∧ QAL Z o1 mm (c0 :: C) mk (k + 1) h0 n0 v s₂.heap L ∧ FrameEnd s o s₂ L 1 33 := by
    intro T lc h1 sa ka vs n lo fi en re af D O1 X e1 N pre HS HD hen hsm hk hre HC1 ⟨w, K, hwo⟩ hE go
    obtain ⟨-, PE, Ps, Pl, Pf, Pe, Pr, Pa, PA, PX, dso⟩ := id HS
    obtain ⟨gs, ov, PX⟩ := PX.resolve_left (by omega)
    have n64 : n ≤ 64 := HD.2.2.2.2.2.2.2.2.1
    have hfe : fi ≤ en := HD.2.2.2.2.2.2.1
    have hvl : vs.length = n := HD.2.2.2.2.2.2.2.2.2.1
    obtain ⟨s₂, L, st, hr, he, NL, FE, K2, A2, X2, E2, F1, F2, F3, F4, F5, F6⟩ := al_1b hw O1 hx hby hml hown hret hlk hZ X e1 N pre go gs ov (n_nn (by omega)) ((n_lt (by omega) (by omega)).mpr hen) PE Pe Ps PA PX (HC1 c0 (List.mem_cons_self ..)).2.1 Pl Pf Pr Pa (n_nat (by omega)) (by omega)
    rw [show N32 en + (1 : Int32) = N32 (en + 1) from n_add en 1] at F2
    refine ⟨s₂, _, st, hr, he, _, _, rfl, ⟨rfl, NL, ?_, sa, ka, _, n, lo, fi, en + 1, re, af, D ++ [c0], ?_, ld_snoc HD hcC hm hen, hsm, by omega⟩, FE⟩
    · by_cases hs : sa < h0.size
      · refine ⟨[sa, o1], ?_, fun x hx => ?_⟩
        · exact (k_mono K (fun x hx => by rw [hwo x hx]; simp)).trans K2 (fun x hx => Or.inl hx)
        · rcases List.mem_cons.mp hx with rfl | hx
          · exact ⟨gs, Or.inr ⟨hE hs, hsm⟩⟩
          · cases List.mem_singleton.mp hx; exact ⟨go, Or.inl rfl⟩
      · refine ⟨[o1], ?_, fun x hx => by cases List.mem_singleton.mp hx; exact ⟨go, Or.inl rfl⟩⟩
        refine (k_mono K (fun x hx => by rw [hwo x hx]; simp)).trans K2 (fun x hx => ?_)
        rcases List.mem_cons.mp hx with rfl | hx
        · exact Or.inr (Nat.le_of_not_lt hs)
        · exact Or.inl hx
    · exact ⟨go, E2, F6, F4, F3, F2, F5, F1, A2, Or.inr ⟨gs, ov, X2⟩, dso⟩
  obtain ⟨sa, ka, vs, n, lo, fi, en, re, af, D, HS, HD, dmm, hk⟩ := id HI
  obtain ⟨go, PE, Ps, Pl, Pf, Pe, Pr, Pa, PA, PX, dso⟩ := id HS
  have hlen : (D.drop (fi - lo)).length = en - fi := by have := HD.1; rw [List.length_drop]; have := HD.2.2.2.2.2.1; have := HD.2.2.2.2.2.2.1; omega
  have hre : re ≤ en - fi := by rw [HD.2.2.2.2.2.2.2.2.2.2.2.1, ← hlen]; exact List.countP_le_length
  have hle := HD.2.2.2.2.2.2.2.1
  have n64 := HD.2.2.2.2.2.2.2.2.1
  rcases al_0b hw O0 hx hby hml hown hret hlk hZ X0 e0 N0 pre0 Pe Ps PA with ⟨T1, lc1, hc, X1, N1, e1, pre1⟩ | ⟨T1, lc1, hc, X1, N1, e1, pre1⟩
  · obtain ⟨_, T2, L2, X2, hQ, st2⟩ := own_pb X1 hx hZ hown (y := yn4) (own_w hw 65 rfl) (own_w hw 66 rfl) (own_selp (mvT hZ (own_w hw 22 rfl)) rfl (Cond.privateMethod_at (mvP hZ (own_w hw 67 rfl) (args := #[]))) (mvT hZ (own_w hw 66 rfl)) (by decide)) (own_w hw 67 rfl) (own_w hw 68 rfl) (w_2 hw) e1 PE (argsL := []) (rest := []) (m_mvb l Z a0 hw [] o1 C D mk sa ka vs n lo fi en re af h0 n0 O0 (fun x hx => HC x (List.mem_cons_of_mem _ hx)) HS HD (by omega)) (g := (mkF m 13 #[.val (.ref o1), .val (.ref c0)] [(.ref o1)])) rfl (by rw [hml]; rfl) rfl (hb hby d5_13) (lenOf pd0 rfl) (W := 0) (c1 := 1) (s1 := 33)
    obtain ⟨rfl, NL, K, sa', ka', vs', n', lo', en', D', HS', HD', hen, hlo, gsa, hsz, hk'⟩ := hQ
    have no : ∀ x ∈ c0 :: C, x ∉ [o1] := fun x hx q => (ne_exa PE (HC x hx).2.1 (by decide)) (List.mem_singleton.mp q).symm
    exact tail T2 _ T2.heap sa' ka' vs' n' lo' lo' en' 0 af D' (O0.keep K (allS go all0)) X2 rfl (Fr.app N1 NL) (fun t k => pre1 _ (st2 _ k)) HS' HD' hen (Nat.ne_of_gt (Nat.lt_of_lt_of_le hmm hsz)) (by omega) (Nat.zero_le _) (fun x hx => by obtain ⟨a1, a2, a3⟩ := HC x hx; exact ⟨a1, a2.keep K, a3.keep K (no x hx)⟩) ⟨[o1], K, fun x hx => List.mem_singleton.mp hx⟩ (fun q => absurd hsz (Nat.not_le_of_lt q)) go
  · have hen : en < n := Nat.lt_of_le_of_ne hle (fun q => hc (by rw [q]))
    exact tail T1 lc1 h0 sa ka vs n lo fi en re af D O0 (X1.more (by decide) (by decide)) e1 N1 pre1 HS HD hen dmm hk hre HC ⟨[], Keep.refl _ _, fun x hx => absurd hx List.not_mem_nil⟩ (fun _ => (PX.resolve_left (by omega)).2.2) go
set_option maxRecDepth 65536 in
set_option maxHeartbeats 40000000 in
theorem fa_0b {p : Program} {l : Launch} {e : Env} {s : State} {m : MethodId} {below : List Frame} {meth : Method} {c : Code} {E0 T0 : State} {locs : List Loc} {Z : State} {a0 : Array Value} (hw : HW a0 Z) {o1 : Addr} {o4 : Addr} {p13 : Int32} {p14 : Int32} {p15 : Int32} {p16 : Int32} {p17 : Int32} {o2 : Addr} {h0 : Heap} {n0 : Nat} (O0 : Old Z n0 h0)
    (hx : p.tables.exec = Jvm.exec) (hby : c.code = prog_41_method_7_code) (hml : c.maxLocals = 2) (hown : s.vm.findClass cn7 = some m.cls) (hret : meth.sig.returnType = none) (hlk : meth.locks = false) (hZ : Z.Warmed39 s.vm)
    (X0 : Stand p l e ({ frames := 2, cells := 1, slots := 33, locals := 31 } : Room) s m #[(.ref o1), (.ref o2)] below meth c T0 locs 0 0) (e0 : T0.heap = h0) (N0 : Fr n0 locs) (pre0 : Go p e below T0 (mkF m 0 #[.val (.ref o1), .val (.ref o2)] []) E0) (g_o1 : n0 ≤ o1) (P0 : Exa Z h0 o1 cn7) (P1 : Fld Z h0 o1 cn7 "slots" cn3 (.ref o4)) (P2 : Fld Z h0 o1 cn7 "low" "I" (.int p13)) (P3 : Fld Z h0 o1 cn7 "first" "I" (.int p14)) (P4 : Fld Z h0 o1 cn7 "end" "I" (.int p15)) (P5 : Fld Z h0 o1 cn7 "removed" "I" (.int p16)) (P6 : Fld Z h0 o1 cn7 "addsFirst" "Z" (.int p17)) :
    (∃ (T' : State) (lc : List Loc), (p13 = (0 : Int32)) ∧ Stand p l e ({ frames := 2, cells := 1, slots := 33, locals := 31 } : Room) s m #[(.ref o1), (.ref o2)] below meth c T' lc 0 0 ∧ Fr n0 lc ∧ Keep h0 T'.heap [o1] ∧ (Exa Z T'.heap o1 cn7) ∧ (Fld Z T'.heap o1 cn7 "addsFirst" "Z" (.int 1)) ∧ (Fld Z T'.heap o1 cn7 "end" "I" (.int p15)) ∧ (Fld Z T'.heap o1 cn7 "first" "I" (.int p14)) ∧ (Fld Z T'.heap o1 cn7 "low" "I" (.int p13)) ∧ (Fld Z T'.heap o1 cn7 "removed" "I" (.int p16)) ∧ (Fld Z T'.heap o1 cn7 "slots" cn3 (.ref o4)) ∧ Go p e below T' (mkF m 13 #[.val (.ref o1), .val (.ref o2)] [(.ref o1)]) E0)
    ∨ (∃ (T' : State) (lc : List Loc), (¬ (p13 = (0 : Int32))) ∧ Stand p l e ({ frames := 2, cells := 1, slots := 33, locals := 31 } : Room) s m #[(.ref o1), (.ref o2)] below meth c T' lc 0 0 ∧ Fr n0 lc ∧ Keep h0 T'.heap [o1] ∧ (Exa Z T'.heap o1 cn7) ∧ (Fld Z T'.heap o1 cn7 "addsFirst" "Z" (.int 1)) ∧ (Fld Z T'.heap o1 cn7 "end" "I" (.int p15)) ∧ (Fld Z T'.heap o1 cn7 "first" "I" (.int p14)) ∧ (Fld Z T'.heap o1 cn7 "low" "I" (.int p13)) ∧ (Fld Z T'.heap o1 cn7 "removed" "I" (.int p16)) ∧ (Fld Z T'.heap o1 cn7 "slots" cn3 (.ref o4)) ∧ Go p e below T' (mkF m 16 #[.val (.ref o1), .val (.ref o2)] []) E0) := by
 obtain ⟨T1, h1, X1, e1, W1, st1⟩ := putFN X0 hx hZ hown (own_w hw 74 rfl) Via.refl e0 P6 P0 (Or.inl (own_w hw 75 rfl)) (w_1 hw) (ty := .boolean) (v' := (.int 1)) (by decide) rfl (by decide) (g := (mkF m 2 #[.val (.ref o1), .val (.ref o2)] [(.int 1), (.ref o1)])) rfl rfl (hb hby d6_2)
 have N1 := Fr.snoc X1 N0 g_o1
 have Fw1 := P6.same W1
 have f2 := (P2.other W1 (Or.inr (sn23 hw)))
 obtain ⟨T3, X3, e3, st3⟩ := yag X1 hx hZ hown hby (own_w hw 77 rfl) e1 f2 5 #[.val (.ref o1), .val (.ref o2)] [] d6_5 d6_6 rfl
 have pre4 : Go p e below T3 (mkF m 9 #[.val (.ref o1), .val (.ref o2)] [(.int p13)]) E0 := fun t k => by
  refine pre0 _ ?_
  refine yan X0 hx hby d6_0 rfl rfl ?_
  refine yic X0 hx hby d6_1 ?_
  refine st1 _ ?_
  refine st3 _ ?_
  exact k
 by_cases hc5 : p13 = (0 : Int32)
 ·
  have pre6 : Go p e below T3 (mkF m 9 #[.val (.ref o1), .val (.ref o2)] [(.int 0)]) E0 := fun t k => pre4 t (by rw [hc5]; exact k)
  have pre7 : Go p e below T3 (mkF m 13 #[.val (.ref o1), .val (.ref o2)] [(.ref o1)]) E0 := fun t k => by
   refine pre6 _ ?_
   refine yfn X3 hx hby d6_9 ((if0 _ _).trans (teq (by decide : (0 : Int32) = (0 : Int32))).2) ?_
   refine yan X3 hx hby d6_12 rfl rfl ?_
   exact k
  have KL : Keep h0 h1 [o1] := ((Keep.refl h0 [o1]).wr W1 (Or.inl (List.mem_of_getElem? (i := 0) rfl)))
  have f8 := (P0.wr W1)
  have f9 := (P4.other W1 (Or.inr (sn16 hw)))
  have f10 := (P3.other W1 (Or.inr (sn19 hw)))
  have f11 := (P5.other W1 (Or.inr (sn24 hw)))
  have f12 := (P1.other W1 (Or.inr (sn29 hw)))
  exact (Or.inl ⟨_, _, hc5, X3, N1, (by rw [e3]; exact KL), (by rw [e3]; exact f8), (by rw [e3]; exact Fw1), (by rw [e3]; exact f9), (by rw [e3]; exact f10), (by rw [e3]; exact f2), (by rw [e3]; exact f11), (by rw [e3]; exact f12), pre7⟩)
 ·
  have pre13 : Go p e below T3 (mkF m 16 #[.val (.ref o1), .val (.ref o2)] []) E0 := fun t k => by
   refine pre4 _ ?_
   refine XS.ifYes X3.here hx rfl (pc0 := 9) (pc' := 16) rfl (hb hby d6_9) rfl ((if0 _ _).trans (feq hc5).2) (by decide) (by decide) ?_
   exact k
  have KL : Keep h0 h1 [o1] := ((Keep.refl h0 [o1]).wr W1 (Or.inl (List.mem_of_getElem? (i := 0) rfl)))
  have f14 := (P0.wr W1)
  have f15 := (P4.other W1 (Or.inr (sn16 hw)))
  have f16 := (P3.other W1 (Or.inr (sn19 hw)))
  have f17 := (P5.other W1 (Or.inr (sn24 hw)))
  have f18 := (P1.other W1 (Or.inr (sn29 hw)))
  exact (Or.inr ⟨_, _, hc5, X3, N1, (by rw [e3]; exact KL), (by rw [e3]; exact f14), (by rw [e3]; exact Fw1), (by rw [e3]; exact f15), (by rw [e3]; exact f16), (by rw [e3]; exact f2), (by rw [e3]; exact f17), (by rw [e3]; exact f18), pre13⟩)
set_option maxRecDepth 65536 in
set_option maxHeartbeats 40000000 in
theorem fa_1b {p : Program} {l : Launch} {e : Env} {s : State} {m : MethodId} {below : List Frame} {meth : Method} {c : Code} {E0 T0 : State} {locs : List Loc} {Z : State} {a0 : Array Value} (hw : HW a0 Z) {o1 : Addr} {o4 : Addr} {p13 : Int32} {p14 : Int32} {p15 : Int32} {p16 : Int32} {p17 : Int32} {o2 : Addr} {h0 : Heap} {n0 : Nat} (O0 : Old Z n0 h0)
    (hx : p.tables.exec = Jvm.exec) (hby : c.code = prog_41_method_7_code) (hml : c.maxLocals = 2) (hown : s.vm.findClass cn7 = some m.cls) (hret : meth.sig.returnType = none) (hlk : meth.locks = false) (hZ : Z.Warmed39 s.vm)
    (X0 : Stand p l e ({ frames := 2, cells := 1, slots := 33, locals := 31 } : Room) s m #[(.ref o1), (.ref o2)] below meth c T0 locs 1 33) (e0 : T0.heap = h0) (N0 : Fr n0 locs) (pre0 : Go p e below T0 (mkF m 16 #[.val (.ref o1), .val (.ref o2)] []) E0) (g_o1 : n0 ≤ o1) (P0 : Exa Z h0 o1 cn7) (P1 : Fld Z h0 o1 cn7 "slots" cn3 (.ref o4)) (P2 : Fld Z h0 o1 cn7 "low" "I" (.int p13)) (P3 : Fld Z h0 o1 cn7 "first" "I" (.int p14)) (P4 : Fld Z h0 o1 cn7 "end" "I" (.int p15)) (P5 : Fld Z h0 o1 cn7 "removed" "I" (.int p16)) (P6 : Fld Z h0 o1 cn7 "addsFirst" "Z" (.int p17)) :
    (∃ (T' : State) (lc : List Loc), Stand p l e ({ frames := 2, cells := 1, slots := 33, locals := 31 } : Room) s m #[(.ref o1), (.ref o2)] below meth c T' lc 1 33 ∧ Fr n0 lc ∧ Keep h0 T'.heap [o1] ∧ (Exa Z T'.heap o1 cn7) ∧ (Fld Z T'.heap o1 cn7 "addsFirst" "Z" (.int p17)) ∧ (Fld Z T'.heap o1 cn7 "end" "I" (.int p15)) ∧ (Fld Z T'.heap o1 cn7 "first" "I" (.int p14)) ∧ (Fld Z T'.heap o1 cn7 "low" "I" (.int (p13 - (1 : Int32)))) ∧ (Fld Z T'.heap o1 cn7 "removed" "I" (.int (p16 + (p14 - p13)))) ∧ (Fld Z T'.heap o1 cn7 "slots" cn3 (.ref o4)) ∧ Go p e below T' (mkF m 44 #[.val (.ref o1), .val (.ref o2)] []) E0) := by
 obtain ⟨T1, X1, e1, st1⟩ := yg X0 hx hZ hown hby (own_w hw 28 rfl) e0 P5 18 #[.val (.ref o1), .val (.ref o2)] [(.ref o1)] d6_18
 obtain ⟨T2, X2, e2, st2⟩ := yag X1 hx hZ hown hby (w_26 hw) e1 P3 21 #[.val (.ref o1), .val (.ref o2)] [(.int p16), (.ref o1)] d6_21 d6_22 rfl
 obtain ⟨T3, X3, e3, st3⟩ := yag X2 hx hZ hown hby (own_w hw 77 rfl) e2 P2 25 #[.val (.ref o1), .val (.ref o2)] [(.int p14), (.int p16), (.ref o1)] d6_25 d6_26 rfl
 obtain ⟨T4, h4, X4, e4, W4, st4⟩ := yp X3 hx hZ hown hby (own_w hw 28 rfl) e3 P5 P0 (own_w hw 29 rfl) (w_1 hw) (ty := .int) (v := (.int (p16 + (p14 - p13)))) (by decide) rfl rfl 31 #[.val (.ref o1), .val (.ref o2)] [] d6_31
 have N4 := Fr.snoc X4 N0 g_o1
 have Fw4 := P5.same W4
 have f5 := (P2.other W4 (Or.inr (sn22 hw)))
 obtain ⟨T6, X6, e6, st6⟩ := yg X4 hx hZ hown hby (own_w hw 77 rfl) e4 f5 36 #[.val (.ref o1), .val (.ref o2)] [(.ref o1)] d6_36
 have f7 := (P0.wr W4)
 obtain ⟨T8, h8, X8, e8, W8, st8⟩ := yp X6 hx hZ hown hby (own_w hw 77 rfl) e6 f5 f7 (own_w hw 78 rfl) (w_1 hw) (ty := .int) (v := (.int (p13 - (1 : Int32)))) (by decide) rfl rfl 41 #[.val (.ref o1), .val (.ref o2)] [] d6_41
 have N8 := Fr.snoc X8 N4 g_o1
 have Fw8 := f5.same W8
 have pre9 : Go p e below T8 (mkF m 44 #[.val (.ref o1), .val (.ref o2)] []) E0 := fun t k => by
  refine pre0 _ ?_
  refine yan X0 hx hby d6_16 rfl rfl ?_
  refine XS.dup X0.here hx rfl (hb hby d6_17) rfl rfl ?_
  refine st1 _ ?_
  refine st2 _ ?_
  refine st3 _ ?_
  refine ysu X3 hx hby d6_29 ?_
  refine yad X3 hx hby d6_30 ?_
  refine st4 _ ?_
  refine yan X4 hx hby d6_34 rfl rfl ?_
  refine XS.dup X4.here hx rfl (hb hby d6_35) rfl rfl ?_
  refine st6 _ ?_
  refine yic X6 hx hby d6_39 ?_
  refine ysu X6 hx hby d6_40 ?_
  refine st8 _ ?_
  exact k
 have KL : Keep h0 h8 [o1] := (((Keep.refl h0 [o1]).wr W4 (Or.inl (List.mem_of_getElem? (i := 0) rfl))).wr W8 (Or.inl (List.mem_of_getElem? (i := 0) rfl)))
 have f10 := (f7.wr W8)
 have f11 := ((P6.other W4 (Or.inr (sn14 hw))).other W8 (Or.inr (sn11 hw)))
 have f12 := ((P4.other W4 (Or.inr (sn15 hw))).other W8 (Or.inr (sn4 hw)))
 have f13 := ((P3.other W4 (Or.inr (sn18 hw))).other W8 (Or.inr (sn2 hw)))
 have f14 := (Fw4.other W8 (Or.inr (sn7 hw)))
 have f15 := ((P1.other W4 (Or.inr (sn28 hw))).other W8 (Or.inr (sn25 hw)))
 exact ⟨_, _, X8, N8, (by rw [e8]; exact KL), (by rw [e8]; exact f10), (by rw [e8]; exact f11), (by rw [e8]; exact f12), (by rw [e8]; exact f13), (by rw [e8]; exact Fw8), (by rw [e8]; exact f14), (by rw [e8]; exact f15), pre9⟩
def l562_0 (o1 o2 : Addr) : Array Slot := #[.val (.ref o1), .val (.ref o2)]
set_option maxRecDepth 65536 in
set_option maxHeartbeats 40000000 in
theorem fa_2b {p : Program} {l : Launch} {e : Env} {s : State} {m : MethodId} {below : List Frame} {meth : Method} {c : Code} {E0 T0 : State} {locs : List Loc} {Z : State} {a0 : Array Value} (hw : HW a0 Z) {o1 : Addr} {o4 : Addr} {kc8 : ClassId} {p13 : Int32} {p5 : Int32} {p14 : Int32} {p15 : Int32} {p16 : Int32} {p17 : Int32} {o2 : Addr} {vs : List Value} {ix1 : Nat} {h0 : Heap} {n0 : Nat} (O0 : Old Z n0 h0)
    (hx : p.tables.exec = Jvm.exec) (hby : c.code = prog_41_method_7_code) (hml : c.maxLocals = 2) (hown : s.vm.findClass cn7 = some m.cls) (hret : meth.sig.returnType = none) (hlk : meth.locks = false) (hZ : Z.Warmed39 s.vm)
    (X0 : Stand p l e ({ frames := 2, cells := 1, slots := 33, locals := 31 } : Room) s m #[(.ref o1), (.ref o2)] below meth c T0 locs 1 33) (e0 : T0.heap = h0) (N0 : Fr n0 locs) (pre0 : Go p e below T0 (mkF m 44 (l562_0 o1 o2) []) E0) (g_o1 : n0 ≤ o1) (g_o4 : n0 ≤ o4) (Ov_kc8 : Ovr Z kc8 cn6) (hp0 : ¬ (p13 < (0 : Int32))) (hp1 : p13 < p5) (P0 : Exa Z h0 o1 cn7) (P1 : Fld Z h0 o1 cn7 "slots" cn3 (.ref o4)) (P2 : Fld Z h0 o1 cn7 "low" "I" (.int p13)) (P3 : Fld Z h0 o1 cn7 "first" "I" (.int p14)) (P4 : Fld Z h0 o1 cn7 "end" "I" (.int p15)) (P5 : Fld Z h0 o1 cn7 "removed" "I" (.int p16)) (P6 : Fld Z h0 o1 cn7 "addsFirst" "Z" (.int p17)) (P7 : Arv Z h0 o4 kc8 (.object cn6) p5 vs .null) (P8 : Exa Z h0 o4 cn3) (P9 : Exa Z h0 o2 cn6) (hj : p13.toNatClampNeg = ix1) (hi : ix1 < vs.length) :
    (∃ (s₂ : State) (L : List Loc), Steps p.tables e below E0 s₂ ∧ s₂.status = .running ∧ Ended s₂ below (.returned none) ∧ Fr n0 L ∧ FrameEnd s (.returned none) s₂ L 1 33 ∧ Keep h0 s₂.heap [o4, o1] ∧ (Arv Z s₂.heap o4 kc8 (.object cn6) p5 (vs.set ix1 (.ref o2)) .null) ∧ (Exa Z s₂.heap o4 cn3) ∧ (Exa Z s₂.heap o1 cn7) ∧ (Fld Z s₂.heap o1 cn7 "addsFirst" "Z" (.int p17)) ∧ (Fld Z s₂.heap o1 cn7 "end" "I" (.int p15)) ∧ (Fld Z s₂.heap o1 cn7 "first" "I" (.int p13)) ∧ (Fld Z s₂.heap o1 cn7 "low" "I" (.int p13)) ∧ (Fld Z s₂.heap o1 cn7 "removed" "I" (.int p16)) ∧ (Fld Z s₂.heap o1 cn7 "slots" cn3 (.ref o4))) := by
 obtain ⟨T1, X1, e1, st1⟩ := yag X0 hx hZ hown hby (own_w hw 11 rfl) e0 P1 44 (l562_0 o1 o2) [] d6_44 d6_45 rfl
 obtain ⟨T2, X2, e2, st2⟩ := yag X1 hx hZ hown hby (own_w hw 77 rfl) e1 P2 48 (l562_0 o1 o2) [(.ref o4)] d6_48 d6_49 rfl
 obtain ⟨cl3, Ar3, qa3, Sa3, Na3, Ha3, Ga3⟩ := id (P7)
 have hin3 := inb_of (j := p13) Sa3 ⟨hp0, hp1⟩
 obtain ⟨T4, h4, X4, e4, W4, st4⟩ := stR X2 hx hZ e2 Ar3 (j := p13) hin3 rfl (Sto.ofV Ar3 qa3 Ov_kc8 (Ins.self P9)) (g := (mkF m 53 (l562_0 o1 o2) [(.ref o2), (.int p13), (.ref o4)])) rfl rfl (hb hby d6_53)
 have V4 : Arv Z h4 o4 kc8 (.object cn6) p5 (vs.set ix1 (.ref o2)) .null := Arv.set Ar3 qa3 Sa3 Na3 Ha3 Ga3 rfl W4 ix1 hj hi
 have N4 := Fr.snoc X4 N0 g_o4
 have f5 := (P0.wr W4)
 have f6 := (P8.wr W4)
 have ne7 : o1 ≠ o4 := ne_exa f5 f6 (by decide)
 have f8 := (P2.other W4 (Or.inl ne7))
 obtain ⟨T9, X9, e9, st9⟩ := yag X4 hx hZ hown hby (own_w hw 77 rfl) e4 f8 55 (l562_0 o1 o2) [(.ref o1)] d6_55 d6_56 rfl
 have f10 := (P3.other W4 (Or.inl ne7))
 obtain ⟨T11, h11, X11, e11, W11, st11⟩ := yp X9 hx hZ hown hby (w_26 hw) e9 f10 f5 (own_w hw 27 rfl) (w_1 hw) (ty := .int) (v := (.int p13)) (by decide) rfl rfl 59 (l562_0 o1 o2) [] d6_59
 have N11 := Fr.snoc X11 N4 g_o1
 have Fw11 := f10.same W11
 obtain ⟨fs, hr, hrun, hended, hW, hsame⟩ := X11.leave (v := none) (fun _ => rfl)
 have KL : Keep h0 h11 [o4, o1] := (((Keep.refl h0 [o4, o1]).wr W4 (Or.inl (List.mem_of_getElem? (i := 0) rfl))).wr W11 (Or.inl (List.mem_of_getElem? (i := 1) rfl)))
 have f12 := (V4.other W11 (Ne.symm ne7))
 have f13 := (f6.wr W11)
 have f14 := (f5.wr W11)
 have f15 := ((P6.other W4 (Or.inl ne7)).other W11 (Or.inr (sn12 hw)))
 have f16 := ((P4.other W4 (Or.inl ne7)).other W11 (Or.inr (sn5 hw)))
 have f17 := (f8.other W11 (Or.inr (sn20 hw)))
 have f18 := ((P5.other W4 (Or.inl ne7)).other W11 (Or.inr (sn8 hw)))
 have f19 := ((P1.other W4 (Or.inl ne7)).other W11 (Or.inr (sn26 hw)))
 refine ⟨_, _, pre0 _ ?_, hrun, hended, N11, ⟨⟨_, rfl⟩, hW, hsame.mono (by decide) (by decide)⟩, (by show _; rw [show (T11.setFrames fs).heap = _ from e11]; exact KL), (by show _; rw [show (T11.setFrames fs).heap = _ from e11]; exact f12), (by show _; rw [show (T11.setFrames fs).heap = _ from e11]; exact f13), (by show _; rw [show (T11.setFrames fs).heap = _ from e11]; exact f14), (by show _; rw [show (T11.setFrames fs).heap = _ from e11]; exact f15), (by show _; rw [show (T11.setFrames fs).heap = _ from e11]; exact f16), (by show _; rw [show (T11.setFrames fs).heap = _ from e11]; exact Fw11), (by show _; rw [show (T11.setFrames fs).heap = _ from e11]; exact f17), (by show _; rw [show (T11.setFrames fs).heap = _ from e11]; exact f18), (by show _; rw [show (T11.setFrames fs).heap = _ from e11]; exact f19)⟩
 show Steps p.tables e below (T0.setTop (mkF m 44 (l562_0 o1 o2) [])) _
 refine st1 _ ?_
 refine st2 _ ?_
 refine yan X2 hx hby d6_52 rfl rfl ?_
 refine st4 _ ?_
 refine yan X4 hx hby d6_54 rfl rfl ?_
 refine st9 _ ?_
 refine st11 _ ?_
 show Steps p.tables e below (T11.setTop (mkF m 62 (l562_0 o1 o2) [])) _
 exact X11.returnOut hx hret (hb hby d6_62) hr
set_option maxHeartbeats 4000000 in
theorem m_afb (l : Launch) (Z : State) (a0 : Array Value) (hw : HW a0 Z) (ws : List Jvm.Cond) (o1 c0 mm : Addr) (C : List Addr) (mk : Addr → Int64) (k : Nat) (h0 : Heap) (n0 : Nat) (O0 : Old Z n0 h0) (HC : CF Z h0 n0 (c0 :: C) mk) (hcC : c0 ∉ C) (hm : mk c0 = MX) (hmm : mm < h0.size) (HI : LInv Z h0 n0 o1 mm C mk k) (hB : k ≤ 11) :
    MF l yn6 prog_41_method_7_code 2 none ws ({ frames := 2, cells := 1, slots := 33, locals := 31 } : Room) #[(.ref o1), (.ref c0)] Z h0 (QAL Z o1 mm (c0 :: C) mk (k + 1) h0 n0) := by
  refine MetFree.of_bodySF (plainFor_of_name pn0) hisR ?_
  intro p e s m args below meth c s₁ Bd hml hP hK
  obtain ⟨rfl, hZ, hh⟩ := hP
  obtain ⟨hx, hby, hown, hret, hlk, X0, e0, N0⟩ := own_bd Bd hh n0
  have pre0 := own_ct s₁ (p := p) (e := e) (below := below) (ef_alb m o1 c0)
  revert pre0
  generalize s₁.setTop (entryFrame m #[(.ref o1), (.ref c0)] 2) = E0
  intro pre0
  have tail : ∀ (T : State) (lc : List Loc) (h1 : Heap) sa ka vs n lo fi en re af D, Old Z n0 h1 → Stand p l e ({ frames := 2, cells := 1, slots := 33, locals := 31 } : Room) s m #[(.ref o1), (.ref c0)] below meth c T lc 1 33 → T.heap = h1 → Fr n0 lc → Go p e below T (mkF m 16 #[.val (.ref o1), .val (.ref c0)] []) E0 → LS Z h1 n0 o1 sa ka vs n lo fi en re af → LD C D mk vs n lo fi en re af → 0 < lo → sa ≠ mm → en - fi - re = k → re ≤ en - fi →
      CF Z h1 n0 (c0 :: C) mk → Keep h0 h1 [o1] → (sa < h0.size → Exa Z h0 sa cn3) → n0 ≤ o1 →
      ∃ s₂ o, Steps p.tables e below E0 s₂ ∧ s₂.status = .running ∧ Ended s₂ below o ∧ ∃ v L, o = .returned v ∧ QAL Z o1 mm (c0 :: C) mk (k + 1) h0 n0 v s₂.heap L ∧ FrameEnd s o s₂ L 1 33 := by
    intro T lc h1 sa ka vs n lo fi en re af D O1 X e1 N pre HS HD hlo hsm hk hre HC1 K hE go
    obtain ⟨-, PE, Ps, Pl, Pf, Pe, Pr, Pa, PA, PX, dso⟩ := id HS
    have n64 : n ≤ 64 := HD.2.2.2.2.2.2.2.2.1
    have hlf : lo ≤ fi := HD.2.2.2.2.2.1
    have hfe : fi ≤ en := HD.2.2.2.2.2.2.1
    have hle : en ≤ n := HD.2.2.2.2.2.2.2.1
    have hvl : vs.length = n := HD.2.2.2.2.2.2.2.2.2.1
    obtain ⟨gs, ov, PX⟩ := PX.resolve_left (by omega)
    obtain ⟨T1, lc1, X1, N1, K1, E1, G1, G2, G3, G4, G5, G6, pre1⟩ := fa_1b hw O1 hx hby hml hown hret hlk hZ X e1 N pre go PE Ps Pl Pf Pe Pr Pa
    rw [show N32 lo - (1 : Int32) = N32 (lo - 1) from n_sub (b := 1) hlo] at G4
    rw [n_sub hlf, n_add] at G5
    have so : sa ≠ o1 := ne_exa PX PE (by decide)
    obtain ⟨s₂, L, st, hr, he, NL, FE, K2, A2, X2, E2, F1, F2, F3, F4, F5, F6⟩ := fa_2b hw (O1.keep K1 (allS go all0)) hx hby hml hown hret hlk hZ X1 rfl N1 pre1 go gs ov (n_nn (by omega)) ((n_lt (by omega) (by omega)).mpr (by omega)) E1 G6 G4 G3 G2 G5 G1 (PA.keep K1 (ninS so nin0)) (PX.keep K1) ((HC1 c0 (List.mem_cons_self ..)).2.1.keep K1) (n_nat (by omega)) (by omega)
    refine ⟨s₂, _, st, hr, he, _, _, rfl, ⟨rfl, NL, ?_, sa, ka, _, n, lo - 1, lo - 1, en, re + (fi - lo), af, c0 :: D, ?_, ld_cons HD hcC hm hlo, hsm, by omega⟩, FE⟩
    · have K3 := K.trans K1 (fun x hx => Or.inl hx)
      by_cases hs : sa < h0.size
      · refine ⟨[sa, o1], (k_mono K3 (fun x hx => List.mem_cons_of_mem _ hx)).trans K2 (fun x hx => Or.inl hx), fun x hx => ?_⟩
        rcases List.mem_cons.mp hx with rfl | hx
        · exact ⟨gs, Or.inr ⟨hE hs, hsm⟩⟩
        · cases List.mem_singleton.mp hx; exact ⟨go, Or.inl rfl⟩
      · refine ⟨[o1], K3.trans K2 (fun x hx => ?_), fun x hx => by cases List.mem_singleton.mp hx; exact ⟨go, Or.inl rfl⟩⟩
        rcases List.mem_cons.mp hx with rfl | hx
        · exact Or.inr (Nat.le_of_not_lt hs)
        · exact Or.inl hx
    · exact ⟨go, E2, F6, F4, F3, F2, F5, F1, A2, Or.inr ⟨gs, ov, X2⟩, dso⟩
  obtain ⟨sa, ka, vs, n, lo, fi, en, re, af, D, HS, HD, dmm, hk⟩ := id HI
  obtain ⟨go, PE, Ps, Pl, Pf, Pe, Pr, Pa, PA, PX, dso⟩ := id HS
  have hlen : (D.drop (fi - lo)).length = en - fi := by have := HD.1; rw [List.length_drop]; have := HD.2.2.2.2.2.1; have := HD.2.2.2.2.2.2.1; omega
  have hre : re ≤ en - fi := by rw [HD.2.2.2.2.2.2.2.2.2.2.2.1, ← hlen]; exact List.countP_le_length
  have hlf : lo ≤ fi := HD.2.2.2.2.2.1
  have hfe : fi ≤ en := HD.2.2.2.2.2.2.1
  have hle : en ≤ n := HD.2.2.2.2.2.2.2.1
  have n64 : n ≤ 64 := HD.2.2.2.2.2.2.2.2.1
  have no : ∀ x ∈ c0 :: C, x ∉ [o1] := fun x hx q => (ne_exa PE (HC x hx).2.1 (by decide)) (List.mem_singleton.mp q).symm
  have hPX : ∀ {h : Heap}, Keep h0 h [o1] → ((n = 0 ∧ sa < n0) ∨ (n0 ≤ sa ∧ Ovr Z ka cn6 ∧ Exa Z h sa cn3)) := fun K => PX.imp id (fun q => ⟨q.1, q.2.1, q.2.2.keep K⟩)
  rcases fa_0b hw O0 hx hby hml hown hret hlk hZ X0 e0 N0 pre0 go PE Ps Pl Pf Pe Pr Pa with ⟨T1, lc1, hc, X1, N1, K1, E1, G1, G2, G3, G4, G5, G6, pre1⟩ | ⟨T1, lc1, hc, X1, N1, K1, E1, G1, G2, G3, G4, G5, G6, pre1⟩
  · have O1 := O0.keep K1 (allS go all0)
    have HC1 : CF Z T1.heap n0 (c0 :: C) mk := fun x hx => by obtain ⟨a1, a2, a3⟩ := HC x hx; exact ⟨a1, a2.keep K1, a3.keep K1 (no x hx)⟩
    have HS1 : LS Z T1.heap n0 o1 sa ka vs n lo fi en re 1 := ⟨go, E1, G6, G4, G3, G2, G5, G1, PA.keep K1 (ninS dso nin0), hPX K1, dso⟩
    obtain ⟨_, T2, L2, X2, hQ, st2⟩ := own_pb X1 hx hZ hown (y := yn4) (own_w hw 65 rfl) (own_w hw 66 rfl) (own_selp (mvT hZ (own_w hw 22 rfl)) rfl (Cond.privateMethod_at (mvP hZ (own_w hw 67 rfl) (args := #[]))) (mvT hZ (own_w hw 66 rfl)) (by decide)) (own_w hw 67 rfl) (own_w hw 68 rfl) (w_2 hw) rfl E1 (argsL := []) (rest := []) (m_mvb l Z a0 hw [] o1 C D mk sa ka vs n lo fi en re 1 T1.heap n0 O1 (fun x hx => HC1 x (List.mem_cons_of_mem _ hx)) HS1 (ld_af HD) (by omega)) (g := (mkF m 13 #[.val (.ref o1), .val (.ref c0)] [(.ref o1)])) rfl (by rw [hml]; rfl) rfl (hb hby d6_13) (lenOf pd0 rfl) (W := 0) (c1 := 1) (s1 := 33)
    obtain ⟨rfl, NL, K, sa', ka', vs', n', lo', en', D', HS', HD', hen, hlo, gsa, hsz, hk'⟩ := hQ
    have hsz0 : h0.size ≤ sa' := Nat.le_trans K1.1 hsz
    exact tail T2 _ T2.heap sa' ka' vs' n' lo' lo' en' 0 1 D' (O1.keep K (allS go all0)) X2 rfl (Fr.app N1 NL) (fun t k => pre1 _ (st2 _ k)) HS' HD' (hlo rfl) (Nat.ne_of_gt (Nat.lt_of_lt_of_le hmm hsz0)) (by omega) (Nat.zero_le _) (fun x hx => by obtain ⟨a1, a2, a3⟩ := HC1 x hx; exact ⟨a1, a2.keep K, a3.keep K (no x hx)⟩) (K1.trans K (fun x hx => Or.inl hx)) (fun q => absurd hsz0 (Nat.not_le_of_lt q)) go
  · have hlo : 0 < lo := Nat.pos_of_ne_zero (fun q => hc (by rw [q]; rfl))
    obtain ⟨gs, ov, PX1⟩ := PX.resolve_left (by omega)
    have so : sa ≠ o1 := ne_exa PX1 PE (by decide)
    exact tail T1 lc1 T1.heap sa ka vs n lo fi en re 1 D (O0.keep K1 (allS go all0)) (X1.more (by decide) (by decide)) rfl N1 pre1 ⟨go, E1, G6, G4, G3, G2, G5, G1, PA.keep K1 (ninS dso nin0), hPX K1, dso⟩ (ld_af HD) hlo dmm hk hre (fun x hx => by obtain ⟨a1, a2, a3⟩ := HC x hx; exact ⟨a1, a2.keep K1, a3.keep K1 (no x hx)⟩) K1 (fun _ => PX1) go
set_option maxRecDepth 65536 in
set_option maxHeartbeats 40000000 in
theorem re_0b {p : Program} {l : Launch} {e : Env} {s : State} {m : MethodId} {below : List Frame} {meth : Method} {c : Code} {E0 T0 : State} {locs : List Loc} {Z : State} {a0 : Array Value} (hw : HW a0 Z) {o1 : Addr} {o2 : Addr} {o4 : Addr} {p13 : Int32} {p14 : Int32} {p15 : Int32} {p16 : Int32} {p17 : Int32} {q5 : Int64} {q3 : Int64} {h0 : Heap} {n0 : Nat} (O0 : Old Z n0 h0)
    (hx : p.tables.exec = Jvm.exec) (hby : c.code = prog_41_method_8_code) (hml : c.maxLocals = 4) (hown : s.vm.findClass cn7 = some m.cls) (hret : meth.sig.returnType = none) (hlk : meth.locks = false) (hZ : Z.Warmed39 s.vm)
    (X0 : Stand p l e ({ frames := 2, cells := 1, slots := 33, locals := 31 } : Room) s m #[(.ref o1), (.ref o2), (.long q3)] below meth c T0 locs 0 0) (e0 : T0.heap = h0) (N0 : Fr n0 locs) (pre0 : Go p e below T0 (mkF m 0 #[.val (.ref o1), .val (.ref o2), .val (.long q3), .second] []) E0) (g_o1 : n0 ≤ o1) (g_o2 : n0 ≤ o2) (P0 : Exa Z h0 o1 cn7) (P1 : Fld Z h0 o1 cn7 "slots" cn3 (.ref o4)) (P2 : Fld Z h0 o1 cn7 "low" "I" (.int p13)) (P3 : Fld Z h0 o1 cn7 "first" "I" (.int p14)) (P4 : Fld Z h0 o1 cn7 "end" "I" (.int p15)) (P5 : Fld Z h0 o1 cn7 "removed" "I" (.int p16)) (P6 : Fld Z h0 o1 cn7 "addsFirst" "Z" (.int p17)) (P7 : Exa Z h0 o2 cn6) (P8 : Fld Z h0 o2 cn6 "removed" "J" (.long q5)) :
    (∃ (T' : State) (lc : List Loc), Stand p l e ({ frames := 2, cells := 1, slots := 33, locals := 31 } : Room) s m #[(.ref o1), (.ref o2), (.long q3)] below meth c T' lc 0 0 ∧ Fr n0 lc ∧ Keep h0 T'.heap [o2, o1] ∧ (Exa Z T'.heap o2 cn6) ∧ (Fld Z T'.heap o2 cn6 "removed" "J" (.long q3)) ∧ (Exa Z T'.heap o1 cn7) ∧ (Fld Z T'.heap o1 cn7 "addsFirst" "Z" (.int p17)) ∧ (Fld Z T'.heap o1 cn7 "end" "I" (.int p15)) ∧ (Fld Z T'.heap o1 cn7 "first" "I" (.int p14)) ∧ (Fld Z T'.heap o1 cn7 "low" "I" (.int p13)) ∧ (Fld Z T'.heap o1 cn7 "removed" "I" (.int (p16 + (1 : Int32)))) ∧ (Fld Z T'.heap o1 cn7 "slots" cn3 (.ref o4)) ∧ Go p e below T' (mkF m 15 #[.val (.ref o1), .val (.ref o2), .val (.long q3), .second] []) E0) := by
 obtain ⟨_, T1, L1, X1, hQ1, st1⟩ := yv X0 hx hZ hown hby hml (y := yn2) (own_w hw 95 rfl) (own_w hw 96 rfl) (own_w hw 98 rfl) (own_w hw 97 rfl) (own_w hw 99 rfl) (own_w hw 36 rfl) e0 P7 [(.long q3)] [] (rm3 l Z a0 hw [] o2 q5 q3 h0 n0 O0 g_o2 P7 P8) 2 #[.val (.ref o1), .val (.ref o2), .val (.long q3), .second] rfl d7_2 (lenOf pd2 rfl) 0 0 0
 obtain ⟨rfl, Nq2, K3, f4, f5⟩ := hQ1
 have N1 := Fr.app N0 Nq2
 have f6 := (P0.keep K3)
 have ne7 : o1 ≠ o2 := ne_exa f6 f4 (by decide)
 have f8 := (P5.keep K3 (ninS ne7 nin0))
 obtain ⟨T9, X9, e9, st9⟩ := yg X1 hx hZ hown hby (own_w hw 28 rfl) rfl f8 7 #[.val (.ref o1), .val (.ref o2), .val (.long q3), .second] [(.ref o1)] d7_7
 obtain ⟨T10, h10, X10, e10, W10, st10⟩ := yp X9 hx hZ hown hby (own_w hw 28 rfl) e9 f8 f6 (own_w hw 29 rfl) (w_1 hw) (ty := .int) (v := (.int (p16 + (1 : Int32)))) (by decide) rfl rfl 12 #[.val (.ref o1), .val (.ref o2), .val (.long q3), .second] [] d7_12
 have N10 := Fr.snoc X10 N1 g_o1
 have Fw10 := f8.same W10
 have pre11 : Go p e below T10 (mkF m 15 #[.val (.ref o1), .val (.ref o2), .val (.long q3), .second] []) E0 := fun t k => by
  refine pre0 _ ?_
  refine yan X0 hx hby d7_0 rfl rfl ?_
  refine XS.lloadN X0.here hx rfl (hb hby d7_1) rfl ?_
  refine st1 _ ?_
  refine yan X1 hx hby d7_5 rfl rfl ?_
  refine XS.dup X1.here hx rfl (hb hby d7_6) rfl rfl ?_
  refine st9 _ ?_
  refine yic X9 hx hby d7_10 ?_
  refine yad X9 hx hby d7_11 ?_
  refine st10 _ ?_
  exact k
 have KL : Keep h0 h10 [o2, o1] := (((Keep.refl h0 [o2, o1]).trans K3 (allS (Or.inl (List.mem_of_getElem? (i := 0) rfl)) all0)).wr W10 (Or.inl (List.mem_of_getElem? (i := 1) rfl)))
 have f12 := (f4.wr W10)
 have f13 := (f5.other W10 (Or.inl (Ne.symm ne7)))
 have f14 := (f6.wr W10)
 have f15 := ((P6.keep K3 (ninS ne7 nin0)).other W10 (Or.inr (sn14 hw)))
 have f16 := ((P4.keep K3 (ninS ne7 nin0)).other W10 (Or.inr (sn15 hw)))
 have f17 := ((P3.keep K3 (ninS ne7 nin0)).other W10 (Or.inr (sn18 hw)))
 have f18 := ((P2.keep K3 (ninS ne7 nin0)).other W10 (Or.inr (sn22 hw)))
 have f19 := ((P1.keep K3 (ninS ne7 nin0)).other W10 (Or.inr (sn28 hw)))
 exact ⟨_, _, X10, N10, (by rw [e10]; exact KL), (by rw [e10]; exact f12), (by rw [e10]; exact f13), (by rw [e10]; exact f14), (by rw [e10]; exact f15), (by rw [e10]; exact f16), (by rw [e10]; exact f17), (by rw [e10]; exact f18), (by rw [e10]; exact Fw10), (by rw [e10]; exact f19), pre11⟩
set_option maxRecDepth 65536 in
set_option maxHeartbeats 40000000 in
theorem re_1b {p : Program} {l : Launch} {e : Env} {s : State} {m : MethodId} {below : List Frame} {meth : Method} {c : Code} {E0 T0 : State} {locs : List Loc} {Z : State} {a0 : Array Value} (hw : HW a0 Z) {o1 : Addr} {o6 : Addr} {p14 : Int32} {p15 : Int32} {p9 : Int32} {o4 : Addr} {p13 : Int32} {p16 : Int32} {p17 : Int32} {kc8 : ClassId} {q7 : Int64} {o2 : Addr} {q3 : Int64} {vs : List Value} {h0 : Heap} {n0 : Nat} (O0 : Old Z n0 h0)
    (hx : p.tables.exec = Jvm.exec) (hby : c.code = prog_41_method_8_code) (hml : c.maxLocals = 4) (hown : s.vm.findClass cn7 = some m.cls) (hret : meth.sig.returnType = none) (hlk : meth.locks = false) (hZ : Z.Warmed39 s.vm)
    (X0 : Stand p l e ({ frames := 2, cells := 1, slots := 33, locals := 31 } : Room) s m #[(.ref o1), (.ref o2), (.long q3)] below meth c T0 locs 0 0) (e0 : T0.heap = h0) (N0 : Fr n0 locs) (pre0 : Go p e below T0 (mkF m 15 #[.val (.ref o1), .val (.ref o2), .val (.long q3), .second] []) E0) (g_o1 : n0 ≤ o1) (g_o6 : n0 ≤ o6) (hp0 : p14 < p15) (hp1 : ¬ (p14 < (0 : Int32))) (hp2 : p14 < p9) (P0 : Exa Z h0 o1 cn7) (P1 : Fld Z h0 o1 cn7 "slots" cn3 (.ref o4)) (P2 : Fld Z h0 o1 cn7 "low" "I" (.int p13)) (P3 : Fld Z h0 o1 cn7 "first" "I" (.int p14)) (P4 : Fld Z h0 o1 cn7 "end" "I" (.int p15)) (P5 : Fld Z h0 o1 cn7 "removed" "I" (.int p16)) (P6 : Fld Z h0 o1 cn7 "addsFirst" "Z" (.int p17)) (P7 : Arv Z h0 o4 kc8 (.object cn6) p9 vs .null) (P8 : Exa Z h0 o6 cn6) (P9 : Fld Z h0 o6 cn6 "removed" "J" (.long q7)) (hrd : vs.getD p14.toNatClampNeg .null = .ref o6) :
    (∃ (T' : State) (lc : List Loc), (q7 = (9223372036854775807 : Int64)) ∧ Stand p l e ({ frames := 2, cells := 1, slots := 33, locals := 31 } : Room) s m #[(.ref o1), (.ref o2), (.long q3)] below meth c T' lc 0 0 ∧ Fr n0 lc ∧ T'.heap = h0 ∧ Go p e below T' (mkF m 64 #[.val (.ref o1), .val (.ref o2), .val (.long q3), .second] []) E0)
    ∨ (∃ (T' : State) (lc : List Loc), (¬ (q7 = (9223372036854775807 : Int64))) ∧ Stand p l e ({ frames := 2, cells := 1, slots := 33, locals := 31 } : Room) s m #[(.ref o1), (.ref o2), (.long q3)] below meth c T' lc 0 0 ∧ Fr n0 lc ∧ Keep h0 T'.heap [o1] ∧ (Exa Z T'.heap o1 cn7) ∧ (Fld Z T'.heap o1 cn7 "addsFirst" "Z" (.int p17)) ∧ (Fld Z T'.heap o1 cn7 "end" "I" (.int p15)) ∧ (Fld Z T'.heap o1 cn7 "first" "I" (.int (p14 + (1 : Int32)))) ∧ (Fld Z T'.heap o1 cn7 "low" "I" (.int p13)) ∧ (Fld Z T'.heap o1 cn7 "removed" "I" (.int (p16 - (1 : Int32)))) ∧ (Fld Z T'.heap o1 cn7 "slots" cn3 (.ref o4)) ∧ Go p e below T' (mkF m 15 #[.val (.ref o1), .val (.ref o2), .val (.long q3), .second] []) E0) := by
 obtain ⟨T1, X1, e1, st1⟩ := yag X0 hx hZ hown hby (w_26 hw) e0 P3 15 #[.val (.ref o1), .val (.ref o2), .val (.long q3), .second] [] d7_15 d7_16 rfl
 obtain ⟨T2, X2, e2, st2⟩ := yag X1 hx hZ hown hby (w_24 hw) e1 P4 19 #[.val (.ref o1), .val (.ref o2), .val (.long q3), .second] [(.int p14)] d7_19 d7_20 rfl
 obtain ⟨T3, X3, e3, st3⟩ := yag X2 hx hZ hown hby (own_w hw 11 rfl) e2 P1 26 #[.val (.ref o1), .val (.ref o2), .val (.long q3), .second] [] d7_26 d7_27 rfl
 obtain ⟨T4, X4, e4, st4⟩ := yag X3 hx hZ hown hby (w_26 hw) e3 P3 30 #[.val (.ref o1), .val (.ref o2), .val (.long q3), .second] [(.ref o4)] d7_30 d7_31 rfl
 obtain ⟨cl5, Ar5, qa5, Sa5, Na5, Ha5, Ga5⟩ := id (P7)
 have hin5 := inb_of (j := p14) Sa5 ⟨hp1, hp2⟩
 have hat5 : cl5.slots[(p14).toNatClampNeg]? = some (.ref o6) := Has.at Ha5 hin5 hrd
 obtain ⟨_, T6, L6, X6, hQ6, st6⟩ := yv X4 hx hZ hown hby hml (y := yn1) (own_w hw 85 rfl) (own_w hw 86 rfl) (own_w hw 88 rfl) (own_w hw 87 rfl) (own_w hw 89 rfl) (own_w hw 36 rfl) e4 P8 [] [] (rm2 l Z a0 hw [] o6 q7 h0 n0 O0 g_o6 P9) 35 #[.val (.ref o1), .val (.ref o2), .val (.long q3), .second] rfl d7_35 (lenOf pd1 rfl) 0 0 0
 have pre7 : Go p e below T4 (mkF m 35 #[.val (.ref o1), .val (.ref o2), .val (.long q3), .second] [(.ref o6)]) E0 := fun t k => by
  refine pre0 _ ?_
  refine st1 _ ?_
  refine st2 _ ?_
  refine yno X2 hx hby d7_23 (tlt hp0).2.1 ?_
  refine st3 _ ?_
  refine st4 _ ?_
  refine X4.aaload hx (j := p14) (v := (.ref o6)) (by rw [e4]; exact Ar5.1) (State.isArrayOf_alike hZ.alike Ar5.2.1) rfl Ar5.2.2 hin5 hat5 (g := (mkF m 34 #[.val (.ref o1), .val (.ref o2), .val (.long q3), .second] [(.int p14), (.ref o4)])) rfl rfl (hb hby d7_34) _ ?_
  exact k
 rcases hQ6 with ⟨hc8, rfl, Nq9, e10⟩ | ⟨hc11, rfl, Nq12, e13⟩
 ·
  have N6 := Fr.app N0 Nq9
  have pre14 : Go p e below T6 (mkF m 64 #[.val (.ref o1), .val (.ref o2), .val (.long q3), .second] []) E0 := fun t k => by
   refine pre7 _ ?_
   refine st6 _ ?_
   refine XS.ifYes X6.here hx rfl (pc0 := 38) (pc' := 64) rfl (hb hby d7_38) rfl ((if0 _ _).trans (feq (by decide : ¬ ((1 : Int32) = (0 : Int32)))).2) (by decide) (by decide) ?_
   exact k
  exact (Or.inl ⟨_, _, hc8, X6, N6, e10, pre14⟩)
 ·
  have N6 := Fr.app N0 Nq12
  obtain ⟨T15, X15, e15, st15⟩ := yg X6 hx hZ hown hby (w_26 hw) e13 P3 43 #[.val (.ref o1), .val (.ref o2), .val (.long q3), .second] [(.ref o1)] d7_43
  obtain ⟨T16, h16, X16, e16, W16, st16⟩ := yp X15 hx hZ hown hby (w_26 hw) e15 P3 P0 (own_w hw 27 rfl) (w_1 hw) (ty := .int) (v := (.int (p14 + (1 : Int32)))) (by decide) rfl rfl 48 #[.val (.ref o1), .val (.ref o2), .val (.long q3), .second] [] d7_48
  have N16 := Fr.snoc X16 N6 g_o1
  have Fw16 := P3.same W16
  have f17 := (P5.other W16 (Or.inr (sn8 hw)))
  obtain ⟨T18, X18, e18, st18⟩ := yg X16 hx hZ hown hby (own_w hw 28 rfl) e16 f17 53 #[.val (.ref o1), .val (.ref o2), .val (.long q3), .second] [(.ref o1)] d7_53
  have f19 := (P0.wr W16)
  obtain ⟨T20, h20, X20, e20, W20, st20⟩ := yp X18 hx hZ hown hby (own_w hw 28 rfl) e18 f17 f19 (own_w hw 29 rfl) (w_1 hw) (ty := .int) (v := (.int (p16 - (1 : Int32)))) (by decide) rfl rfl 58 #[.val (.ref o1), .val (.ref o2), .val (.long q3), .second] [] d7_58
  have N20 := Fr.snoc X20 N16 g_o1
  have Fw20 := f17.same W20
  have pre21 : Go p e below T20 (mkF m 15 #[.val (.ref o1), .val (.ref o2), .val (.long q3), .second] []) E0 := fun t k => by
   refine pre7 _ ?_
   refine st6 _ ?_
   refine yfn X6 hx hby d7_38 ((if0 _ _).trans (teq (by decide : (0 : Int32) = (0 : Int32))).2) ?_
   refine yan X6 hx hby d7_41 rfl rfl ?_
   refine XS.dup X6.here hx rfl (hb hby d7_42) rfl rfl ?_
   refine st15 _ ?_
   refine yic X15 hx hby d7_46 ?_
   refine yad X15 hx hby d7_47 ?_
   refine st16 _ ?_
   refine yan X16 hx hby d7_51 rfl rfl ?_
   refine XS.dup X16.here hx rfl (hb hby d7_52) rfl rfl ?_
   refine st18 _ ?_
   refine yic X18 hx hby d7_56 ?_
   refine ysu X18 hx hby d7_57 ?_
   refine st20 _ ?_
   refine ygo X20 hx hby 61 15 rfl d7_61 (by decide) ?_
   exact k
  have KL : Keep h0 h20 [o1] := (((Keep.refl h0 [o1]).wr W16 (Or.inl (List.mem_of_getElem? (i := 0) rfl))).wr W20 (Or.inl (List.mem_of_getElem? (i := 0) rfl)))
  have f22 := (f19.wr W20)
  have f23 := ((P6.other W16 (Or.inr (sn12 hw))).other W20 (Or.inr (sn14 hw)))
  have f24 := ((P4.other W16 (Or.inr (sn5 hw))).other W20 (Or.inr (sn15 hw)))
  have f25 := (Fw16.other W20 (Or.inr (sn18 hw)))
  have f26 := ((P2.other W16 (Or.inr (sn20 hw))).other W20 (Or.inr (sn22 hw)))
  have f27 := ((P1.other W16 (Or.inr (sn26 hw))).other W20 (Or.inr (sn28 hw)))
  exact (Or.inr ⟨_, _, hc11, X20, N20, (by rw [e20]; exact KL), (by rw [e20]; exact f22), (by rw [e20]; exact f23), (by rw [e20]; exact f24), (by rw [e20]; exact f25), (by rw [e20]; exact f26), (by rw [e20]; exact Fw20), (by rw [e20]; exact f27), pre21⟩)
set_option maxRecDepth 65536 in
set_option maxHeartbeats 40000000 in
theorem re_2b {p : Program} {l : Launch} {e : Env} {s : State} {m : MethodId} {below : List Frame} {meth : Method} {c : Code} {E0 T0 : State} {locs : List Loc} {Z : State} {a0 : Array Value} (hw : HW a0 Z) {p14 : Int32} {p15 : Int32} {o1 : Addr} {o2 : Addr} {q3 : Int64} {h0 : Heap} {n0 : Nat} (O0 : Old Z n0 h0)
    (hx : p.tables.exec = Jvm.exec) (hby : c.code = prog_41_method_8_code) (hml : c.maxLocals = 4) (hown : s.vm.findClass cn7 = some m.cls) (hret : meth.sig.returnType = none) (hlk : meth.locks = false) (hZ : Z.Warmed39 s.vm)
    (X0 : Stand p l e ({ frames := 2, cells := 1, slots := 33, locals := 31 } : Room) s m #[(.ref o1), (.ref o2), (.long q3)] below meth c T0 locs 0 0) (e0 : T0.heap = h0) (N0 : Fr n0 locs) (pre0 : Go p e below T0 (mkF m 15 #[.val (.ref o1), .val (.ref o2), .val (.long q3), .second] []) E0) (hp0 : ¬ (p14 < p15)) (P3 : Fld Z h0 o1 cn7 "first" "I" (.int p14)) (P4 : Fld Z h0 o1 cn7 "end" "I" (.int p15)) :
    (∃ (T' : State) (lc : List Loc), Stand p l e ({ frames := 2, cells := 1, slots := 33, locals := 31 } : Room) s m #[(.ref o1), (.ref o2), (.long q3)] below meth c T' lc 0 0 ∧ Fr n0 lc ∧ T'.heap = h0 ∧ Go p e below T' (mkF m 64 #[.val (.ref o1), .val (.ref o2), .val (.long q3), .second] []) E0) := by
 obtain ⟨T1, X1, e1, st1⟩ := yag X0 hx hZ hown hby (w_26 hw) e0 P3 15 #[.val (.ref o1), .val (.ref o2), .val (.long q3), .second] [] d7_15 d7_16 rfl
 obtain ⟨T2, X2, e2, st2⟩ := yag X1 hx hZ hown hby (w_24 hw) e1 P4 19 #[.val (.ref o1), .val (.ref o2), .val (.long q3), .second] [(.int p14)] d7_19 d7_20 rfl
 have pre3 : Go p e below T2 (mkF m 64 #[.val (.ref o1), .val (.ref o2), .val (.long q3), .second] []) E0 := fun t k => by
  refine pre0 _ ?_
  refine st1 _ ?_
  refine st2 _ ?_
  refine yye X2 hx hby 23 64 rfl d7_23 (flt hp0).2.1 (by decide) ?_
  exact k
 exact ⟨_, _, X2, N0, e2, pre3⟩
set_option maxRecDepth 65536 in
set_option maxHeartbeats 40000000 in
theorem re_3b {p : Program} {l : Launch} {e : Env} {s : State} {m : MethodId} {below : List Frame} {meth : Method} {c : Code} {E0 T0 : State} {locs : List Loc} {Z : State} {a0 : Array Value} (hw : HW a0 Z) {o1 : Addr} {p13 : Int32} {p14 : Int32} {p15 : Int32} {p16 : Int32} {o2 : Addr} {q3 : Int64} {h0 : Heap} {n0 : Nat} (O0 : Old Z n0 h0)
    (hx : p.tables.exec = Jvm.exec) (hby : c.code = prog_41_method_8_code) (hml : c.maxLocals = 4) (hown : s.vm.findClass cn7 = some m.cls) (hret : meth.sig.returnType = none) (hlk : meth.locks = false) (hZ : Z.Warmed39 s.vm)
    (X0 : Stand p l e ({ frames := 2, cells := 1, slots := 33, locals := 31 } : Room) s m #[(.ref o1), (.ref o2), (.long q3)] below meth c T0 locs 0 0) (e0 : T0.heap = h0) (N0 : Fr n0 locs) (pre0 : Go p e below T0 (mkF m 64 #[.val (.ref o1), .val (.ref o2), .val (.long q3), .second] []) E0) (g_o1 : n0 ≤ o1) (P0 : Exa Z h0 o1 cn7) (P1 : Fld Z h0 o1 cn7 "low" "I" (.int p13)) (P2 : Fld Z h0 o1 cn7 "first" "I" (.int p14)) (P3 : Fld Z h0 o1 cn7 "end" "I" (.int p15)) (P4 : Fld Z h0 o1 cn7 "removed" "I" (.int p16)) :
    (∃ (T' : State) (lc : List Loc), (((p15 - p14) - p16) < (4 : Int32)) ∧ ((4 : Int32) < ((p14 - p13) + p16)) ∧ Stand p l e ({ frames := 2, cells := 1, slots := 33, locals := 31 } : Room) s m #[(.ref o1), (.ref o2), (.long q3)] below meth c T' lc 0 0 ∧ Fr n0 lc ∧ T'.heap = h0 ∧ Go p e below T' (mkF m 90 #[.val (.ref o1), .val (.ref o2), .val (.long q3), .second] [(.ref o1)]) E0)
    ∨ (∃ (T' : State) (lc : List Loc), (((p15 - p14) - p16) < (4 : Int32)) ∧ (¬ ((4 : Int32) < ((p14 - p13) + p16))) ∧ Stand p l e ({ frames := 2, cells := 1, slots := 33, locals := 31 } : Room) s m #[(.ref o1), (.ref o2), (.long q3)] below meth c T' lc 0 0 ∧ Fr n0 lc ∧ T'.heap = h0 ∧ Go p e below T' (mkF m 93 #[.val (.ref o1), .val (.ref o2), .val (.long q3), .second] []) E0)
    ∨ (∃ (T' : State) (lc : List Loc), (¬ (((p15 - p14) - p16) < (4 : Int32))) ∧ (((p15 - p14) - p16) < ((p14 - p13) + p16)) ∧ Stand p l e ({ frames := 2, cells := 1, slots := 33, locals := 31 } : Room) s m #[(.ref o1), (.ref o2), (.long q3)] below meth c T' lc 0 0 ∧ Fr n0 lc ∧ T'.heap = h0 ∧ Go p e below T' (mkF m 90 #[.val (.ref o1), .val (.ref o2), .val (.long q3), .second] [(.ref o1)]) E0)
    ∨ (∃ (T' : State) (lc : List Loc), (¬ (((p15 - p14) - p16) < (4 : Int32))) ∧ (¬ (((p15 - p14) - p16) < ((p14 - p13) + p16))) ∧ Stand p l e ({ frames := 2, cells := 1, slots := 33, locals := 31 } : Room) s m #[(.ref o1), (.ref o2), (.long q3)] below meth c T' lc 0 0 ∧ Fr n0 lc ∧ T'.heap = h0 ∧ Go p e below T' (mkF m 93 #[.val (.ref o1), .val (.ref o2), .val (.long q3), .second] []) E0) := by
 obtain ⟨T1, X1, e1, st1⟩ := yag X0 hx hZ hown hby (w_26 hw) e0 P2 64 #[.val (.ref o1), .val (.ref o2), .val (.long q3), .second] [] d7_64 d7_65 rfl
 obtain ⟨T2, X2, e2, st2⟩ := yag X1 hx hZ hown hby (own_w hw 77 rfl) e1 P1 68 #[.val (.ref o1), .val (.ref o2), .val (.long q3), .second] [(.int p14)] d7_68 d7_69 rfl
 obtain ⟨T3, X3, e3, st3⟩ := yag X2 hx hZ hown hby (own_w hw 28 rfl) e2 P4 73 #[.val (.ref o1), .val (.ref o2), .val (.long q3), .second] [(.int (p14 - p13))] d7_73 d7_74 rfl
 obtain ⟨_, T4, L4, X4, hQ4, st4⟩ := yv X3 hx hZ hown hby hml (y := yn0) (own_w hw 69 rfl) (own_w hw 20 rfl) (own_w hw 22 rfl) (own_w hw 21 rfl) (own_w hw 23 rfl) (w_2 hw) e3 P0 [] [(.int ((p14 - p13) + p16))] (rm5 l Z a0 hw [] o1 p15 p14 p16 h0 n0 O0 g_o1 P3 P2 P4) 79 #[.val (.ref o1), .val (.ref o2), .val (.long q3), .second] rfl d7_79 (lenOf pd3 rfl) 1 0 0
 obtain ⟨rfl, Nq5, e6⟩ := hQ4
 have N4 := Fr.app N0 Nq5
 obtain ⟨_, T7, L7, X7, hQ7, st7⟩ := own_cs X4 hx hZ hown (y := yn3) (own_w hw 70 rfl) (own_w hw 71 rfl) (own_w hw 73 rfl) (own_w hw 72 rfl) e6 (argsL := [(.int ((p15 - p14) - p16)), (.int 4)]) (rest := [(.int ((p14 - p13) + p16))]) (rm4 l Z a0 hw [] (((p15 - p14) - p16)) ((4 : Int32)) h0 n0 O0 ) (g := (mkF m 83 #[.val (.ref o1), .val (.ref o2), .val (.long q3), .second] [(.int 4), (.int ((p15 - p14) - p16)), (.int ((p14 - p13) + p16))])) rfl (by rw [hml]; rfl) rfl (hb hby d7_83) (lenOf pd4 rfl) (W := 1) (c1 := 0) (s1 := 0)
 have pre8 : Go p e below T4 (mkF m 83 #[.val (.ref o1), .val (.ref o2), .val (.long q3), .second] [(.int 4), (.int ((p15 - p14) - p16)), (.int ((p14 - p13) + p16))]) E0 := fun t k => by
  refine pre0 _ ?_
  refine st1 _ ?_
  refine st2 _ ?_
  refine ysu X2 hx hby d7_72 ?_
  refine st3 _ ?_
  refine yad X3 hx hby d7_77 ?_
  refine yan X3 hx hby d7_78 rfl rfl ?_
  refine st4 _ ?_
  refine yic X4 hx hby d7_82 ?_
  exact k
 rcases hQ7 with ⟨hc9, rfl, Nq10, e11⟩ | ⟨hc12, rfl, Nq13, e14⟩
 ·
  have N7 := Fr.app N4 Nq10
  have pre15 : Go p e below T7 (mkF m 86 #[.val (.ref o1), .val (.ref o2), .val (.long q3), .second] [(.int 4), (.int ((p14 - p13) + p16))]) E0 := fun t k => by
   refine pre8 _ ?_
   refine st7 _ ?_
   exact k
  by_cases hc16 : (4 : Int32) < ((p14 - p13) + p16)
  ·
   have pre17 : Go p e below T7 (mkF m 90 #[.val (.ref o1), .val (.ref o2), .val (.long q3), .second] [(.ref o1)]) E0 := fun t k => by
    refine pre15 _ ?_
    refine yno X7 hx hby d7_86 (tlt hc16).2.2.2 ?_
    refine yan X7 hx hby d7_89 rfl rfl ?_
    exact k
   exact (Or.inl ⟨_, _, hc9, hc16, X7, N7, e11, pre17⟩)
  ·
   have pre18 : Go p e below T7 (mkF m 93 #[.val (.ref o1), .val (.ref o2), .val (.long q3), .second] []) E0 := fun t k => by
    refine pre15 _ ?_
    refine yye X7 hx hby 86 93 rfl d7_86 (flt hc16).2.2.2 (by decide) ?_
    exact k
   exact (Or.inr (Or.inl ⟨_, _, hc9, hc16, X7, N7, e11, pre18⟩))
 ·
  have N7 := Fr.app N4 Nq13
  have pre19 : Go p e below T7 (mkF m 86 #[.val (.ref o1), .val (.ref o2), .val (.long q3), .second] [(.int ((p15 - p14) - p16)), (.int ((p14 - p13) + p16))]) E0 := fun t k => by
   refine pre8 _ ?_
   refine st7 _ ?_
   exact k
  by_cases hc20 : ((p15 - p14) - p16) < ((p14 - p13) + p16)
  ·
   have pre21 : Go p e below T7 (mkF m 90 #[.val (.ref o1), .val (.ref o2), .val (.long q3), .second] [(.ref o1)]) E0 := fun t k => by
    refine pre19 _ ?_
    refine yno X7 hx hby d7_86 (tlt hc20).2.2.2 ?_
    refine yan X7 hx hby d7_89 rfl rfl ?_
    exact k
   exact (Or.inr (Or.inr (Or.inl ⟨_, _, hc12, hc20, X7, N7, e14, pre21⟩)))
  ·
   have pre22 : Go p e below T7 (mkF m 93 #[.val (.ref o1), .val (.ref o2), .val (.long q3), .second] []) E0 := fun t k => by
    refine pre19 _ ?_
    refine yye X7 hx hby 86 93 rfl d7_86 (flt hc20).2.2.2 (by decide) ?_
    exact k
   exact (Or.inr (Or.inr (Or.inr ⟨_, _, hc12, hc20, X7, N7, e14, pre22⟩)))
set_option maxRecDepth 65536 in
set_option maxHeartbeats 40000000 in
theorem re_4b {p : Program} {l : Launch} {e : Env} {s : State} {m : MethodId} {below : List Frame} {meth : Method} {c : Code} {E0 T0 : State} {locs : List Loc} {Z : State} {a0 : Array Value} (hw : HW a0 Z) {o1 : Addr} {o2 : Addr} {q3 : Int64} {h0 : Heap} {n0 : Nat} (O0 : Old Z n0 h0)
    (hx : p.tables.exec = Jvm.exec) (hby : c.code = prog_41_method_8_code) (hml : c.maxLocals = 4) (hown : s.vm.findClass cn7 = some m.cls) (hret : meth.sig.returnType = none) (hlk : meth.locks = false) (hZ : Z.Warmed39 s.vm)
    (X0 : Stand p l e ({ frames := 2, cells := 1, slots := 33, locals := 31 } : Room) s m #[(.ref o1), (.ref o2), (.long q3)] below meth c T0 locs 1 33) (e0 : T0.heap = h0) (N0 : Fr n0 locs) (pre0 : Go p e below T0 (mkF m 93 #[.val (.ref o1), .val (.ref o2), .val (.long q3), .second] []) E0) :
    (∃ (s₂ : State) (L : List Loc), Steps p.tables e below E0 s₂ ∧ s₂.status = .running ∧ Ended s₂ below (.returned none) ∧ Fr n0 L ∧ FrameEnd s (.returned none) s₂ L 1 33 ∧ s₂.heap = h0) := by
 obtain ⟨fs, hr, hrun, hended, hW, hsame⟩ := X0.leave (v := none) (fun _ => rfl)
 refine ⟨_, _, pre0 _ ?_, hrun, hended, N0, ⟨⟨_, rfl⟩, hW, hsame.mono (by decide) (by decide)⟩, e0⟩
 show Steps p.tables e below (T0.setTop (mkF m 93 #[.val (.ref o1), .val (.ref o2), .val (.long q3), .second] [])) _
 exact X0.returnOut hx hret (hb hby d7_93) hr
theorem re_loopb {p : Program} {l : Launch} {e : Env} {s : State} {m : MethodId} {below : List Frame} {meth : Method} {c : Code} {E0 : State} {Z : State} {a0 : Array Value} (hw : HW a0 Z) {o1 c0 sa : Addr} {q2 : Int64} {ka : ClassId} {vs : List Value} {n lo en n0 : Nat} {af : Int32} {C D : List Addr} {mk : Addr → Int64}
    (hx : p.tables.exec = Jvm.exec) (hby : c.code = prog_41_method_8_code) (hml : c.maxLocals = 4) (hown : s.vm.findClass cn7 = some m.cls) (hret : meth.sig.returnType = none) (hlk : meth.locks = false) (hZ : Z.Warmed39 s.vm) :
    ∀ (d fi re : Nat) (h0 : Heap) (T0 : State) (locs : List Loc), en - fi = d → Old Z n0 h0 → Stand p l e ({ frames := 2, cells := 1, slots := 33, locals := 31 } : Room) s m #[(.ref o1), (.ref c0), (.long q2)] below meth c T0 locs 0 0 → T0.heap = h0 → Fr n0 locs →
      Go p e below T0 (mkF m 15 #[.val (.ref o1), .val (.ref c0), .val (.long q2), .second] []) E0 → LS Z h0 n0 o1 sa ka vs n lo fi en re af → LD C D mk vs n lo fi en re af → CF Z h0 n0 C mk →
      ∃ (T' : State) (lc : List Loc) (fi' re' : Nat), Stand p l e ({ frames := 2, cells := 1, slots := 33, locals := 31 } : Room) s m #[(.ref o1), (.ref c0), (.long q2)] below meth c T' lc 0 0 ∧ Fr n0 lc ∧ Keep h0 T'.heap [o1] ∧ LS Z T'.heap n0 o1 sa ka vs n lo fi' en re' af ∧ LD C D mk vs n lo fi' en re' af ∧ en - fi' - re' = en - fi - re ∧
        Go p e below T' (mkF m 64 #[.val (.ref o1), .val (.ref c0), .val (.long q2), .second] []) E0 := by
  intro d
  induction d with
  | zero =>
    intro fi re h0 T0 locs hd O0 X0 e0 N0 pre0 HS HD HC
    obtain ⟨go, PE, Ps, Pl, Pf, Pe, Pr, Pa, PA, PX, dso⟩ := id HS
    obtain ⟨d1, d2, d3, d4, d5, d6, d7, d8, d9, d10, d11, d12, d13⟩ := id HD
    obtain ⟨T', lc, X', N', e', pre'⟩ := re_2b hw O0 hx hby hml hown hret hlk hZ X0 e0 N0 pre0 (fun q => absurd ((n_lt (by omega) (by omega)).mp q) (by omega)) Pf Pe
    refine ⟨T', lc, fi, re, X', N', ?_, ?_, HD, rfl, pre'⟩
    · rw [e']; exact Keep.refl _ _
    · rw [e']; exact HS
  | succ d ih =>
    intro fi re h0 T0 locs hd O0 X0 e0 N0 pre0 HS HD HC
    obtain ⟨go, PE, Ps, Pl, Pf, Pe, Pr, Pa, PA, PX, dso⟩ := id HS
    obtain ⟨d1, d2, d3, d4, d5, d6, d7, d8, d9, d10, d11, d12, d13⟩ := id HD
    have hi : fi - lo < D.length := by omega
    obtain ⟨a, ha⟩ : ∃ a, D[fi - lo]? = some a := ⟨_, List.getElem?_eq_getElem hi⟩
    have ea : D[fi - lo] = a := (List.getElem?_eq_some_iff.mp ha).2
    have hrd : vs.getD (N32 fi).toNatClampNeg .null = .ref a := by
      rw [n_nat (by omega)]; have z := d2 (fi - lo) hi; rw [show lo + (fi - lo) = fi by omega, ea] at z; exact z
    obtain ⟨ga, Ea, Fa⟩ := HC a (d4 a (ea ▸ List.getElem_mem hi))
    rcases re_1b hw O0 hx hby hml hown hret hlk hZ X0 e0 N0 pre0 go ga ((n_lt (by omega) (by omega)).mpr (by omega)) (n_nn (by omega)) ((n_lt (by omega) (by omega)).mpr (by omega)) PE Ps Pl Pf Pe Pr Pa PA Ea Fa hrd with ⟨T', lc, hm, X', N', e', pre'⟩ | ⟨T', lc, hm, X', N', K', G0, G1, G2, G3, G4, G5, G6, pre'⟩
    · refine ⟨T', lc, fi, re, X', N', ?_, ?_, HD, rfl, pre'⟩
      · rw [e']; exact Keep.refl _ _
      · rw [e']; exact HS
    · obtain ⟨HD', hre⟩ := ld_adv HD (by omega) ha hm
      rw [show N32 fi + (1 : Int32) = N32 (fi + 1) from n_add fi 1] at G3
      rw [show N32 re - (1 : Int32) = N32 (re - 1) from n_sub (b := 1) hre] at G5
      have HS' : LS Z T'.heap n0 o1 sa ka vs n lo (fi + 1) en (re - 1) af := ⟨go, G0, G6, G4, G3, G2, G5, G1, PA.keep K' (ninS dso nin0), PX.imp id (fun q => ⟨q.1, q.2.1, q.2.2.keep K'⟩), dso⟩
      obtain ⟨T2, lc2, fi', re', X2, N2, K2, HS2, HD2, hk2, pre2⟩ := ih (fi + 1) (re - 1) T'.heap T' lc (by omega) (O0.keep K' (allS go all0)) X' rfl N' pre' HS' HD'
        (fun x hx => by obtain ⟨a1, a2, a3⟩ := HC x hx; exact ⟨a1, a2.keep K', a3.keep K' (ninS (Ne.symm (ne_exa PE a2 (by decide))) nin0)⟩)
      exact ⟨T2, lc2, fi', re', X2, N2, K'.trans K2 (fun x hx => Or.inl hx), HS2, HD2, by omega, pre2⟩
theorem ef_rmb (m : MethodId) (x0 x1 : Addr) (x2 : Int64) : entryFrame m #[(.ref x0), (.ref x1), (.long x2)] 4 = mkF m 0 #[.val (.ref x0), .val (.ref x1), .val (.long x2), .second] [] := by first | (simp [entryFrame, mkF, argsToLocals, Value.category]; done) | rfl
set_option maxHeartbeats 4000000 in
theorem m_rmb (l : Launch) (Z : State) (a0 : Array Value) (hw : HW a0 Z) (ws : List Jvm.Cond) (o1 c0 mm : Addr) (C : List Addr) (mk : Addr → Int64) (q2 : Int64) (k : Nat) (h0 : Heap) (n0 : Nat) (O0 : Old Z n0 h0) (hq : q2 ≠ MX) (HC : CF Z h0 n0 C mk) (hc : c0 ∈ C) (hm : mk c0 = MX) (hmm : mm < h0.size) (HI : LInv Z h0 n0 o1 mm C mk k) (hB : k ≤ 11) :
    MF l yn7 prog_41_method_8_code 4 none ws ({ frames := 2, cells := 1, slots := 33, locals := 31 } : Room) #[(.ref o1), (.ref c0), (.long q2)] Z h0 (QRM Z o1 c0 mm C (up mk c0 q2) (k - 1) h0 n0) := by
  refine MetFree.of_bodySF (plainFor_of_name pn0) hisR ?_
  intro p e s m args below meth c s₁ Bd hml hP hK
  obtain ⟨rfl, hZ, hh⟩ := hP
  obtain ⟨hx, hby, hown, hret, hlk, X0, e0, N0⟩ := own_bd Bd hh n0
  have pre0 := own_ct s₁ (p := p) (e := e) (below := below) (ef_rmb m o1 c0 q2)
  revert pre0
  generalize s₁.setTop (entryFrame m #[(.ref o1), (.ref c0), (.long q2)] 4) = E0
  intro pre0
  have tail : ∀ (T : State) (lc : List Loc) (h1 : Heap), Old Z n0 h1 → Stand p l e ({ frames := 2, cells := 1, slots := 33, locals := 31 } : Room) s m #[(.ref o1), (.ref c0), (.long q2)] below meth c T lc 1 33 → T.heap = h1 → Fr n0 lc → Go p e below T (mkF m 93 #[.val (.ref o1), .val (.ref c0), .val (.long q2), .second] []) E0 →
      LInv Z h1 n0 o1 mm C (up mk c0 q2) (k - 1) → CF Z h1 n0 C (up mk c0 q2) → Keep h0 h1 [c0, o1] →
      ∃ s₂ o, Steps p.tables e below E0 s₂ ∧ s₂.status = .running ∧ Ended s₂ below o ∧ ∃ v L, o = .returned v ∧ QRM Z o1 c0 mm C (up mk c0 q2) (k - 1) h0 n0 v s₂.heap L ∧ FrameEnd s o s₂ L 1 33 := by
    intro T lc h1 O1 X e1 N pre HI1 HC1 K
    obtain ⟨s₂, L, st, hr, he, NL, FE, eH⟩ := re_4b hw O1 hx hby hml hown hret hlk hZ X e1 N pre
    exact ⟨s₂, _, st, hr, he, _, _, rfl, ⟨rfl, NL, by rw [eH]; exact K, by rw [eH]; exact HC1, by rw [eH]; exact HI1⟩, FE⟩
  obtain ⟨sa, ka, vs, n, lo, fi, en, re, af, D, HS, HD, dmm, hk⟩ := id HI
  obtain ⟨go, PE, Ps, Pl, Pf, Pe, Pr, Pa, PA, PX, dso⟩ := id HS
  obtain ⟨gc, Ec, Fc⟩ := HC c0 hc
  have hpos := ld_pos HD hc hm
  have hle : en ≤ n := HD.2.2.2.2.2.2.2.1
  obtain ⟨gs, ov, PX1⟩ := PX.resolve_left (by omega)
  have sc : sa ≠ c0 := ne_exa PX1 Ec (by decide)
  have no : ∀ x ∈ C, o1 ≠ x := fun x hx => ne_exa PE (HC x hx).2.1 (by decide)
  obtain ⟨T1, lc1, X1, N1, K1, Ec1, Fc1, G0, G1, G2, G3, G4, G5, G6, pre1⟩ := re_0b hw O0 hx hby hml hown hret hlk hZ X0 e0 N0 pre0 go gc PE Ps Pl Pf Pe Pr Pa Ec Fc
  rw [show N32 re + (1 : Int32) = N32 (re + 1) from n_add re 1] at G5
  have O1 := O0.keep K1 (allS gc (allS go all0))
  have HS1 : LS Z T1.heap n0 o1 sa ka vs n lo fi en (re + 1) af := ⟨go, G0, G6, G4, G3, G2, G5, G1, PA.keep K1 (ninS sc (ninS dso nin0)), Or.inr ⟨gs, ov, PX1.keep K1⟩, dso⟩
  have HC1 : CF Z T1.heap n0 C (up mk c0 q2) := fun x hx => by
    obtain ⟨a1, a2, a3⟩ := HC x hx
    by_cases ex : x = c0
    · subst ex; rw [up_s]; exact ⟨a1, Ec1, Fc1⟩
    · rw [up_n mk q2 ex]; exact ⟨a1, a2.keep K1, a3.keep K1 (ninS ex (ninS (Ne.symm (no x hx)) nin0))⟩
  obtain ⟨T2, lc2, fi', re', X2, N2, K2, HS2, HD2, hk2, pre2⟩ := re_loopb hw hx hby hml hown hret hlk hZ (en - fi) fi (re + 1) T1.heap T1 lc1 rfl O1 X1 rfl N1 pre1 HS1 (ld_rm HD hc hm hq) HC1
  have O2 := O1.keep K2 (allS go all0)
  have K02 : Keep h0 T2.heap [c0, o1] := K1.trans K2 (fun x hx => by cases List.mem_singleton.mp hx; exact Or.inl (List.mem_cons_of_mem _ (List.mem_singleton.mpr rfl)))
  have HC2 : CF Z T2.heap n0 C (up mk c0 q2) := fun x hx => by obtain ⟨a1, a2, a3⟩ := HC1 x hx; exact ⟨a1, a2.keep K2, a3.keep K2 (ninS (Ne.symm (no x hx)) nin0)⟩
  have HI2 : LInv Z T2.heap n0 o1 mm C (up mk c0 q2) (k - 1) := ⟨sa, ka, vs, n, lo, fi', en, re', af, D, HS2, HD2, dmm, by omega⟩
  obtain ⟨-, PE2, -, Pl2, Pf2, Pe2, Pr2, -, -, -, -⟩ := id HS2
  have fin : ∀ (T : State) (lc : List Loc), Stand p l e ({ frames := 2, cells := 1, slots := 33, locals := 31 } : Room) s m #[(.ref o1), (.ref c0), (.long q2)] below meth c T lc 0 0 → Fr n0 lc → T.heap = T2.heap → Go p e below T (mkF m 93 #[.val (.ref o1), .val (.ref c0), .val (.long q2), .second] []) E0 →
      ∃ s₂ o, Steps p.tables e below E0 s₂ ∧ s₂.status = .running ∧ Ended s₂ below o ∧ ∃ v L, o = .returned v ∧ QRM Z o1 c0 mm C (up mk c0 q2) (k - 1) h0 n0 v s₂.heap L ∧ FrameEnd s o s₂ L 1 33 :=
    fun T lc X N eT pre => tail T lc T2.heap O2 (X.more (by decide) (by decide)) eT N pre HI2 HC2 K02
  have mov : ∀ (T : State) (lc : List Loc), Stand p l e ({ frames := 2, cells := 1, slots := 33, locals := 31 } : Room) s m #[(.ref o1), (.ref c0), (.long q2)] below meth c T lc 0 0 → Fr n0 lc → T.heap = T2.heap → Go p e below T (mkF m 90 #[.val (.ref o1), .val (.ref c0), .val (.long q2), .second] [(.ref o1)]) E0 →
      ∃ s₂ o, Steps p.tables e below E0 s₂ ∧ s₂.status = .running ∧ Ended s₂ below o ∧ ∃ v L, o = .returned v ∧ QRM Z o1 c0 mm C (up mk c0 q2) (k - 1) h0 n0 v s₂.heap L ∧ FrameEnd s o s₂ L 1 33 := by
    intro T lc X N eT pre
    obtain ⟨_, T3, L3, X3, hQ, st3⟩ := own_pb X hx hZ hown (y := yn4) (own_w hw 65 rfl) (own_w hw 66 rfl) (own_selp (mvT hZ (own_w hw 22 rfl)) rfl (Cond.privateMethod_at (mvP hZ (own_w hw 67 rfl) (args := #[]))) (mvT hZ (own_w hw 66 rfl)) (by decide)) (own_w hw 67 rfl) (own_w hw 68 rfl) (w_2 hw) eT PE2 (argsL := []) (rest := []) (m_mvb l Z a0 hw [] o1 C D (up mk c0 q2) sa ka vs n lo fi' en re' af T2.heap n0 O2 HC2 HS2 HD2 (by omega)) (g := (mkF m 90 #[.val (.ref o1), .val (.ref c0), .val (.long q2), .second] [(.ref o1)])) rfl (by rw [hml]; rfl) rfl (hb hby d7_90) (lenOf pd0 rfl) (W := 0) (c1 := 1) (s1 := 33)
    obtain ⟨rfl, NL, K, sa', ka', vs', n', lo', en', D', HS', HD', hen, hlo, gsa, hsz, hk'⟩ := hQ
    have hsz0 : h0.size ≤ sa' := Nat.le_trans K02.1 hsz
    exact tail T3 _ T3.heap (O2.keep K (allS go all0)) X3 rfl (Fr.app N NL) (fun t k => pre _ (st3 _ k)) ⟨sa', ka', vs', n', lo', lo', en', 0, af, D', HS', HD', Nat.ne_of_gt (Nat.lt_of_lt_of_le hmm hsz0), by omega⟩
      (fun x hx => by obtain ⟨a1, a2, a3⟩ := HC2 x hx; exact ⟨a1, a2.keep K, a3.keep K (ninS (Ne.symm (no x hx)) nin0)⟩) (K02.trans K (fun x hx => by cases List.mem_singleton.mp hx; exact Or.inl (List.mem_cons_of_mem _ (List.mem_singleton.mpr rfl))))
  rcases re_3b hw O2 hx hby hml hown hret hlk hZ X2 rfl N2 pre2 go PE2 Pl2 Pf2 Pe2 Pr2 with ⟨T3, lc3, -, -, X3, N3, e3, pre3⟩ | ⟨T3, lc3, -, -, X3, N3, e3, pre3⟩ | ⟨T3, lc3, -, -, X3, N3, e3, pre3⟩ | ⟨T3, lc3, -, -, X3, N3, e3, pre3⟩
  · exact mov T3 lc3 X3 N3 e3 pre3
  · exact fin T3 lc3 X3 N3 e3 pre3
  · exact mov T3 lc3 X3 N3 e3 pre3
  · exact fin T3 lc3 X3 N3 e3 pre3
set_option maxRecDepth 65536 in
set_option maxHeartbeats 40000000 in
theorem st_0b {p : Program} {l : Launch} {e : Env} {s : State} {m : MethodId} {below : List Frame} {meth : Method} {c : Code} {E0 T0 : State} {locs : List Loc} {Z : State} {a0 : Array Value} (hw : HW a0 Z) {o1 : Addr} {o2 : Addr} {o3 : Addr} {o4 : Addr} {o5 : Addr} {o6 : Addr} {p7 : Int32} {h0 : Heap} {n0 : Nat} (O0 : Old Z n0 h0)
    (hx : p.tables.exec = Jvm.exec) (hby : c.code = method_3_code) (hml : c.maxLocals = 10) (hown : s.vm.findClass cn8 = some m.cls) (hret : meth.sig.returnType = some .boolean) (hlk : meth.locks = false) (hZ : Z.Warmed39 s.vm)
    (X0 : Stand p l e ({ frames := 3, cells := 2, slots := 42, locals := 46 } : Room) s m #[(.ref o1), (.ref o2), (.ref o3), (.ref o4), (.ref o5), (.ref o6), (.int p7)] below meth c T0 locs 0 0) (e0 : T0.heap = h0) (N0 : Fr n0 locs) (pre0 : Go p e below T0 (mkF m 0 #[.val (.ref o1), .val (.ref o2), .val (.ref o3), .val (.ref o4), .val (.ref o5), .val (.ref o6), .val (.int p7), .unset, .unset, .unset] []) E0) :
    (∃ (T' : State) (lc : List Loc), ((3 : Int32) < (p7 &&& (7 : Int32))) ∧ ((6 : Int32) < (p7 &&& (7 : Int32))) ∧ Stand p l e ({ frames := 3, cells := 2, slots := 42, locals := 46 } : Room) s m #[(.ref o1), (.ref o2), (.ref o3), (.ref o4), (.ref o5), (.ref o6), (.int p7)] below meth c T' lc 0 0 ∧ Fr n0 lc ∧ T'.heap = h0 ∧ Go p e below T' (mkF m 166 #[.val (.ref o1), .val (.ref o2), .val (.ref o3), .val (.ref o4), .val (.ref o5), .val (.ref o6), .val (.int p7), .val (.int 7), .unset, .unset] []) E0)
    ∨ (∃ (T' : State) (lc : List Loc), ((3 : Int32) < (p7 &&& (7 : Int32))) ∧ (¬ ((6 : Int32) < (p7 &&& (7 : Int32)))) ∧ Stand p l e ({ frames := 3, cells := 2, slots := 42, locals := 46 } : Room) s m #[(.ref o1), (.ref o2), (.ref o3), (.ref o4), (.ref o5), (.ref o6), (.int p7)] below meth c T' lc 0 0 ∧ Fr n0 lc ∧ T'.heap = h0 ∧ Go p e below T' (mkF m 102 #[.val (.ref o1), .val (.ref o2), .val (.ref o3), .val (.ref o4), .val (.ref o5), .val (.ref o6), .val (.int p7), .val (.int (p7 &&& (7 : Int32))), .unset, .unset] []) E0)
    ∨ (∃ (T' : State) (lc : List Loc), (¬ ((3 : Int32) < (p7 &&& (7 : Int32)))) ∧ Stand p l e ({ frames := 3, cells := 2, slots := 42, locals := 46 } : Room) s m #[(.ref o1), (.ref o2), (.ref o3), (.ref o4), (.ref o5), (.ref o6), (.int p7)] below meth c T' lc 0 0 ∧ Fr n0 lc ∧ T'.heap = h0 ∧ Go p e below T' (mkF m 13 #[.val (.ref o1), .val (.ref o2), .val (.ref o3), .val (.ref o4), .val (.ref o5), .val (.ref o6), .val (.int p7), .val (.int (p7 &&& (7 : Int32))), .unset, .unset] []) E0) := by
 have pre1 : Go p e below T0 (mkF m 10 #[.val (.ref o1), .val (.ref o2), .val (.ref o3), .val (.ref o4), .val (.ref o5), .val (.ref o6), .val (.int p7), .val (.int (p7 &&& (7 : Int32))), .unset, .unset] [(.int 3), (.int (p7 &&& (7 : Int32)))]) E0 := fun t k => by
  refine pre0 _ ?_
  refine yil X0 hx hby d9_0 rfl ?_
  refine XS.bipush X0.here hx rfl (hb hby d9_2) ?_
  refine XS.iand X0.here hx rfl (hb hby d9_4) rfl ?_
  refine yis X0 hx hby d9_5 (l' := #[.val (.ref o1), .val (.ref o2), .val (.ref o3), .val (.ref o4), .val (.ref o5), .val (.ref o6), .val (.int p7), .val (.int (p7 &&& (7 : Int32))), .unset, .unset]) rfl ?_
  refine yil X0 hx hby d9_7 rfl ?_
  refine yic X0 hx hby d9_9 ?_
  exact k
 by_cases hc2 : (3 : Int32) < (p7 &&& (7 : Int32))
 ·
  have pre3 : Go p e below T0 (mkF m 99 #[.val (.ref o1), .val (.ref o2), .val (.ref o3), .val (.ref o4), .val (.ref o5), .val (.ref o6), .val (.int p7), .val (.int (p7 &&& (7 : Int32))), .unset, .unset] [(.int 6), (.int (p7 &&& (7 : Int32)))]) E0 := fun t k => by
   refine pre1 _ ?_
   refine yye X0 hx hby 10 95 rfl d9_10 (tlt hc2).2.2.1 (by decide) ?_
   refine yil X0 hx hby d9_95 rfl ?_
   refine XS.bipush X0.here hx rfl (hb hby d9_97) ?_
   exact k
  by_cases hc4 : (6 : Int32) < (p7 &&& (7 : Int32))
  ·
   have hq5 : (p7 &&& (7 : Int32)) = (7 : Int32) := (own_geq (n := 7) (k := (7 : Int32)) (by decide) (by have q0 := own_and (x := p7) (k := (7 : Int32)) (n := 7) (by decide) (by decide); have q1 := own_lt2 (n := 3) (k := (3 : Int32)) (by decide) hc2; have q2 := own_lt2 (n := 6) (k := (6 : Int32)) (by decide) hc4; omega))
   have pre6 : Go p e below T0 (mkF m 99 #[.val (.ref o1), .val (.ref o2), .val (.ref o3), .val (.ref o4), .val (.ref o5), .val (.ref o6), .val (.int p7), .val (.int 7), .unset, .unset] [(.int 6), (.int 7)]) E0 := fun t k => pre3 t (by rw [hq5]; exact k)
   have pre7 : Go p e below T0 (mkF m 166 #[.val (.ref o1), .val (.ref o2), .val (.ref o3), .val (.ref o4), .val (.ref o5), .val (.ref o6), .val (.int p7), .val (.int 7), .unset, .unset] []) E0 := fun t k => by
    refine pre6 _ ?_
    refine yye X0 hx hby 99 166 rfl d9_99 (tlt (by decide : (6 : Int32) < (7 : Int32))).2.2.1 (by decide) ?_
    exact k
   exact (Or.inl ⟨_, _, hc2, hc4, X0, N0, e0, pre7⟩)
  ·
   have pre8 : Go p e below T0 (mkF m 102 #[.val (.ref o1), .val (.ref o2), .val (.ref o3), .val (.ref o4), .val (.ref o5), .val (.ref o6), .val (.int p7), .val (.int (p7 &&& (7 : Int32))), .unset, .unset] []) E0 := fun t k => by
    refine pre3 _ ?_
    refine yno X0 hx hby d9_99 (flt hc4).2.2.1 ?_
    exact k
   exact (Or.inr (Or.inl ⟨_, _, hc2, hc4, X0, N0, e0, pre8⟩))
 ·
  have pre9 : Go p e below T0 (mkF m 13 #[.val (.ref o1), .val (.ref o2), .val (.ref o3), .val (.ref o4), .val (.ref o5), .val (.ref o6), .val (.int p7), .val (.int (p7 &&& (7 : Int32))), .unset, .unset] []) E0 := fun t k => by
   refine pre1 _ ?_
   refine yno X0 hx hby d9_10 (flt hc2).2.2.1 ?_
   exact k
  exact (Or.inr (Or.inr ⟨_, _, hc2, X0, N0, e0, pre9⟩))
set_option maxRecDepth 65536 in
set_option maxHeartbeats 40000000 in
theorem st_1b {p : Program} {l : Launch} {e : Env} {s : State} {m : MethodId} {below : List Frame} {meth : Method} {c : Code} {E0 T0 : State} {locs : List Loc} {Z : State} {a0 : Array Value} (hw : HW a0 Z) {o2 : Addr} {kc2 : ClassId} {o1 : Addr} {o3 : Addr} {o4 : Addr} {o5 : Addr} {o6 : Addr} {p7 : Int32} {p8 : Int32} {h0 : Heap} {n0 : Nat} (O0 : Old Z n0 h0)
    (hx : p.tables.exec = Jvm.exec) (hby : c.code = method_3_code) (hml : c.maxLocals = 10) (hown : s.vm.findClass cn8 = some m.cls) (hret : meth.sig.returnType = some .boolean) (hlk : meth.locks = false) (hZ : Z.Warmed39 s.vm)
    (X0 : Stand p l e ({ frames := 3, cells := 2, slots := 42, locals := 46 } : Room) s m #[(.ref o1), (.ref o2), (.ref o3), (.ref o4), (.ref o5), (.ref o6), (.int p7)] below meth c T0 locs 0 0) (e0 : T0.heap = h0) (N0 : Fr n0 locs) (pre0 : Go p e below T0 (mkF m 13 #[.val (.ref o1), .val (.ref o2), .val (.ref o3), .val (.ref o4), .val (.ref o5), .val (.ref o6), .val (.int p7), .val (.int p8), .unset, .unset] []) E0) (g_o2 : n0 ≤ o2) (P0 : Arv Z h0 o2 kc2 (.object cn10) (0 : Int32) [] .null) :
    (∃ (T' : State) (lc : List Loc) (b1 : Addr), ((1 : Int32) < p8) ∧ Stand p l e ({ frames := 3, cells := 2, slots := 42, locals := 46 } : Room) s m #[(.ref o1), (.ref o2), (.ref o3), (.ref o4), (.ref o5), (.ref o6), (.int p7)] below meth c T' lc 1 9 ∧ Fr n0 lc ∧ Keep h0 T'.heap [] ∧ h0.size ≤ b1 ∧ (Exa Z T'.heap b1 cn6) ∧ (Fld Z T'.heap b1 cn6 "removed" "J" (.long 9223372036854775807)) ∧ Go p e below T' (mkF m 45 #[.val (.ref o1), .val (.ref o2), .val (.ref o3), .val (.ref o4), .val (.ref o5), .val (.ref o6), .val (.int p7), .val (.int p8), .val (.ref b1), .unset] [(.ref b1), (.ref o1)]) E0)
    ∨ (∃ (T' : State) (lc : List Loc) (b1 : Addr), (¬ ((1 : Int32) < p8)) ∧ Stand p l e ({ frames := 3, cells := 2, slots := 42, locals := 46 } : Room) s m #[(.ref o1), (.ref o2), (.ref o3), (.ref o4), (.ref o5), (.ref o6), (.int p7)] below meth c T' lc 1 9 ∧ Fr n0 lc ∧ Keep h0 T'.heap [] ∧ h0.size ≤ b1 ∧ (Exa Z T'.heap b1 cn6) ∧ (Fld Z T'.heap b1 cn6 "removed" "J" (.long 9223372036854775807)) ∧ Go p e below T' (mkF m 36 #[.val (.ref o1), .val (.ref o2), .val (.ref o3), .val (.ref o4), .val (.ref o5), .val (.ref o6), .val (.int p7), .val (.int p8), .val (.ref b1), .unset] [(.ref b1), (.ref o1)]) E0) := by
 obtain ⟨T1, h1, X1, e1, E1, A1, D1, -, st1⟩ := newO X0 hx hZ hown (own_w hw 15 rfl) (own_w hw 35 rfl) (own_w hw 36 rfl) e0 (g := (mkF m 13 #[.val (.ref o1), .val (.ref o2), .val (.ref o3), .val (.ref o4), .val (.ref o5), .val (.ref o6), .val (.int p7), .val (.int p8), .unset, .unset] [])) rfl (hb hby d9_13) (by decide) (by decide)
 obtain ⟨b1, g1⟩ : ∃ z, z = h0.size := ⟨_, rfl⟩
 rw [← g1] at A1 D1 st1
 have O1 := Old.ext O0 E1
 have sz_b1 : h0.size ≤ b1 := Nat.le_of_eq g1.symm
 have g_b1 : n0 ≤ b1 := Nat.le_trans (own_oz O0) (Nat.le_trans (Nat.le_refl _) sz_b1)
 have F1_43 : Fld Z h1 b1 cn6 "removed" "J" (.long 0) := D1 (Or.inl (own_w hw 43 rfl)) (ty := .long) (by decide)
 have F1_45 : Fld Z h1 b1 cn6 "head" cn5 .null := D1 (Or.inr (own_w hw 45 rfl)) (ty := (.array (.object cn10))) (by decide)
 have F1_47 : Fld Z h1 b1 cn6 "goals" cn5 .null := D1 (Or.inr (own_w hw 47 rfl)) (ty := (.array (.object cn10))) (by decide)
 have F1_49 : Fld Z h1 b1 cn6 "goalPredicates" cn4 .null := D1 (Or.inr (own_w hw 49 rfl)) (ty := (.array (.object cn9))) (by decide)
 have F1_51 : Fld Z h1 b1 cn6 "body" cn0 .null := D1 (Or.inr (own_w hw 51 rfl)) (ty := (.object cn10)) (by decide)
 have F1_53 : Fld Z h1 b1 cn6 "variables" "I" (.int 0) := D1 (Or.inr (own_w hw 53 rfl)) (ty := .int) (by decide)
 have F1_55 : Fld Z h1 b1 cn6 "keyConstant" cn2 .null := D1 (Or.inr (own_w hw 55 rfl)) (ty := (.object cn12)) (by decide)
 have F1_57 : Fld Z h1 b1 cn6 "keyName" cn1 .null := D1 (Or.inr (own_w hw 57 rfl)) (ty := (.object cn11)) (by decide)
 have F1_59 : Fld Z h1 b1 cn6 "keyArity" "I" (.int 0) := D1 (Or.inr (own_w hw 59 rfl)) (ty := .int) (by decide)
 have lt2 : o2 < h0.size := P0.lt
 have ne3 : o2 ≠ b1 := Nat.ne_of_lt (Nat.lt_of_lt_of_le lt2 sz_b1)
 have f4 := (P0.ext E1)
 obtain ⟨_, T5, L5, X5, hQ5, st5⟩ := own_sb X1 hx hZ hown (y := yn10) (own_w hw 37 rfl) (own_w hw 38 rfl) (own_w hw 39 rfl) (own_w hw 36 rfl) e1 (a := b1) (argsL := [(.ref o2), .null, .null, .null, (.int 0)]) (rest := [(.ref b1)]) (rm6 l Z a0 hw [] b1 o2 kc2 h1 n0 O1 g_b1 g_o2 ne3 A1 F1_51 F1_49 F1_47 F1_45 F1_59 F1_55 F1_57 F1_43 F1_53 f4) (g := (mkF m 22 #[.val (.ref o1), .val (.ref o2), .val (.ref o3), .val (.ref o4), .val (.ref o5), .val (.ref o6), .val (.int p7), .val (.int p8), .unset, .unset] [(.int 0), .null, .null, .null, (.ref o2), (.ref b1), (.ref b1)])) rfl (by rw [hml]; rfl) rfl (hb hby d9_22) (lenOf pd5 rfl) (W := 1) (c1 := 1) (s1 := 9)
 obtain ⟨rfl, Nq6, K7, f8, f9⟩ := hQ5
 have N5 := Fr.app N0 Nq6
 have pre10 : Go p e below T5 (mkF m 30 #[.val (.ref o1), .val (.ref o2), .val (.ref o3), .val (.ref o4), .val (.ref o5), .val (.ref o6), .val (.int p7), .val (.int p8), .val (.ref b1), .unset] [(.int 1), (.int p8)]) E0 := fun t k => by
  refine pre0 _ ?_
  refine st1 _ ?_
  refine XS.dup X1.here hx rfl (hb hby d9_16) rfl rfl ?_
  refine yan X1 hx hby d9_17 rfl rfl ?_
  refine XS.aconstNull X1.here hx rfl (hb hby d9_18) ?_
  refine XS.aconstNull X1.here hx rfl (hb hby d9_19) ?_
  refine XS.aconstNull X1.here hx rfl (hb hby d9_20) ?_
  refine yic X1 hx hby d9_21 ?_
  refine st5 _ ?_
  refine XS.astore X5.here hx rfl (hb hby d9_25) rfl rfl (l' := #[.val (.ref o1), .val (.ref o2), .val (.ref o3), .val (.ref o4), .val (.ref o5), .val (.ref o6), .val (.int p7), .val (.int p8), .val (.ref b1), .unset]) rfl ?_
  refine yil X5 hx hby d9_27 rfl ?_
  refine yic X5 hx hby d9_29 ?_
  exact k
 by_cases hc11 : (1 : Int32) < p8
 ·
  have pre12 : Go p e below T5 (mkF m 45 #[.val (.ref o1), .val (.ref o2), .val (.ref o3), .val (.ref o4), .val (.ref o5), .val (.ref o6), .val (.int p7), .val (.int p8), .val (.ref b1), .unset] [(.ref b1), (.ref o1)]) E0 := fun t k => by
   refine pre10 _ ?_
   refine yye X5 hx hby 30 42 rfl d9_30 (tlt hc11).2.2.1 (by decide) ?_
   refine yan X5 hx hby d9_42 rfl rfl ?_
   refine yal X5 hx hby d9_43 rfl rfl ?_
   exact k
  have KL : Keep h0 T5.heap [] := (((Keep.refl h0 []).ext E1).trans K7 (allS (Or.inr (Nat.le_trans (Nat.le_refl _) sz_b1)) all0))
  exact (Or.inl ⟨_, _, b1, hc11, X5, N5, KL, (Nat.le_trans (Nat.le_refl _) sz_b1), f8, f9, pre12⟩)
 ·
  have pre13 : Go p e below T5 (mkF m 36 #[.val (.ref o1), .val (.ref o2), .val (.ref o3), .val (.ref o4), .val (.ref o5), .val (.ref o6), .val (.int p7), .val (.int p8), .val (.ref b1), .unset] [(.ref b1), (.ref o1)]) E0 := fun t k => by
   refine pre10 _ ?_
   refine yno X5 hx hby d9_30 (flt hc11).2.2.1 ?_
   refine yan X5 hx hby d9_33 rfl rfl ?_
   refine yal X5 hx hby d9_34 rfl rfl ?_
   exact k
  have KL : Keep h0 T5.heap [] := (((Keep.refl h0 []).ext E1).trans K7 (allS (Or.inr (Nat.le_trans (Nat.le_refl _) sz_b1)) all0))
  exact (Or.inr ⟨_, _, b1, hc11, X5, N5, KL, (Nat.le_trans (Nat.le_refl _) sz_b1), f8, f9, pre13⟩)
set_option maxRecDepth 65536 in
set_option maxHeartbeats 40000000 in
theorem st_2b {p : Program} {l : Launch} {e : Env} {s : State} {m : MethodId} {below : List Frame} {meth : Method} {c : Code} {E0 T0 : State} {locs : List Loc} {Z : State} {a0 : Array Value} (hw : HW a0 Z) {o1 : Addr} {o2 : Addr} {o3 : Addr} {o4 : Addr} {o5 : Addr} {o6 : Addr} {p7 : Int32} {p8 : Int32} {o9 : Addr} {h0 : Heap} {n0 : Nat} (O0 : Old Z n0 h0)
    (hx : p.tables.exec = Jvm.exec) (hby : c.code = method_3_code) (hml : c.maxLocals = 10) (hown : s.vm.findClass cn8 = some m.cls) (hret : meth.sig.returnType = some .boolean) (hlk : meth.locks = false) (hZ : Z.Warmed39 s.vm)
    (X0 : Stand p l e ({ frames := 3, cells := 2, slots := 42, locals := 46 } : Room) s m #[(.ref o1), (.ref o2), (.ref o3), (.ref o4), (.ref o5), (.ref o6), (.int p7)] below meth c T0 locs 2 42) (e0 : T0.heap = h0) (N0 : Fr n0 locs) (pre0 : Go p e below T0 (mkF m 39 #[.val (.ref o1), .val (.ref o2), .val (.ref o3), .val (.ref o4), .val (.ref o5), .val (.ref o6), .val (.int p7), .val (.int p8), .val (.ref o9), .unset] []) E0) :
    (∃ (T' : State) (lc : List Loc), Stand p l e ({ frames := 3, cells := 2, slots := 42, locals := 46 } : Room) s m #[(.ref o1), (.ref o2), (.ref o3), (.ref o4), (.ref o5), (.ref o6), (.int p7)] below meth c T' lc 2 42 ∧ Fr n0 lc ∧ T'.heap = h0 ∧ Go p e below T' (mkF m 48 #[.val (.ref o1), .val (.ref o2), .val (.ref o3), .val (.ref o4), .val (.ref o5), .val (.ref o6), .val (.int p7), .val (.int p8), .val (.ref o9), .unset] []) E0) := by
 have pre1 : Go p e below T0 (mkF m 48 #[.val (.ref o1), .val (.ref o2), .val (.ref o3), .val (.ref o4), .val (.ref o5), .val (.ref o6), .val (.int p7), .val (.int p8), .val (.ref o9), .unset] []) E0 := fun t k => by
  refine pre0 _ ?_
  refine ygo X0 hx hby 39 48 rfl d9_39 (by decide) ?_
  exact k
 exact ⟨_, _, X0, N0, e0, pre1⟩
set_option maxRecDepth 65536 in
set_option maxHeartbeats 40000000 in
theorem st_3b {p : Program} {l : Launch} {e : Env} {s : State} {m : MethodId} {below : List Frame} {meth : Method} {c : Code} {E0 T0 : State} {locs : List Loc} {Z : State} {a0 : Array Value} (hw : HW a0 Z) {o3 : Addr} {o4 : Addr} {o5 : Addr} {o6 : Addr} {kc3 : ClassId} {p10 : Int32} {kc4 : ClassId} {kc5 : ClassId} {kc6 : ClassId} {p11 : Int32} {p12 : Int32} {o9 : Addr} {o1 : Addr} {o2 : Addr} {p7 : Int32} {p8 : Int32} {vs : List Value} {vs2 : List Value} {vs3 : List Value} {ix1 : Nat} {h0 : Heap} {n0 : Nat} (O0 : Old Z n0 h0)
    (hx : p.tables.exec = Jvm.exec) (hby : c.code = method_3_code) (hml : c.maxLocals = 10) (hown : s.vm.findClass cn8 = some m.cls) (hret : meth.sig.returnType = some .boolean) (hlk : meth.locks = false) (hZ : Z.Warmed39 s.vm)
    (X0 : Stand p l e ({ frames := 3, cells := 2, slots := 42, locals := 46 } : Room) s m #[(.ref o1), (.ref o2), (.ref o3), (.ref o4), (.ref o5), (.ref o6), (.int p7)] below meth c T0 locs 2 42) (e0 : T0.heap = h0) (N0 : Fr n0 locs) (pre0 : Go p e below T0 (mkF m 48 #[.val (.ref o1), .val (.ref o2), .val (.ref o3), .val (.ref o4), .val (.ref o5), .val (.ref o6), .val (.int p7), .val (.int p8), .val (.ref o9), .unset] []) E0) (g_o3 : n0 ≤ o3) (g_o4 : n0 ≤ o4) (g_o5 : n0 ≤ o5) (g_o6 : n0 ≤ o6) (ne_o6_o5 : o6 ≠ o5) (Ov_kc3 : Ovr Z kc3 cn6) (hp0 : ¬ (p10 < (0 : Int32))) (hp1 : p10 < (12 : Int32)) (P0 : Exa Z h0 o3 cn3) (P1 : Exa Z h0 o4 "[Z") (P2 : Exa Z h0 o5 "[I") (P3 : Exa Z h0 o6 "[I") (P4 : Arv Z h0 o3 kc3 (.object cn6) (12 : Int32) vs .null) (P5 : Arv Z h0 o4 kc4 .boolean (12 : Int32) vs2 (.int 0)) (P6 : Arv Z h0 o5 kc5 .int (12 : Int32) vs3 (.int 0)) (P7 : Arv Z h0 o6 kc6 .int (3 : Int32) [(.int p10), (.int p11), (.int p12)] (.int 0)) (P8 : Exa Z h0 o9 cn6) (hj : p10.toNatClampNeg = ix1) (hi1 : ix1 < vs.length) (hi2 : ix1 < vs2.length) (hi3 : ix1 < vs3.length) :
    (∃ (T' : State) (lc : List Loc), Stand p l e ({ frames := 3, cells := 2, slots := 42, locals := 46 } : Room) s m #[(.ref o1), (.ref o2), (.ref o3), (.ref o4), (.ref o5), (.ref o6), (.int p7)] below meth c T' lc 2 42 ∧ Fr n0 lc ∧ Keep h0 T'.heap [o3, o4, o5, o6] ∧ (Arv Z T'.heap o3 kc3 (.object cn6) (12 : Int32) (vs.set ix1 (.ref o9)) .null) ∧ (Exa Z T'.heap o3 cn3) ∧ (Arv Z T'.heap o4 kc4 .boolean (12 : Int32) (vs2.set ix1 (.int 1)) (.int 0)) ∧ (Exa Z T'.heap o4 "[Z") ∧ (Arv Z T'.heap o5 kc5 .int (12 : Int32) (vs3.set ix1 (.int p12)) (.int 0)) ∧ (Exa Z T'.heap o5 "[I") ∧ (Arv Z T'.heap o6 kc6 .int (3 : Int32) [(.int (p10 + (1 : Int32))), (.int (p11 + (1 : Int32))), (.int p12)] (.int 0)) ∧ (Exa Z T'.heap o6 "[I") ∧ Go p e below T' (mkF m 186 #[.val (.ref o1), .val (.ref o2), .val (.ref o3), .val (.ref o4), .val (.ref o5), .val (.ref o6), .val (.int p7), .val (.int p8), .val (.ref o9), .val (.int p10)] []) E0) := by
 obtain ⟨cl1, Ar1, qa1, Sa1, Na1, Ha1, Ga1⟩ := id (P7)
 have hin1 := inb_of (j := (0 : Int32)) Sa1 ⟨by decide, by decide⟩
 have hat1 : cl1.slots[((0 : Int32)).toNatClampNeg]? = some (.int p10) := Has.at Ha1 hin1 rfl
 obtain ⟨cl2, Ar2, qa2, Sa2, Na2, Ha2, Ga2⟩ := id (P4)
 have hin2 := inb_of (j := p10) Sa2 ⟨hp0, hp1⟩
 obtain ⟨T3, h3, X3, e3, W3, st3⟩ := stR X0 hx hZ e0 Ar2 (j := p10) hin2 rfl (Sto.ofV Ar2 qa2 Ov_kc3 (Ins.self P8)) (g := (mkF m 59 #[.val (.ref o1), .val (.ref o2), .val (.ref o3), .val (.ref o4), .val (.ref o5), .val (.ref o6), .val (.int p7), .val (.int p8), .val (.ref o9), .val (.int p10)] [(.ref o9), (.int p10), (.ref o3)])) rfl rfl (hb hby d9_59)
 have V3 : Arv Z h3 o3 kc3 (.object cn6) (12 : Int32) (vs.set ix1 (.ref o9)) .null := Arv.set Ar2 qa2 Sa2 Na2 Ha2 Ga2 rfl W3 ix1 hj hi1
 have N3 := Fr.snoc X3 N0 g_o3
 have f4 := (P1.wr W3)
 have f5 := (P0.wr W3)
 have ne6 : o4 ≠ o3 := ne_exa f4 f5 (by decide)
 have f7 := (P5.other W3 ne6)
 obtain ⟨cl8, Ar8, qa8, Sa8, Na8, Ha8, Ga8⟩ := id (f7)
 have hin8 := inb_of (j := p10) Sa8 ⟨hp0, hp1⟩
 obtain ⟨T9, h9, X9, e9, W9, st9⟩ := stZ X3 hx hZ e3 Ar8 (j := p10) hin8 (g := (mkF m 64 #[.val (.ref o1), .val (.ref o2), .val (.ref o3), .val (.ref o4), .val (.ref o5), .val (.ref o6), .val (.int p7), .val (.int p8), .val (.ref o9), .val (.int p10)] [(.int 1), (.int p10), (.ref o4)])) rfl rfl (hb hby d9_64)
 have V9 : Arv Z h9 o4 kc4 .boolean (12 : Int32) (vs2.set ix1 (.int 1)) (.int 0) := Arv.set Ar8 qa8 Sa8 Na8 Ha8 Ga8 (by decide) W9 ix1 hj hi2
 have N9 := Fr.snoc X9 N3 g_o4
 have f10 := ((P3.wr W3).wr W9)
 have f11 := (f5.wr W9)
 have ne12 : o6 ≠ o3 := ne_exa f10 f11 (by decide)
 have f13 := (f4.wr W9)
 have ne14 : o6 ≠ o4 := ne_exa f10 f13 (by decide)
 have f15 := ((P7.other W3 ne12).other W9 ne14)
 obtain ⟨cl16, Ar16, qa16, Sa16, Na16, Ha16, Ga16⟩ := id (f15)
 have hin16 := inb_of (j := (2 : Int32)) Sa16 ⟨by decide, by decide⟩
 have hat16 : cl16.slots[((2 : Int32)).toNatClampNeg]? = some (.int p12) := Has.at Ha16 hin16 rfl
 have f17 := ((P2.wr W3).wr W9)
 have ne18 : o5 ≠ o3 := ne_exa f17 f11 (by decide)
 have ne19 : o5 ≠ o4 := ne_exa f17 f13 (by decide)
 have f20 := ((P6.other W3 ne18).other W9 ne19)
 obtain ⟨cl21, Ar21, qa21, Sa21, Na21, Ha21, Ga21⟩ := id (f20)
 have hin21 := inb_of (j := p10) Sa21 ⟨hp0, hp1⟩
 obtain ⟨T22, h22, X22, e22, W22, st22⟩ := stI X9 hx hZ e9 Ar21 (j := p10) hin21 (g := (mkF m 73 #[.val (.ref o1), .val (.ref o2), .val (.ref o3), .val (.ref o4), .val (.ref o5), .val (.ref o6), .val (.int p7), .val (.int p8), .val (.ref o9), .val (.int p10)] [(.int p12), (.int p10), (.ref o5)])) rfl rfl (hb hby d9_73)
 have V22 : Arv Z h22 o5 kc5 .int (12 : Int32) (vs3.set ix1 (.int p12)) (.int 0) := Arv.set Ar21 qa21 Sa21 Na21 Ha21 Ga21 rfl W22 ix1 hj hi3
 have N22 := Fr.snoc X22 N9 g_o5
 have f23 := (f15.other W22 ne_o6_o5)
 obtain ⟨cl24, Ar24, qa24, Sa24, Na24, Ha24, Ga24⟩ := id (f23)
 have hin24 := inb_of (j := (0 : Int32)) Sa24 ⟨by decide, by decide⟩
 obtain ⟨T25, h25, X25, e25, W25, st25⟩ := stI X22 hx hZ e22 Ar24 (j := (0 : Int32)) hin24 (g := (mkF m 81 #[.val (.ref o1), .val (.ref o2), .val (.ref o3), .val (.ref o4), .val (.ref o5), .val (.ref o6), .val (.int p7), .val (.int p8), .val (.ref o9), .val (.int p10)] [(.int (p10 + (1 : Int32))), (.int 0), (.ref o6)])) rfl rfl (hb hby d9_81)
 have V25 : Arv Z h25 o6 kc6 .int (3 : Int32) [(.int (p10 + (1 : Int32))), (.int p11), (.int p12)] (.int 0) := Arv.set Ar24 qa24 Sa24 Na24 Ha24 Ga24 rfl W25 0 rfl (Nat.le_of_ble_eq_true rfl)
 have N25 := Fr.snoc X25 N22 g_o6
 obtain ⟨cl26, Ar26, qa26, Sa26, Na26, Ha26, Ga26⟩ := id (V25)
 have hin26 := inb_of (j := (1 : Int32)) Sa26 ⟨by decide, by decide⟩
 have hat26 : cl26.slots[((1 : Int32)).toNatClampNeg]? = some (.int p11) := Has.at Ha26 hin26 rfl
 obtain ⟨cl27, Ar27, qa27, Sa27, Na27, Ha27, Ga27⟩ := id (V25)
 have hin27 := inb_of (j := (1 : Int32)) Sa27 ⟨by decide, by decide⟩
 obtain ⟨T28, h28, X28, e28, W28, st28⟩ := stI X25 hx hZ e25 Ar27 (j := (1 : Int32)) hin27 (g := (mkF m 91 #[.val (.ref o1), .val (.ref o2), .val (.ref o3), .val (.ref o4), .val (.ref o5), .val (.ref o6), .val (.int p7), .val (.int p8), .val (.ref o9), .val (.int p10)] [(.int (p11 + (1 : Int32))), (.int 1), (.ref o6)])) rfl rfl (hb hby d9_91)
 have V28 : Arv Z h28 o6 kc6 .int (3 : Int32) [(.int (p10 + (1 : Int32))), (.int (p11 + (1 : Int32))), (.int p12)] (.int 0) := Arv.set Ar27 qa27 Sa27 Na27 Ha27 Ga27 rfl W28 1 rfl (Nat.le_of_ble_eq_true rfl)
 have N28 := Fr.snoc X28 N25 g_o6
 have pre29 : Go p e below T28 (mkF m 186 #[.val (.ref o1), .val (.ref o2), .val (.ref o3), .val (.ref o4), .val (.ref o5), .val (.ref o6), .val (.int p7), .val (.int p8), .val (.ref o9), .val (.int p10)] []) E0 := fun t k => by
  refine pre0 _ ?_
  refine yal X0 hx hby d9_48 rfl rfl ?_
  refine yic X0 hx hby d9_50 ?_
  refine X0.iaload hx (j := (0 : Int32)) (v := (.int p10)) (by rw [e0]; exact Ar1.1) (State.isArrayOf_alike hZ.alike Ar1.2.1) Ar1.2.2 hin1 hat1 (g := (mkF m 51 #[.val (.ref o1), .val (.ref o2), .val (.ref o3), .val (.ref o4), .val (.ref o5), .val (.ref o6), .val (.int p7), .val (.int p8), .val (.ref o9), .unset] [(.int 0), (.ref o6)])) rfl rfl (hb hby d9_51) _ ?_
  refine yis X0 hx hby d9_52 (l' := #[.val (.ref o1), .val (.ref o2), .val (.ref o3), .val (.ref o4), .val (.ref o5), .val (.ref o6), .val (.int p7), .val (.int p8), .val (.ref o9), .val (.int p10)]) rfl ?_
  refine yan X0 hx hby d9_54 rfl rfl ?_
  refine yil X0 hx hby d9_55 rfl ?_
  refine yal X0 hx hby d9_57 rfl rfl ?_
  refine st3 _ ?_
  refine yan X3 hx hby d9_60 rfl rfl ?_
  refine yil X3 hx hby d9_61 rfl ?_
  refine yic X3 hx hby d9_63 ?_
  refine st9 _ ?_
  refine yal X9 hx hby d9_65 rfl rfl ?_
  refine yil X9 hx hby d9_67 rfl ?_
  refine yal X9 hx hby d9_69 rfl rfl ?_
  refine yic X9 hx hby d9_71 ?_
  refine X9.iaload hx (j := (2 : Int32)) (v := (.int p12)) (by rw [e9]; exact Ar16.1) (State.isArrayOf_alike hZ.alike Ar16.2.1) Ar16.2.2 hin16 hat16 (g := (mkF m 72 #[.val (.ref o1), .val (.ref o2), .val (.ref o3), .val (.ref o4), .val (.ref o5), .val (.ref o6), .val (.int p7), .val (.int p8), .val (.ref o9), .val (.int p10)] [(.int 2), (.ref o6), (.int p10), (.ref o5)])) rfl rfl (hb hby d9_72) _ ?_
  refine st22 _ ?_
  refine yal X22 hx hby d9_74 rfl rfl ?_
  refine yic X22 hx hby d9_76 ?_
  refine yil X22 hx hby d9_77 rfl ?_
  refine yic X22 hx hby d9_79 ?_
  refine yad X22 hx hby d9_80 ?_
  refine st25 _ ?_
  refine yal X25 hx hby d9_82 rfl rfl ?_
  refine yic X25 hx hby d9_84 ?_
  refine yal X25 hx hby d9_85 rfl rfl ?_
  refine yic X25 hx hby d9_87 ?_
  refine X25.iaload hx (j := (1 : Int32)) (v := (.int p11)) (by rw [e25]; exact Ar26.1) (State.isArrayOf_alike hZ.alike Ar26.2.1) Ar26.2.2 hin26 hat26 (g := (mkF m 88 #[.val (.ref o1), .val (.ref o2), .val (.ref o3), .val (.ref o4), .val (.ref o5), .val (.ref o6), .val (.int p7), .val (.int p8), .val (.ref o9), .val (.int p10)] [(.int 1), (.ref o6), (.int 1), (.ref o6)])) rfl rfl (hb hby d9_88) _ ?_
  refine yic X25 hx hby d9_89 ?_
  refine yad X25 hx hby d9_90 ?_
  refine st28 _ ?_
  refine ygo X28 hx hby 92 186 rfl d9_92 (by decide) ?_
  exact k
 have KL : Keep h0 h28 [o3, o4, o5, o6] := ((((((Keep.refl h0 [o3, o4, o5, o6]).wr W3 (Or.inl (List.mem_of_getElem? (i := 0) rfl))).wr W9 (Or.inl (List.mem_of_getElem? (i := 1) rfl))).wr W22 (Or.inl (List.mem_of_getElem? (i := 2) rfl))).wr W25 (Or.inl (List.mem_of_getElem? (i := 3) rfl))).wr W28 (Or.inl (List.mem_of_getElem? (i := 3) rfl)))
 have f30 := ((((V3.other W9 (Ne.symm ne6)).other W22 (Ne.symm ne18)).other W25 (Ne.symm ne12)).other W28 (Ne.symm ne12))
 have f31 := (((f11.wr W22).wr W25).wr W28)
 have f32 := (((V9.other W22 (Ne.symm ne19)).other W25 (Ne.symm ne14)).other W28 (Ne.symm ne14))
 have f33 := (((f13.wr W22).wr W25).wr W28)
 have f34 := ((V22.other W25 (Ne.symm ne_o6_o5)).other W28 (Ne.symm ne_o6_o5))
 have f35 := (((f17.wr W22).wr W25).wr W28)
 have f36 := (((f10.wr W22).wr W25).wr W28)
 exact ⟨_, _, X28, N28, (by rw [e28]; exact KL), (by rw [e28]; exact f30), (by rw [e28]; exact f31), (by rw [e28]; exact f32), (by rw [e28]; exact f33), (by rw [e28]; exact f34), (by rw [e28]; exact f35), (by rw [e28]; exact V28), (by rw [e28]; exact f36), pre29⟩
set_option maxRecDepth 65536 in
set_option maxHeartbeats 40000000 in
theorem st_4b {p : Program} {l : Launch} {e : Env} {s : State} {m : MethodId} {below : List Frame} {meth : Method} {c : Code} {E0 T0 : State} {locs : List Loc} {Z : State} {a0 : Array Value} (hw : HW a0 Z) {o6 : Addr} {kc6 : ClassId} {p10 : Int32} {p11 : Int32} {p12 : Int32} {o1 : Addr} {o2 : Addr} {o3 : Addr} {o4 : Addr} {o5 : Addr} {p7 : Int32} {p8 : Int32} {h0 : Heap} {n0 : Nat} (O0 : Old Z n0 h0)
    (hx : p.tables.exec = Jvm.exec) (hby : c.code = method_3_code) (hml : c.maxLocals = 10) (hown : s.vm.findClass cn8 = some m.cls) (hret : meth.sig.returnType = some .boolean) (hlk : meth.locks = false) (hZ : Z.Warmed39 s.vm)
    (X0 : Stand p l e ({ frames := 3, cells := 2, slots := 42, locals := 46 } : Room) s m #[(.ref o1), (.ref o2), (.ref o3), (.ref o4), (.ref o5), (.ref o6), (.int p7)] below meth c T0 locs 0 0) (e0 : T0.heap = h0) (N0 : Fr n0 locs) (pre0 : Go p e below T0 (mkF m 102 #[.val (.ref o1), .val (.ref o2), .val (.ref o3), .val (.ref o4), .val (.ref o5), .val (.ref o6), .val (.int p7), .val (.int p8), .unset, .unset] []) E0) (P0 : Arv Z h0 o6 kc6 .int (3 : Int32) [(.int p10), (.int p11), (.int p12)] (.int 0)) :
    (∃ (T' : State) (lc : List Loc), ((0 : Int32) < p10) ∧ Stand p l e ({ frames := 3, cells := 2, slots := 42, locals := 46 } : Room) s m #[(.ref o1), (.ref o2), (.ref o3), (.ref o4), (.ref o5), (.ref o6), (.int p7)] below meth c T' lc 0 0 ∧ Fr n0 lc ∧ T'.heap = h0 ∧ Go p e below T' (mkF m 120 #[.val (.ref o1), .val (.ref o2), .val (.ref o3), .val (.ref o4), .val (.ref o5), .val (.ref o6), .val (.int p7), .val (.int p8), .val (.int (((p7.toUInt32 >>> ((3 : Int32) &&& 31).toUInt32).toInt32) % p10)), .unset] []) E0)
    ∨ (∃ (T' : State) (lc : List Loc), (¬ ((0 : Int32) < p10)) ∧ Stand p l e ({ frames := 3, cells := 2, slots := 42, locals := 46 } : Room) s m #[(.ref o1), (.ref o2), (.ref o3), (.ref o4), (.ref o5), (.ref o6), (.int p7)] below meth c T' lc 0 0 ∧ Fr n0 lc ∧ T'.heap = h0 ∧ Go p e below T' (mkF m 186 #[.val (.ref o1), .val (.ref o2), .val (.ref o3), .val (.ref o4), .val (.ref o5), .val (.ref o6), .val (.int p7), .val (.int p8), .unset, .unset] []) E0) := by
 obtain ⟨cl1, Ar1, qa1, Sa1, Na1, Ha1, Ga1⟩ := id (P0)
 have hin1 := inb_of (j := (0 : Int32)) Sa1 ⟨by decide, by decide⟩
 have hat1 : cl1.slots[((0 : Int32)).toNatClampNeg]? = some (.int p10) := Has.at Ha1 hin1 rfl
 have pre2 : Go p e below T0 (mkF m 106 #[.val (.ref o1), .val (.ref o2), .val (.ref o3), .val (.ref o4), .val (.ref o5), .val (.ref o6), .val (.int p7), .val (.int p8), .unset, .unset] [(.int p10)]) E0 := fun t k => by
  refine pre0 _ ?_
  refine yal X0 hx hby d9_102 rfl rfl ?_
  refine yic X0 hx hby d9_104 ?_
  refine X0.iaload hx (j := (0 : Int32)) (v := (.int p10)) (by rw [e0]; exact Ar1.1) (State.isArrayOf_alike hZ.alike Ar1.2.1) Ar1.2.2 hin1 hat1 (g := (mkF m 105 #[.val (.ref o1), .val (.ref o2), .val (.ref o3), .val (.ref o4), .val (.ref o5), .val (.ref o6), .val (.int p7), .val (.int p8), .unset, .unset] [(.int 0), (.ref o6)])) rfl rfl (hb hby d9_105) _ ?_
  exact k
 by_cases hc3 : (0 : Int32) < p10
 ·
  obtain ⟨cl4, Ar4, qa4, Sa4, Na4, Ha4, Ga4⟩ := id (P0)
  have hin4 := inb_of (j := (0 : Int32)) Sa4 ⟨by decide, by decide⟩
  have hat4 : cl4.slots[((0 : Int32)).toNatClampNeg]? = some (.int p10) := Has.at Ha4 hin4 rfl
  have pre5 : Go p e below T0 (mkF m 120 #[.val (.ref o1), .val (.ref o2), .val (.ref o3), .val (.ref o4), .val (.ref o5), .val (.ref o6), .val (.int p7), .val (.int p8), .val (.int (((p7.toUInt32 >>> ((3 : Int32) &&& 31).toUInt32).toInt32) % p10)), .unset] []) E0 := fun t k => by
   refine pre2 _ ?_
   refine yfn X0 hx hby d9_106 ((if0 _ _).trans (tlt hc3).2.2.2) ?_
   refine yil X0 hx hby d9_109 rfl ?_
   refine yic X0 hx hby d9_111 ?_
   refine XS.iushr X0.here hx rfl (hb hby d9_112) rfl ?_
   refine yal X0 hx hby d9_113 rfl rfl ?_
   refine yic X0 hx hby d9_115 ?_
   refine X0.iaload hx (j := (0 : Int32)) (v := (.int p10)) (by rw [e0]; exact Ar4.1) (State.isArrayOf_alike hZ.alike Ar4.2.1) Ar4.2.2 hin4 hat4 (g := (mkF m 116 #[.val (.ref o1), .val (.ref o2), .val (.ref o3), .val (.ref o4), .val (.ref o5), .val (.ref o6), .val (.int p7), .val (.int p8), .unset, .unset] [(.int 0), (.ref o6), (.int ((p7.toUInt32 >>> ((3 : Int32) &&& 31).toUInt32).toInt32))])) rfl rfl (hb hby d9_116) _ ?_
   refine iremM X0 hx rfl (hb hby d9_117) rfl (own_gneq (n := 0) (k := (0 : Int32)) (by decide) (by have q0 := rng32 p10; have q1 := own_lt2 (n := 0) (k := (0 : Int32)) (by decide) hc3; omega)) ?_
   refine yis X0 hx hby d9_118 (l' := #[.val (.ref o1), .val (.ref o2), .val (.ref o3), .val (.ref o4), .val (.ref o5), .val (.ref o6), .val (.int p7), .val (.int p8), .val (.int (((p7.toUInt32 >>> ((3 : Int32) &&& 31).toUInt32).toInt32) % p10)), .unset]) rfl ?_
   exact k
  exact (Or.inl ⟨_, _, hc3, X0, N0, e0, pre5⟩)
 ·
  have pre6 : Go p e below T0 (mkF m 186 #[.val (.ref o1), .val (.ref o2), .val (.ref o3), .val (.ref o4), .val (.ref o5), .val (.ref o6), .val (.int p7), .val (.int p8), .unset, .unset] []) E0 := fun t k => by
   refine pre2 _ ?_
   refine XS.ifYes X0.here hx rfl (pc0 := 106) (pc' := 186) rfl (hb hby d9_106) rfl ((if0 _ _).trans (flt hc3).2.2.2) (by decide) (by decide) ?_
   exact k
  exact (Or.inr ⟨_, _, hc3, X0, N0, e0, pre6⟩)
set_option maxRecDepth 65536 in
set_option maxHeartbeats 40000000 in
theorem st_5b {p : Program} {l : Launch} {e : Env} {s : State} {m : MethodId} {below : List Frame} {meth : Method} {c : Code} {E0 T0 : State} {locs : List Loc} {Z : State} {a0 : Array Value} (hw : HW a0 Z) {p9 : Int32} {o3 : Addr} {kc3 : ClassId} {o4 : Addr} {kc4 : ClassId} {o5 : Addr} {kc5 : ClassId} {o6 : Addr} {kc6 : ClassId} {p10 : Int32} {p11 : Int32} {p12 : Int32} {o9 : Addr} {p13 : Int32} {p14 : Int32} {o1 : Addr} {o2 : Addr} {p7 : Int32} {p8 : Int32} {vs : List Value} {vs2 : List Value} {vs3 : List Value} {h0 : Heap} {n0 : Nat} (O0 : Old Z n0 h0)
    (hx : p.tables.exec = Jvm.exec) (hby : c.code = method_3_code) (hml : c.maxLocals = 10) (hown : s.vm.findClass cn8 = some m.cls) (hret : meth.sig.returnType = some .boolean) (hlk : meth.locks = false) (hZ : Z.Warmed39 s.vm)
    (X0 : Stand p l e ({ frames := 3, cells := 2, slots := 42, locals := 46 } : Room) s m #[(.ref o1), (.ref o2), (.ref o3), (.ref o4), (.ref o5), (.ref o6), (.int p7)] below meth c T0 locs 0 0) (e0 : T0.heap = h0) (N0 : Fr n0 locs) (pre0 : Go p e below T0 (mkF m 120 #[.val (.ref o1), .val (.ref o2), .val (.ref o3), .val (.ref o4), .val (.ref o5), .val (.ref o6), .val (.int p7), .val (.int p8), .val (.int p9), .unset] []) E0) (hp0 : ¬ (p9 < (0 : Int32))) (hp1 : p9 < (12 : Int32)) (P0 : Arv Z h0 o3 kc3 (.object cn6) (12 : Int32) vs .null) (P1 : Arv Z h0 o4 kc4 .boolean (12 : Int32) vs2 (.int 0)) (P2 : Arv Z h0 o5 kc5 .int (12 : Int32) vs3 (.int 0)) (P3 : Arv Z h0 o6 kc6 .int (3 : Int32) [(.int p10), (.int p11), (.int p12)] (.int 0)) (hr1 : vs.getD p9.toNatClampNeg .null = .ref o9) (hr2 : vs2.getD p9.toNatClampNeg (.int (0 : Int32)) = .int p13) (hr3 : vs3.getD p9.toNatClampNeg (.int (0 : Int32)) = .int p14) :
    (∃ (T' : State) (lc : List Loc), (p13 = (0 : Int32)) ∧ Stand p l e ({ frames := 3, cells := 2, slots := 42, locals := 46 } : Room) s m #[(.ref o1), (.ref o2), (.ref o3), (.ref o4), (.ref o5), (.ref o6), (.int p7)] below meth c T' lc 0 0 ∧ Fr n0 lc ∧ T'.heap = h0 ∧ Go p e below T' (mkF m 186 #[.val (.ref o1), .val (.ref o2), .val (.ref o3), .val (.ref o4), .val (.ref o5), .val (.ref o6), .val (.int p7), .val (.int p8), .val (.int p9), .unset] []) E0)
    ∨ (∃ (T' : State) (lc : List Loc), (¬ (p13 = (0 : Int32))) ∧ (p14 = p12) ∧ Stand p l e ({ frames := 3, cells := 2, slots := 42, locals := 46 } : Room) s m #[(.ref o1), (.ref o2), (.ref o3), (.ref o4), (.ref o5), (.ref o6), (.int p7)] below meth c T' lc 0 0 ∧ Fr n0 lc ∧ T'.heap = h0 ∧ Go p e below T' (mkF m 145 #[.val (.ref o1), .val (.ref o2), .val (.ref o3), .val (.ref o4), .val (.ref o5), .val (.ref o6), .val (.int p7), .val (.int p8), .val (.int p9), .unset] [(.long 1), (.ref o9), (.ref o1)]) E0)
    ∨ (∃ (T' : State) (lc : List Loc), (¬ (p13 = (0 : Int32))) ∧ (¬ (p14 = p12)) ∧ Stand p l e ({ frames := 3, cells := 2, slots := 42, locals := 46 } : Room) s m #[(.ref o1), (.ref o2), (.ref o3), (.ref o4), (.ref o5), (.ref o6), (.int p7)] below meth c T' lc 0 0 ∧ Fr n0 lc ∧ T'.heap = h0 ∧ Go p e below T' (mkF m 186 #[.val (.ref o1), .val (.ref o2), .val (.ref o3), .val (.ref o4), .val (.ref o5), .val (.ref o6), .val (.int p7), .val (.int p8), .val (.int p9), .unset] []) E0) := by
 obtain ⟨cl1, Ar1, qa1, Sa1, Na1, Ha1, Ga1⟩ := id (P1)
 have hin1 := inb_of (j := p9) Sa1 ⟨hp0, hp1⟩
 have hat1 : cl1.slots[(p9).toNatClampNeg]? = some (.int p13) := Has.at Ha1 hin1 hr2
 have pre2 : Go p e below T0 (mkF m 124 #[.val (.ref o1), .val (.ref o2), .val (.ref o3), .val (.ref o4), .val (.ref o5), .val (.ref o6), .val (.int p7), .val (.int p8), .val (.int p9), .unset] [(.int p13)]) E0 := fun t k => by
  refine pre0 _ ?_
  refine yan X0 hx hby d9_120 rfl rfl ?_
  refine yil X0 hx hby d9_121 rfl ?_
  refine X0.baloadBooleans hx (j := p9) (v := (.int p13)) (by rw [e0]; exact Ar1.1) (State.isArrayOf_alike hZ.alike Ar1.2.1) Ar1.2.2 hin1 hat1 (g := (mkF m 123 #[.val (.ref o1), .val (.ref o2), .val (.ref o3), .val (.ref o4), .val (.ref o5), .val (.ref o6), .val (.int p7), .val (.int p8), .val (.int p9), .unset] [(.int p9), (.ref o4)])) rfl rfl (hb hby d9_123) _ ?_
  exact k
 by_cases hc3 : p13 = (0 : Int32)
 ·
  have pre4 : Go p e below T0 (mkF m 124 #[.val (.ref o1), .val (.ref o2), .val (.ref o3), .val (.ref o4), .val (.ref o5), .val (.ref o6), .val (.int p7), .val (.int p8), .val (.int p9), .unset] [(.int 0)]) E0 := fun t k => pre2 t (by rw [hc3]; exact k)
  have pre5 : Go p e below T0 (mkF m 186 #[.val (.ref o1), .val (.ref o2), .val (.ref o3), .val (.ref o4), .val (.ref o5), .val (.ref o6), .val (.int p7), .val (.int p8), .val (.int p9), .unset] []) E0 := fun t k => by
   refine pre4 _ ?_
   refine XS.ifYes X0.here hx rfl (pc0 := 124) (pc' := 163) rfl (hb hby d9_124) rfl ((if0 _ _).trans (teq (by decide : (0 : Int32) = (0 : Int32))).1) (by decide) (by decide) ?_
   refine ygo X0 hx hby 163 186 rfl d9_163 (by decide) ?_
   exact k
  exact (Or.inl ⟨_, _, hc3, X0, N0, e0, pre5⟩)
 ·
  obtain ⟨cl6, Ar6, qa6, Sa6, Na6, Ha6, Ga6⟩ := id (P2)
  have hin6 := inb_of (j := p9) Sa6 ⟨hp0, hp1⟩
  have hat6 : cl6.slots[(p9).toNatClampNeg]? = some (.int p14) := Has.at Ha6 hin6 hr3
  obtain ⟨cl7, Ar7, qa7, Sa7, Na7, Ha7, Ga7⟩ := id (P3)
  have hin7 := inb_of (j := (2 : Int32)) Sa7 ⟨by decide, by decide⟩
  have hat7 : cl7.slots[((2 : Int32)).toNatClampNeg]? = some (.int p12) := Has.at Ha7 hin7 rfl
  have pre8 : Go p e below T0 (mkF m 136 #[.val (.ref o1), .val (.ref o2), .val (.ref o3), .val (.ref o4), .val (.ref o5), .val (.ref o6), .val (.int p7), .val (.int p8), .val (.int p9), .unset] [(.int p12), (.int p14)]) E0 := fun t k => by
   refine pre2 _ ?_
   refine yfn X0 hx hby d9_124 ((if0 _ _).trans (feq hc3).1) ?_
   refine yal X0 hx hby d9_127 rfl rfl ?_
   refine yil X0 hx hby d9_129 rfl ?_
   refine X0.iaload hx (j := p9) (v := (.int p14)) (by rw [e0]; exact Ar6.1) (State.isArrayOf_alike hZ.alike Ar6.2.1) Ar6.2.2 hin6 hat6 (g := (mkF m 131 #[.val (.ref o1), .val (.ref o2), .val (.ref o3), .val (.ref o4), .val (.ref o5), .val (.ref o6), .val (.int p7), .val (.int p8), .val (.int p9), .unset] [(.int p9), (.ref o5)])) rfl rfl (hb hby d9_131) _ ?_
   refine yal X0 hx hby d9_132 rfl rfl ?_
   refine yic X0 hx hby d9_134 ?_
   refine X0.iaload hx (j := (2 : Int32)) (v := (.int p12)) (by rw [e0]; exact Ar7.1) (State.isArrayOf_alike hZ.alike Ar7.2.1) Ar7.2.2 hin7 hat7 (g := (mkF m 135 #[.val (.ref o1), .val (.ref o2), .val (.ref o3), .val (.ref o4), .val (.ref o5), .val (.ref o6), .val (.int p7), .val (.int p8), .val (.int p9), .unset] [(.int 2), (.ref o6), (.int p14)])) rfl rfl (hb hby d9_135) _ ?_
   exact k
  by_cases hc9 : p14 = p12
  ·
   obtain ⟨cl10, Ar10, qa10, Sa10, Na10, Ha10, Ga10⟩ := id (P0)
   have hin10 := inb_of (j := p9) Sa10 ⟨hp0, hp1⟩
   have hat10 : cl10.slots[(p9).toNatClampNeg]? = some (.ref o9) := Has.at Ha10 hin10 hr1
   have pre11 : Go p e below T0 (mkF m 145 #[.val (.ref o1), .val (.ref o2), .val (.ref o3), .val (.ref o4), .val (.ref o5), .val (.ref o6), .val (.int p7), .val (.int p8), .val (.int p9), .unset] [(.long 1), (.ref o9), (.ref o1)]) E0 := fun t k => by
    refine pre8 _ ?_
    refine yno X0 hx hby d9_136 (teq hc9).2 ?_
    refine yan X0 hx hby d9_139 rfl rfl ?_
    refine yan X0 hx hby d9_140 rfl rfl ?_
    refine yil X0 hx hby d9_141 rfl ?_
    refine X0.aaload hx (j := p9) (v := (.ref o9)) (by rw [e0]; exact Ar10.1) (State.isArrayOf_alike hZ.alike Ar10.2.1) rfl Ar10.2.2 hin10 hat10 (g := (mkF m 143 #[.val (.ref o1), .val (.ref o2), .val (.ref o3), .val (.ref o4), .val (.ref o5), .val (.ref o6), .val (.int p7), .val (.int p8), .val (.int p9), .unset] [(.int p9), (.ref o3), (.ref o1)])) rfl rfl (hb hby d9_143) _ ?_
    refine XS.lconst X0.here hx rfl (hb hby d9_144) ?_
    exact k
   exact (Or.inr (Or.inl ⟨_, _, hc3, hc9, X0, N0, e0, pre11⟩))
  ·
   have pre12 : Go p e below T0 (mkF m 186 #[.val (.ref o1), .val (.ref o2), .val (.ref o3), .val (.ref o4), .val (.ref o5), .val (.ref o6), .val (.int p7), .val (.int p8), .val (.int p9), .unset] []) E0 := fun t k => by
    refine pre8 _ ?_
    refine yye X0 hx hby 136 163 rfl d9_136 (feq hc9).2 (by decide) ?_
    refine ygo X0 hx hby 163 186 rfl d9_163 (by decide) ?_
    exact k
   exact (Or.inr (Or.inr ⟨_, _, hc3, hc9, X0, N0, e0, pre12⟩))
set_option maxRecDepth 65536 in
set_option maxHeartbeats 40000000 in
theorem st_6b {p : Program} {l : Launch} {e : Env} {s : State} {m : MethodId} {below : List Frame} {meth : Method} {c : Code} {E0 T0 : State} {locs : List Loc} {Z : State} {a0 : Array Value} (hw : HW a0 Z) {o4 : Addr} {o6 : Addr} {p9 : Int32} {kc4 : ClassId} {kc6 : ClassId} {p10 : Int32} {p11 : Int32} {p12 : Int32} {o1 : Addr} {o2 : Addr} {o3 : Addr} {o5 : Addr} {p7 : Int32} {p8 : Int32} {vs2 : List Value} {ix1 : Nat} {h0 : Heap} {n0 : Nat} (O0 : Old Z n0 h0)
    (hx : p.tables.exec = Jvm.exec) (hby : c.code = method_3_code) (hml : c.maxLocals = 10) (hown : s.vm.findClass cn8 = some m.cls) (hret : meth.sig.returnType = some .boolean) (hlk : meth.locks = false) (hZ : Z.Warmed39 s.vm)
    (X0 : Stand p l e ({ frames := 3, cells := 2, slots := 42, locals := 46 } : Room) s m #[(.ref o1), (.ref o2), (.ref o3), (.ref o4), (.ref o5), (.ref o6), (.int p7)] below meth c T0 locs 1 33) (e0 : T0.heap = h0) (N0 : Fr n0 locs) (pre0 : Go p e below T0 (mkF m 148 #[.val (.ref o1), .val (.ref o2), .val (.ref o3), .val (.ref o4), .val (.ref o5), .val (.ref o6), .val (.int p7), .val (.int p8), .val (.int p9), .unset] []) E0) (g_o4 : n0 ≤ o4) (g_o6 : n0 ≤ o6) (hp0 : ¬ (p9 < (0 : Int32))) (hp1 : p9 < (12 : Int32)) (P1 : Exa Z h0 o4 "[Z") (P3 : Exa Z h0 o6 "[I") (P4 : Arv Z h0 o4 kc4 .boolean (12 : Int32) vs2 (.int 0)) (P5 : Arv Z h0 o6 kc6 .int (3 : Int32) [(.int p10), (.int p11), (.int p12)] (.int 0)) (hj : p9.toNatClampNeg = ix1) (hi2 : ix1 < vs2.length) :
    (∃ (T' : State) (lc : List Loc), Stand p l e ({ frames := 3, cells := 2, slots := 42, locals := 46 } : Room) s m #[(.ref o1), (.ref o2), (.ref o3), (.ref o4), (.ref o5), (.ref o6), (.int p7)] below meth c T' lc 1 33 ∧ Fr n0 lc ∧ Keep h0 T'.heap [o4, o6] ∧ (Arv Z T'.heap o4 kc4 .boolean (12 : Int32) (vs2.set ix1 (.int 0)) (.int 0)) ∧ (Exa Z T'.heap o4 "[Z") ∧ (Arv Z T'.heap o6 kc6 .int (3 : Int32) [(.int p10), (.int (p11 - (1 : Int32))), (.int p12)] (.int 0)) ∧ (Exa Z T'.heap o6 "[I") ∧ Go p e below T' (mkF m 186 #[.val (.ref o1), .val (.ref o2), .val (.ref o3), .val (.ref o4), .val (.ref o5), .val (.ref o6), .val (.int p7), .val (.int p8), .val (.int p9), .unset] []) E0) := by
 obtain ⟨cl1, Ar1, qa1, Sa1, Na1, Ha1, Ga1⟩ := id (P4)
 have hin1 := inb_of (j := p9) Sa1 ⟨hp0, hp1⟩
 obtain ⟨T2, h2, X2, e2, W2, st2⟩ := stZ X0 hx hZ e0 Ar1 (j := p9) hin1 (g := (mkF m 152 #[.val (.ref o1), .val (.ref o2), .val (.ref o3), .val (.ref o4), .val (.ref o5), .val (.ref o6), .val (.int p7), .val (.int p8), .val (.int p9), .unset] [(.int 0), (.int p9), (.ref o4)])) rfl rfl (hb hby d9_152)
 have V2 : Arv Z h2 o4 kc4 .boolean (12 : Int32) (vs2.set ix1 (.int 0)) (.int 0) := Arv.set Ar1 qa1 Sa1 Na1 Ha1 Ga1 (by decide) W2 ix1 hj hi2
 have N2 := Fr.snoc X2 N0 g_o4
 have f3 := (P3.wr W2)
 have f4 := (P1.wr W2)
 have ne5 : o6 ≠ o4 := ne_exa f3 f4 (by decide)
 have f6 := (P5.other W2 ne5)
 obtain ⟨cl7, Ar7, qa7, Sa7, Na7, Ha7, Ga7⟩ := id (f6)
 have hin7 := inb_of (j := (1 : Int32)) Sa7 ⟨by decide, by decide⟩
 have hat7 : cl7.slots[((1 : Int32)).toNatClampNeg]? = some (.int p11) := Has.at Ha7 hin7 rfl
 obtain ⟨cl8, Ar8, qa8, Sa8, Na8, Ha8, Ga8⟩ := id (f6)
 have hin8 := inb_of (j := (1 : Int32)) Sa8 ⟨by decide, by decide⟩
 obtain ⟨T9, h9, X9, e9, W9, st9⟩ := stI X2 hx hZ e2 Ar8 (j := (1 : Int32)) hin8 (g := (mkF m 162 #[.val (.ref o1), .val (.ref o2), .val (.ref o3), .val (.ref o4), .val (.ref o5), .val (.ref o6), .val (.int p7), .val (.int p8), .val (.int p9), .unset] [(.int (p11 - (1 : Int32))), (.int 1), (.ref o6)])) rfl rfl (hb hby d9_162)
 have V9 : Arv Z h9 o6 kc6 .int (3 : Int32) [(.int p10), (.int (p11 - (1 : Int32))), (.int p12)] (.int 0) := Arv.set Ar8 qa8 Sa8 Na8 Ha8 Ga8 rfl W9 1 rfl (Nat.le_of_ble_eq_true rfl)
 have N9 := Fr.snoc X9 N2 g_o6
 have pre10 : Go p e below T9 (mkF m 186 #[.val (.ref o1), .val (.ref o2), .val (.ref o3), .val (.ref o4), .val (.ref o5), .val (.ref o6), .val (.int p7), .val (.int p8), .val (.int p9), .unset] []) E0 := fun t k => by
  refine pre0 _ ?_
  refine yan X0 hx hby d9_148 rfl rfl ?_
  refine yil X0 hx hby d9_149 rfl ?_
  refine yic X0 hx hby d9_151 ?_
  refine st2 _ ?_
  refine yal X2 hx hby d9_153 rfl rfl ?_
  refine yic X2 hx hby d9_155 ?_
  refine yal X2 hx hby d9_156 rfl rfl ?_
  refine yic X2 hx hby d9_158 ?_
  refine X2.iaload hx (j := (1 : Int32)) (v := (.int p11)) (by rw [e2]; exact Ar7.1) (State.isArrayOf_alike hZ.alike Ar7.2.1) Ar7.2.2 hin7 hat7 (g := (mkF m 159 #[.val (.ref o1), .val (.ref o2), .val (.ref o3), .val (.ref o4), .val (.ref o5), .val (.ref o6), .val (.int p7), .val (.int p8), .val (.int p9), .unset] [(.int 1), (.ref o6), (.int 1), (.ref o6)])) rfl rfl (hb hby d9_159) _ ?_
  refine yic X2 hx hby d9_160 ?_
  refine ysu X2 hx hby d9_161 ?_
  refine st9 _ ?_
  refine ygo X9 hx hby 163 186 rfl d9_163 (by decide) ?_
  exact k
 have KL : Keep h0 h9 [o4, o6] := (((Keep.refl h0 [o4, o6]).wr W2 (Or.inl (List.mem_of_getElem? (i := 0) rfl))).wr W9 (Or.inl (List.mem_of_getElem? (i := 1) rfl)))
 have f11 := (V2.other W9 (Ne.symm ne5))
 have f12 := (f4.wr W9)
 have f13 := (f3.wr W9)
 exact ⟨_, _, X9, N9, (by rw [e9]; exact KL), (by rw [e9]; exact f11), (by rw [e9]; exact f12), (by rw [e9]; exact V9), (by rw [e9]; exact f13), pre10⟩
set_option maxRecDepth 65536 in
set_option maxHeartbeats 40000000 in
theorem st_7b {p : Program} {l : Launch} {e : Env} {s : State} {m : MethodId} {below : List Frame} {meth : Method} {c : Code} {E0 T0 : State} {locs : List Loc} {Z : State} {a0 : Array Value} (hw : HW a0 Z) {o1 : Addr} {o2 : Addr} {o3 : Addr} {o4 : Addr} {o5 : Addr} {o6 : Addr} {p7 : Int32} {p8 : Int32} {h0 : Heap} {n0 : Nat} (O0 : Old Z n0 h0)
    (hx : p.tables.exec = Jvm.exec) (hby : c.code = method_3_code) (hml : c.maxLocals = 10) (hown : s.vm.findClass cn8 = some m.cls) (hret : meth.sig.returnType = some .boolean) (hlk : meth.locks = false) (hZ : Z.Warmed39 s.vm)
    (X0 : Stand p l e ({ frames := 3, cells := 2, slots := 42, locals := 46 } : Room) s m #[(.ref o1), (.ref o2), (.ref o3), (.ref o4), (.ref o5), (.ref o6), (.int p7)] below meth c T0 locs 0 0) (e0 : T0.heap = h0) (N0 : Fr n0 locs) (pre0 : Go p e below T0 (mkF m 166 #[.val (.ref o1), .val (.ref o2), .val (.ref o3), .val (.ref o4), .val (.ref o5), .val (.ref o6), .val (.int p7), .val (.int p8), .unset, .unset] []) E0) :
    (∃ (T' : State) (lc : List Loc), Stand p l e ({ frames := 3, cells := 2, slots := 42, locals := 46 } : Room) s m #[(.ref o1), (.ref o2), (.ref o3), (.ref o4), (.ref o5), (.ref o6), (.int p7)] below meth c T' lc 0 0 ∧ Fr n0 lc ∧ T'.heap = h0 ∧ Go p e below T' (mkF m 168 #[.val (.ref o1), .val (.ref o2), .val (.ref o3), .val (.ref o4), .val (.ref o5), .val (.ref o6), .val (.int p7), .val (.int p8), .unset, .unset] [(.long 1), (.ref o1)]) E0) := by
 have pre1 : Go p e below T0 (mkF m 168 #[.val (.ref o1), .val (.ref o2), .val (.ref o3), .val (.ref o4), .val (.ref o5), .val (.ref o6), .val (.int p7), .val (.int p8), .unset, .unset] [(.long 1), (.ref o1)]) E0 := fun t k => by
  refine pre0 _ ?_
  refine yan X0 hx hby d9_166 rfl rfl ?_
  refine XS.lconst X0.here hx rfl (hb hby d9_167) ?_
  exact k
 exact ⟨_, _, X0, N0, e0, pre1⟩
set_option maxRecDepth 65536 in
set_option maxHeartbeats 40000000 in
theorem st_8b {p : Program} {l : Launch} {e : Env} {s : State} {m : MethodId} {below : List Frame} {meth : Method} {c : Code} {E0 T0 : State} {locs : List Loc} {Z : State} {a0 : Array Value} (hw : HW a0 Z) {o6 : Addr} {kc6 : ClassId} {p10 : Int32} {p11 : Int32} {p12 : Int32} {o1 : Addr} {o2 : Addr} {o3 : Addr} {o4 : Addr} {o5 : Addr} {p7 : Int32} {p8 : Int32} {h0 : Heap} {n0 : Nat} (O0 : Old Z n0 h0)
    (hx : p.tables.exec = Jvm.exec) (hby : c.code = method_3_code) (hml : c.maxLocals = 10) (hown : s.vm.findClass cn8 = some m.cls) (hret : meth.sig.returnType = some .boolean) (hlk : meth.locks = false) (hZ : Z.Warmed39 s.vm)
    (X0 : Stand p l e ({ frames := 3, cells := 2, slots := 42, locals := 46 } : Room) s m #[(.ref o1), (.ref o2), (.ref o3), (.ref o4), (.ref o5), (.ref o6), (.int p7)] below meth c T0 locs 0 0) (e0 : T0.heap = h0) (N0 : Fr n0 locs) (pre0 : Go p e below T0 (mkF m 171 #[.val (.ref o1), .val (.ref o2), .val (.ref o3), .val (.ref o4), .val (.ref o5), .val (.ref o6), .val (.int p7), .val (.int p8), .unset, .unset] []) E0) (g_o6 : n0 ≤ o6) (P3 : Exa Z h0 o6 "[I") (P4 : Arv Z h0 o6 kc6 .int (3 : Int32) [(.int p10), (.int p11), (.int p12)] (.int 0)) :
    (∃ (T' : State) (lc : List Loc), Stand p l e ({ frames := 3, cells := 2, slots := 42, locals := 46 } : Room) s m #[(.ref o1), (.ref o2), (.ref o3), (.ref o4), (.ref o5), (.ref o6), (.int p7)] below meth c T' lc 0 0 ∧ Fr n0 lc ∧ Keep h0 T'.heap [o6] ∧ (Arv Z T'.heap o6 kc6 .int (3 : Int32) [(.int p10), (.int 0), (.int (p12 + (1 : Int32)))] (.int 0)) ∧ (Exa Z T'.heap o6 "[I") ∧ Go p e below T' (mkF m 186 #[.val (.ref o1), .val (.ref o2), .val (.ref o3), .val (.ref o4), .val (.ref o5), .val (.ref o6), .val (.int p7), .val (.int p8), .unset, .unset] []) E0) := by
 obtain ⟨cl1, Ar1, qa1, Sa1, Na1, Ha1, Ga1⟩ := id (P4)
 have hin1 := inb_of (j := (2 : Int32)) Sa1 ⟨by decide, by decide⟩
 have hat1 : cl1.slots[((2 : Int32)).toNatClampNeg]? = some (.int p12) := Has.at Ha1 hin1 rfl
 obtain ⟨cl2, Ar2, qa2, Sa2, Na2, Ha2, Ga2⟩ := id (P4)
 have hin2 := inb_of (j := (2 : Int32)) Sa2 ⟨by decide, by decide⟩
 obtain ⟨T3, h3, X3, e3, W3, st3⟩ := stI X0 hx hZ e0 Ar2 (j := (2 : Int32)) hin2 (g := (mkF m 180 #[.val (.ref o1), .val (.ref o2), .val (.ref o3), .val (.ref o4), .val (.ref o5), .val (.ref o6), .val (.int p7), .val (.int p8), .unset, .unset] [(.int (p12 + (1 : Int32))), (.int 2), (.ref o6)])) rfl rfl (hb hby d9_180)
 have V3 : Arv Z h3 o6 kc6 .int (3 : Int32) [(.int p10), (.int p11), (.int (p12 + (1 : Int32)))] (.int 0) := Arv.set Ar2 qa2 Sa2 Na2 Ha2 Ga2 rfl W3 2 rfl (Nat.le_of_ble_eq_true rfl)
 have N3 := Fr.snoc X3 N0 g_o6
 obtain ⟨cl4, Ar4, qa4, Sa4, Na4, Ha4, Ga4⟩ := id (V3)
 have hin4 := inb_of (j := (1 : Int32)) Sa4 ⟨by decide, by decide⟩
 obtain ⟨T5, h5, X5, e5, W5, st5⟩ := stI X3 hx hZ e3 Ar4 (j := (1 : Int32)) hin4 (g := (mkF m 185 #[.val (.ref o1), .val (.ref o2), .val (.ref o3), .val (.ref o4), .val (.ref o5), .val (.ref o6), .val (.int p7), .val (.int p8), .unset, .unset] [(.int 0), (.int 1), (.ref o6)])) rfl rfl (hb hby d9_185)
 have V5 : Arv Z h5 o6 kc6 .int (3 : Int32) [(.int p10), (.int 0), (.int (p12 + (1 : Int32)))] (.int 0) := Arv.set Ar4 qa4 Sa4 Na4 Ha4 Ga4 rfl W5 1 rfl (Nat.le_of_ble_eq_true rfl)
 have N5 := Fr.snoc X5 N3 g_o6
 have pre6 : Go p e below T5 (mkF m 186 #[.val (.ref o1), .val (.ref o2), .val (.ref o3), .val (.ref o4), .val (.ref o5), .val (.ref o6), .val (.int p7), .val (.int p8), .unset, .unset] []) E0 := fun t k => by
  refine pre0 _ ?_
  refine yal X0 hx hby d9_171 rfl rfl ?_
  refine yic X0 hx hby d9_173 ?_
  refine yal X0 hx hby d9_174 rfl rfl ?_
  refine yic X0 hx hby d9_176 ?_
  refine X0.iaload hx (j := (2 : Int32)) (v := (.int p12)) (by rw [e0]; exact Ar1.1) (State.isArrayOf_alike hZ.alike Ar1.2.1) Ar1.2.2 hin1 hat1 (g := (mkF m 177 #[.val (.ref o1), .val (.ref o2), .val (.ref o3), .val (.ref o4), .val (.ref o5), .val (.ref o6), .val (.int p7), .val (.int p8), .unset, .unset] [(.int 2), (.ref o6), (.int 2), (.ref o6)])) rfl rfl (hb hby d9_177) _ ?_
  refine yic X0 hx hby d9_178 ?_
  refine yad X0 hx hby d9_179 ?_
  refine st3 _ ?_
  refine yal X3 hx hby d9_181 rfl rfl ?_
  refine yic X3 hx hby d9_183 ?_
  refine yic X3 hx hby d9_184 ?_
  refine st5 _ ?_
  exact k
 have KL : Keep h0 h5 [o6] := (((Keep.refl h0 [o6]).wr W3 (Or.inl (List.mem_of_getElem? (i := 0) rfl))).wr W5 (Or.inl (List.mem_of_getElem? (i := 0) rfl)))
 have f7 := ((P3.wr W3).wr W5)
 exact ⟨_, _, X5, N5, (by rw [e5]; exact KL), (by rw [e5]; exact V5), (by rw [e5]; exact f7), pre6⟩
def l579_0 (o1 o2 : Addr) (o3 o4 : Addr) (o5 o6 : Addr) (p7 p8 : Int32) (o9 : Addr) (p13 : Int32) : Array Slot := #[.val (.ref o1), .val (.ref o2), .val (.ref o3), .val (.ref o4), .val (.ref o5), .val (.ref o6), .val (.int p7), .val (.int p8), .val (.ref o9), .val (.int p13)]
set_option maxRecDepth 65536 in
set_option maxHeartbeats 40000000 in
theorem st_9rb {p : Program} {l : Launch} {e : Env} {s : State} {m : MethodId} {below : List Frame} {meth : Method} {c : Code} {E0 T0 : State} {locs : List Loc} {Z : State} {a0 : Array Value} (hw : HW a0 Z) {o1 : Addr} {p15 : Int32} {p16 : Int32} {p17 : Int32} {o6 : Addr} {kc6 : ClassId} {p10 : Int32} {p11 : Int32} {p12 : Int32} {o2 : Addr} {o3 : Addr} {o4 : Addr} {o5 : Addr} {p7 : Int32} {p8 : Int32} {o9 : Addr} {p13 : Int32} {h0 : Heap} {n0 : Nat} (O0 : Old Z n0 h0)
    (hx : p.tables.exec = Jvm.exec) (hby : c.code = method_3_code) (hml : c.maxLocals = 10) (hown : s.vm.findClass cn8 = some m.cls) (hret : meth.sig.returnType = some .boolean) (hlk : meth.locks = false) (hZ : Z.Warmed39 s.vm)
    (X0 : Stand p l e ({ frames := 3, cells := 2, slots := 42, locals := 46 } : Room) s m #[(.ref o1), (.ref o2), (.ref o3), (.ref o4), (.ref o5), (.ref o6), (.int p7)] below meth c T0 locs 2 42) (e0 : T0.heap = h0) (N0 : Fr n0 locs) (pre0 : Go p e below T0 (mkF m 186 (l579_0 o1 o2 o3 o4 o5 o6 p7 p8 o9 p13) []) E0) (g_o1 : n0 ≤ o1) (P0 : Exa Z h0 o1 cn7) (P1 : Fld Z h0 o1 cn7 "end" "I" (.int p15)) (P2 : Fld Z h0 o1 cn7 "first" "I" (.int p16)) (P3 : Fld Z h0 o1 cn7 "removed" "I" (.int p17)) (P4 : Arv Z h0 o6 kc6 .int (3 : Int32) [(.int p10), (.int p11), (.int p12)] (.int 0)) :
    (∃ (s₂ : State) (L : List Loc), (((p15 - p16) - p17) = p11) ∧ Steps p.tables e below E0 s₂ ∧ s₂.status = .running ∧ Ended s₂ below (.returned (some (.int 1))) ∧ Fr n0 L ∧ FrameEnd s (.returned (some (.int 1))) s₂ L 2 42 ∧ s₂.heap = h0)
    ∨ (∃ (s₂ : State) (L : List Loc), (¬ (((p15 - p16) - p17) = p11)) ∧ Steps p.tables e below E0 s₂ ∧ s₂.status = .running ∧ Ended s₂ below (.returned (some (.int 0))) ∧ Fr n0 L ∧ FrameEnd s (.returned (some (.int 0))) s₂ L 2 42 ∧ s₂.heap = h0) := by
 obtain ⟨_, T1, L1, X1, hQ1, st1⟩ := yv X0 hx hZ hown hby hml (y := yn0) (own_w hw 19 rfl) (own_w hw 20 rfl) (own_w hw 22 rfl) (own_w hw 21 rfl) (own_w hw 23 rfl) (w_2 hw) e0 P0 [] [] (rm1 l Z a0 hw [] o1 p15 p16 p17 h0 n0 O0 g_o1 P1 P2 P3) 187 (l579_0 o1 o2 o3 o4 o5 o6 p7 p8 o9 p13) rfl d9_187 (lenOf pd3 rfl) 0 2 42
 obtain ⟨rfl, Nq2, e3⟩ := hQ1
 have N1 := Fr.app N0 Nq2
 obtain ⟨cl4, Ar4, qa4, Sa4, Na4, Ha4, Ga4⟩ := id (P4)
 have hin4 := inb_of (j := (1 : Int32)) Sa4 ⟨by decide, by decide⟩
 have hat4 : cl4.slots[((1 : Int32)).toNatClampNeg]? = some (.int p11) := Has.at Ha4 hin4 rfl
 have pre5 : Go p e below T1 (mkF m 194 (l579_0 o1 o2 o3 o4 o5 o6 p7 p8 o9 p13) [(.int p11), (.int ((p15 - p16) - p17))]) E0 := fun t k => by
  refine pre0 _ ?_
  refine yan X0 hx hby d9_186 rfl rfl ?_
  refine st1 _ ?_
  refine yal X1 hx hby d9_190 rfl rfl ?_
  refine yic X1 hx hby d9_192 ?_
  refine X1.iaload hx (j := (1 : Int32)) (v := (.int p11)) (by rw [e3]; exact Ar4.1) (State.isArrayOf_alike hZ.alike Ar4.2.1) Ar4.2.2 hin4 hat4 (g := (mkF m 193 (l579_0 o1 o2 o3 o4 o5 o6 p7 p8 o9 p13) [(.int 1), (.ref o6), (.int ((p15 - p16) - p17))])) rfl rfl (hb hby d9_193) _ ?_
  exact k
 by_cases hc6 : ((p15 - p16) - p17) = p11
 ·
  obtain ⟨fs, hr, hrun, hended, hW, hsame⟩ := X1.leave (v := some (.int 1)) (fun h => by rw [hret] at h; cases h)
  refine (Or.inl ⟨_, _, hc6, pre5 _ ?_, hrun, hended, N1, ⟨⟨_, rfl⟩, hW, hsame.mono (by decide) (by decide)⟩, e3⟩)
  show Steps p.tables e below (T1.setTop (mkF m 194 (l579_0 o1 o2 o3 o4 o5 o6 p7 p8 o9 p13) [(.int p11), (.int ((p15 - p16) - p17))])) _
  refine yno X1 hx hby d9_194 (teq hc6).2 ?_
  refine yic X1 hx hby d9_197 ?_
  refine ygo X1 hx hby 198 202 rfl d9_198 (by decide) ?_
  show Steps p.tables e below (T1.setTop (mkF m 202 (l579_0 o1 o2 o3 o4 o5 o6 p7 p8 o9 p13) [(.int 1)])) _
  exact retN X1 hx (t := .boolean) hret (by simp) (hb hby d9_202) hr
 ·
  obtain ⟨fs, hr, hrun, hended, hW, hsame⟩ := X1.leave (v := some (.int 0)) (fun h => by rw [hret] at h; cases h)
  refine (Or.inr ⟨_, _, hc6, pre5 _ ?_, hrun, hended, N1, ⟨⟨_, rfl⟩, hW, hsame.mono (by decide) (by decide)⟩, e3⟩)
  show Steps p.tables e below (T1.setTop (mkF m 194 (l579_0 o1 o2 o3 o4 o5 o6 p7 p8 o9 p13) [(.int p11), (.int ((p15 - p16) - p17))])) _
  refine yye X1 hx hby 194 201 rfl d9_194 (feq hc6).2 (by decide) ?_
  refine yic X1 hx hby d9_201 ?_
  show Steps p.tables e below (T1.setTop (mkF m 202 (l579_0 o1 o2 o3 o4 o5 o6 p7 p8 o9 p13) [(.int 0)])) _
  exact retN X1 hx (t := .boolean) hret (by simp) (hb hby d9_202) hr
def l580_0 (o1 o2 : Addr) (o3 o4 : Addr) (o5 o6 : Addr) (p7 p8 p9 : Int32) : Array Slot := #[.val (.ref o1), .val (.ref o2), .val (.ref o3), .val (.ref o4), .val (.ref o5), .val (.ref o6), .val (.int p7), .val (.int p8), .val (.int p9), .unset]
set_option maxRecDepth 65536 in
set_option maxHeartbeats 40000000 in
theorem st_9ib {p : Program} {l : Launch} {e : Env} {s : State} {m : MethodId} {below : List Frame} {meth : Method} {c : Code} {E0 T0 : State} {locs : List Loc} {Z : State} {a0 : Array Value} (hw : HW a0 Z) {o1 : Addr} {p15 : Int32} {p16 : Int32} {p17 : Int32} {o6 : Addr} {kc6 : ClassId} {p10 : Int32} {p11 : Int32} {p12 : Int32} {o2 : Addr} {o3 : Addr} {o4 : Addr} {o5 : Addr} {p7 : Int32} {p8 : Int32} {p9 : Int32} {h0 : Heap} {n0 : Nat} (O0 : Old Z n0 h0)
    (hx : p.tables.exec = Jvm.exec) (hby : c.code = method_3_code) (hml : c.maxLocals = 10) (hown : s.vm.findClass cn8 = some m.cls) (hret : meth.sig.returnType = some .boolean) (hlk : meth.locks = false) (hZ : Z.Warmed39 s.vm)
    (X0 : Stand p l e ({ frames := 3, cells := 2, slots := 42, locals := 46 } : Room) s m #[(.ref o1), (.ref o2), (.ref o3), (.ref o4), (.ref o5), (.ref o6), (.int p7)] below meth c T0 locs 2 42) (e0 : T0.heap = h0) (N0 : Fr n0 locs) (pre0 : Go p e below T0 (mkF m 186 (l580_0 o1 o2 o3 o4 o5 o6 p7 p8 p9) []) E0) (g_o1 : n0 ≤ o1) (P0 : Exa Z h0 o1 cn7) (P1 : Fld Z h0 o1 cn7 "end" "I" (.int p15)) (P2 : Fld Z h0 o1 cn7 "first" "I" (.int p16)) (P3 : Fld Z h0 o1 cn7 "removed" "I" (.int p17)) (P4 : Arv Z h0 o6 kc6 .int (3 : Int32) [(.int p10), (.int p11), (.int p12)] (.int 0)) :
    (∃ (s₂ : State) (L : List Loc), (((p15 - p16) - p17) = p11) ∧ Steps p.tables e below E0 s₂ ∧ s₂.status = .running ∧ Ended s₂ below (.returned (some (.int 1))) ∧ Fr n0 L ∧ FrameEnd s (.returned (some (.int 1))) s₂ L 2 42 ∧ s₂.heap = h0)
    ∨ (∃ (s₂ : State) (L : List Loc), (¬ (((p15 - p16) - p17) = p11)) ∧ Steps p.tables e below E0 s₂ ∧ s₂.status = .running ∧ Ended s₂ below (.returned (some (.int 0))) ∧ Fr n0 L ∧ FrameEnd s (.returned (some (.int 0))) s₂ L 2 42 ∧ s₂.heap = h0) := by
 obtain ⟨_, T1, L1, X1, hQ1, st1⟩ := yv X0 hx hZ hown hby hml (y := yn0) (own_w hw 19 rfl) (own_w hw 20 rfl) (own_w hw 22 rfl) (own_w hw 21 rfl) (own_w hw 23 rfl) (w_2 hw) e0 P0 [] [] (rm1 l Z a0 hw [] o1 p15 p16 p17 h0 n0 O0 g_o1 P1 P2 P3) 187 (l580_0 o1 o2 o3 o4 o5 o6 p7 p8 p9) rfl d9_187 (lenOf pd3 rfl) 0 2 42
 obtain ⟨rfl, Nq2, e3⟩ := hQ1
 have N1 := Fr.app N0 Nq2
 obtain ⟨cl4, Ar4, qa4, Sa4, Na4, Ha4, Ga4⟩ := id (P4)
 have hin4 := inb_of (j := (1 : Int32)) Sa4 ⟨by decide, by decide⟩
 have hat4 : cl4.slots[((1 : Int32)).toNatClampNeg]? = some (.int p11) := Has.at Ha4 hin4 rfl
 have pre5 : Go p e below T1 (mkF m 194 (l580_0 o1 o2 o3 o4 o5 o6 p7 p8 p9) [(.int p11), (.int ((p15 - p16) - p17))]) E0 := fun t k => by
  refine pre0 _ ?_
  refine yan X0 hx hby d9_186 rfl rfl ?_
  refine st1 _ ?_
  refine yal X1 hx hby d9_190 rfl rfl ?_
  refine yic X1 hx hby d9_192 ?_
  refine X1.iaload hx (j := (1 : Int32)) (v := (.int p11)) (by rw [e3]; exact Ar4.1) (State.isArrayOf_alike hZ.alike Ar4.2.1) Ar4.2.2 hin4 hat4 (g := (mkF m 193 (l580_0 o1 o2 o3 o4 o5 o6 p7 p8 p9) [(.int 1), (.ref o6), (.int ((p15 - p16) - p17))])) rfl rfl (hb hby d9_193) _ ?_
  exact k
 by_cases hc6 : ((p15 - p16) - p17) = p11
 ·
  obtain ⟨fs, hr, hrun, hended, hW, hsame⟩ := X1.leave (v := some (.int 1)) (fun h => by rw [hret] at h; cases h)
  refine (Or.inl ⟨_, _, hc6, pre5 _ ?_, hrun, hended, N1, ⟨⟨_, rfl⟩, hW, hsame.mono (by decide) (by decide)⟩, e3⟩)
  show Steps p.tables e below (T1.setTop (mkF m 194 (l580_0 o1 o2 o3 o4 o5 o6 p7 p8 p9) [(.int p11), (.int ((p15 - p16) - p17))])) _
  refine yno X1 hx hby d9_194 (teq hc6).2 ?_
  refine yic X1 hx hby d9_197 ?_
  refine ygo X1 hx hby 198 202 rfl d9_198 (by decide) ?_
  show Steps p.tables e below (T1.setTop (mkF m 202 (l580_0 o1 o2 o3 o4 o5 o6 p7 p8 p9) [(.int 1)])) _
  exact retN X1 hx (t := .boolean) hret (by simp) (hb hby d9_202) hr
 ·
  obtain ⟨fs, hr, hrun, hended, hW, hsame⟩ := X1.leave (v := some (.int 0)) (fun h => by rw [hret] at h; cases h)
  refine (Or.inr ⟨_, _, hc6, pre5 _ ?_, hrun, hended, N1, ⟨⟨_, rfl⟩, hW, hsame.mono (by decide) (by decide)⟩, e3⟩)
  show Steps p.tables e below (T1.setTop (mkF m 194 (l580_0 o1 o2 o3 o4 o5 o6 p7 p8 p9) [(.int p11), (.int ((p15 - p16) - p17))])) _
  refine yye X1 hx hby 194 201 rfl d9_194 (feq hc6).2 (by decide) ?_
  refine yic X1 hx hby d9_201 ?_
  show Steps p.tables e below (T1.setTop (mkF m 202 (l580_0 o1 o2 o3 o4 o5 o6 p7 p8 p9) [(.int 0)])) _
  exact retN X1 hx (t := .boolean) hret (by simp) (hb hby d9_202) hr
def l581_0 (o1 o2 : Addr) (o3 o4 : Addr) (o5 o6 : Addr) (p7 p8 : Int32) : Array Slot := #[.val (.ref o1), .val (.ref o2), .val (.ref o3), .val (.ref o4), .val (.ref o5), .val (.ref o6), .val (.int p7), .val (.int p8), .unset, .unset]
set_option maxRecDepth 65536 in
set_option maxHeartbeats 40000000 in
theorem st_9ub {p : Program} {l : Launch} {e : Env} {s : State} {m : MethodId} {below : List Frame} {meth : Method} {c : Code} {E0 T0 : State} {locs : List Loc} {Z : State} {a0 : Array Value} (hw : HW a0 Z) {o1 : Addr} {p15 : Int32} {p16 : Int32} {p17 : Int32} {o6 : Addr} {kc6 : ClassId} {p10 : Int32} {p11 : Int32} {p12 : Int32} {o2 : Addr} {o3 : Addr} {o4 : Addr} {o5 : Addr} {p7 : Int32} {p8 : Int32} {h0 : Heap} {n0 : Nat} (O0 : Old Z n0 h0)
    (hx : p.tables.exec = Jvm.exec) (hby : c.code = method_3_code) (hml : c.maxLocals = 10) (hown : s.vm.findClass cn8 = some m.cls) (hret : meth.sig.returnType = some .boolean) (hlk : meth.locks = false) (hZ : Z.Warmed39 s.vm)
    (X0 : Stand p l e ({ frames := 3, cells := 2, slots := 42, locals := 46 } : Room) s m #[(.ref o1), (.ref o2), (.ref o3), (.ref o4), (.ref o5), (.ref o6), (.int p7)] below meth c T0 locs 2 42) (e0 : T0.heap = h0) (N0 : Fr n0 locs) (pre0 : Go p e below T0 (mkF m 186 (l581_0 o1 o2 o3 o4 o5 o6 p7 p8) []) E0) (g_o1 : n0 ≤ o1) (P0 : Exa Z h0 o1 cn7) (P1 : Fld Z h0 o1 cn7 "end" "I" (.int p15)) (P2 : Fld Z h0 o1 cn7 "first" "I" (.int p16)) (P3 : Fld Z h0 o1 cn7 "removed" "I" (.int p17)) (P4 : Arv Z h0 o6 kc6 .int (3 : Int32) [(.int p10), (.int p11), (.int p12)] (.int 0)) :
    (∃ (s₂ : State) (L : List Loc), (((p15 - p16) - p17) = p11) ∧ Steps p.tables e below E0 s₂ ∧ s₂.status = .running ∧ Ended s₂ below (.returned (some (.int 1))) ∧ Fr n0 L ∧ FrameEnd s (.returned (some (.int 1))) s₂ L 2 42 ∧ s₂.heap = h0)
    ∨ (∃ (s₂ : State) (L : List Loc), (¬ (((p15 - p16) - p17) = p11)) ∧ Steps p.tables e below E0 s₂ ∧ s₂.status = .running ∧ Ended s₂ below (.returned (some (.int 0))) ∧ Fr n0 L ∧ FrameEnd s (.returned (some (.int 0))) s₂ L 2 42 ∧ s₂.heap = h0) := by
 obtain ⟨_, T1, L1, X1, hQ1, st1⟩ := yv X0 hx hZ hown hby hml (y := yn0) (own_w hw 19 rfl) (own_w hw 20 rfl) (own_w hw 22 rfl) (own_w hw 21 rfl) (own_w hw 23 rfl) (w_2 hw) e0 P0 [] [] (rm1 l Z a0 hw [] o1 p15 p16 p17 h0 n0 O0 g_o1 P1 P2 P3) 187 (l581_0 o1 o2 o3 o4 o5 o6 p7 p8) rfl d9_187 (lenOf pd3 rfl) 0 2 42
 obtain ⟨rfl, Nq2, e3⟩ := hQ1
 have N1 := Fr.app N0 Nq2
 obtain ⟨cl4, Ar4, qa4, Sa4, Na4, Ha4, Ga4⟩ := id (P4)
 have hin4 := inb_of (j := (1 : Int32)) Sa4 ⟨by decide, by decide⟩
 have hat4 : cl4.slots[((1 : Int32)).toNatClampNeg]? = some (.int p11) := Has.at Ha4 hin4 rfl
 have pre5 : Go p e below T1 (mkF m 194 (l581_0 o1 o2 o3 o4 o5 o6 p7 p8) [(.int p11), (.int ((p15 - p16) - p17))]) E0 := fun t k => by
  refine pre0 _ ?_
  refine yan X0 hx hby d9_186 rfl rfl ?_
  refine st1 _ ?_
  refine yal X1 hx hby d9_190 rfl rfl ?_
  refine yic X1 hx hby d9_192 ?_
  refine X1.iaload hx (j := (1 : Int32)) (v := (.int p11)) (by rw [e3]; exact Ar4.1) (State.isArrayOf_alike hZ.alike Ar4.2.1) Ar4.2.2 hin4 hat4 (g := (mkF m 193 (l581_0 o1 o2 o3 o4 o5 o6 p7 p8) [(.int 1), (.ref o6), (.int ((p15 - p16) - p17))])) rfl rfl (hb hby d9_193) _ ?_
  exact k
 by_cases hc6 : ((p15 - p16) - p17) = p11
 ·
  obtain ⟨fs, hr, hrun, hended, hW, hsame⟩ := X1.leave (v := some (.int 1)) (fun h => by rw [hret] at h; cases h)
  refine (Or.inl ⟨_, _, hc6, pre5 _ ?_, hrun, hended, N1, ⟨⟨_, rfl⟩, hW, hsame.mono (by decide) (by decide)⟩, e3⟩)
  show Steps p.tables e below (T1.setTop (mkF m 194 (l581_0 o1 o2 o3 o4 o5 o6 p7 p8) [(.int p11), (.int ((p15 - p16) - p17))])) _
  refine yno X1 hx hby d9_194 (teq hc6).2 ?_
  refine yic X1 hx hby d9_197 ?_
  refine ygo X1 hx hby 198 202 rfl d9_198 (by decide) ?_
  show Steps p.tables e below (T1.setTop (mkF m 202 (l581_0 o1 o2 o3 o4 o5 o6 p7 p8) [(.int 1)])) _
  exact retN X1 hx (t := .boolean) hret (by simp) (hb hby d9_202) hr
 ·
  obtain ⟨fs, hr, hrun, hended, hW, hsame⟩ := X1.leave (v := some (.int 0)) (fun h => by rw [hret] at h; cases h)
  refine (Or.inr ⟨_, _, hc6, pre5 _ ?_, hrun, hended, N1, ⟨⟨_, rfl⟩, hW, hsame.mono (by decide) (by decide)⟩, e3⟩)
  show Steps p.tables e below (T1.setTop (mkF m 194 (l581_0 o1 o2 o3 o4 o5 o6 p7 p8) [(.int p11), (.int ((p15 - p16) - p17))])) _
  refine yye X1 hx hby 194 201 rfl d9_194 (feq hc6).2 (by decide) ?_
  refine yic X1 hx hby d9_201 ?_
  show Steps p.tables e below (T1.setTop (mkF m 202 (l581_0 o1 o2 o3 o4 o5 o6 p7 p8) [(.int 0)])) _
  exact retN X1 hx (t := .boolean) hret (by simp) (hb hby d9_202) hr
set_option maxHeartbeats 4000000 in
theorem m_stb (l : Launch) (Z : State) (a0 : Array Value) (hw : HW a0 Z) {w1 : Addr} {kw1 : ClassId} (G : GW Z w1 kw1) (ws : List Jvm.Cond) (o1 o2 o3 o4 o5 o6 : Addr) (p7 : Int32) (t : Nat) (ht : t ≤ 11) (h0 : Heap) (n0 : Nat) (O0 : Old Z n0 h0) (HO : SO n0 o2 o3 o4 o5 o6) (HI : SI Z h0 n0 o1 o2 o3 o4 o5 o6 t) :
    MF l yn9 method_3_code 10 (some .boolean) ws ({ frames := 3, cells := 2, slots := 42, locals := 46 } : Room) #[(.ref o1), (.ref o2), (.ref o3), (.ref o4), (.ref o5), (.ref o6), (.int p7)] Z h0 (QST Z n0 o1 o2 o3 o4 o5 o6 (t + 1)) := by
  refine MetFree.of_bodySF (plainFor_of_name pn1) hisR ?_
  intro p e s m args below meth c s₁ Bd hml hP hK
  obtain ⟨rfl, hZ, hh⟩ := hP
  obtain ⟨hx, hby, hown, hret, hlk, X0, e0, N0⟩ := own_bd Bd hh n0
  have pre0 := own_ct s₁ (p := p) (e := e) (below := below) (ef_st m o1 o2 o3 o4 o5 o6 p7)
  revert pre0
  generalize s₁.setTop (entryFrame m #[(.ref o1), (.ref o2), (.ref o3), (.ref o4), (.ref o5), (.ref o6), (.int p7)] 10) = E0
  intro pre0
  obtain ⟨g2, g3, g4, g5, g6, n65⟩ := HO
  have finr : ∀ (T : State) (lc : List Loc) (h1 : Heap) (p8 : Int32) (o9 : Addr) (p13 : Int32), Old Z n0 h1 → Stand p l e ({ frames := 3, cells := 2, slots := 42, locals := 46 } : Room) s m #[(.ref o1), (.ref o2), (.ref o3), (.ref o4), (.ref o5), (.ref o6), (.int p7)] below meth c T lc 2 42 → T.heap = h1 → Fr n0 lc → Go p e below T (mkF m 186 #[.val (.ref o1), .val (.ref o2), .val (.ref o3), .val (.ref o4), .val (.ref o5), .val (.ref o6), .val (.int p7), .val (.int p8), .val (.ref o9), .val (.int p13)] []) E0 → SI Z h1 n0 o1 o2 o3 o4 o5 o6 (t + 1) → ∃ s₂ o, Steps p.tables e below E0 s₂ ∧ s₂.status = .running ∧ Ended s₂ below o ∧ ∃ v L, o = .returned v ∧ QST Z n0 o1 o2 o3 o4 o5 o6 (t + 1) v s₂.heap L ∧ FrameEnd s o s₂ L 2 42 := by
    intro T lc h1 p8 o9 p13 O1 X e1 N pre HI1
    obtain ⟨C', mk', m', k', u', A', B', Q', k2', k3', k4', k5', k6', v3', v4', v5', -, HL, HA, -⟩ := id HI1
    obtain ⟨sa, ka, vs, n, lo, fi, en, re, af, D, ⟨go, PE, Ps, Pl, Pf, Pe, Pr, Pa, PA, PX, dso⟩, HD, dmm, hk⟩ := HL
    have hfe : fi ≤ en := HD.2.2.2.2.2.2.1
    have hlen : (D.drop (fi - lo)).length = en - fi := by have := HD.1; rw [List.length_drop]; have := HD.2.2.2.2.2.1; omega
    have hre : re ≤ en - fi := by rw [HD.2.2.2.2.2.2.2.2.2.2.2.1, ← hlen]; exact List.countP_le_length
    rcases st_9rb hw O1 hx hby hml hown hret hlk hZ X e1 N pre go PE Pe Pf Pr HA.2.2.2.2.1 with ⟨s₂, L, hc, st, hr, he, NL, FE, eH⟩ | ⟨s₂, L, hc, st, hr, he, NL, FE, eH⟩
    · exact ⟨s₂, _, st, hr, he, _, _, rfl, ⟨rfl, NL, by rw [eH]; exact O1, by rw [eH]; exact HI1⟩, FE⟩
    · exact absurd (by rw [n_sub hfe, n_sub hre, hk]) hc
  have fini : ∀ (T : State) (lc : List Loc) (h1 : Heap) (p8 p9 : Int32), Old Z n0 h1 → Stand p l e ({ frames := 3, cells := 2, slots := 42, locals := 46 } : Room) s m #[(.ref o1), (.ref o2), (.ref o3), (.ref o4), (.ref o5), (.ref o6), (.int p7)] below meth c T lc 2 42 → T.heap = h1 → Fr n0 lc → Go p e below T (mkF m 186 #[.val (.ref o1), .val (.ref o2), .val (.ref o3), .val (.ref o4), .val (.ref o5), .val (.ref o6), .val (.int p7), .val (.int p8), .val (.int p9), .unset] []) E0 → SI Z h1 n0 o1 o2 o3 o4 o5 o6 (t + 1) → ∃ s₂ o, Steps p.tables e below E0 s₂ ∧ s₂.status = .running ∧ Ended s₂ below o ∧ ∃ v L, o = .returned v ∧ QST Z n0 o1 o2 o3 o4 o5 o6 (t + 1) v s₂.heap L ∧ FrameEnd s o s₂ L 2 42 := by
    intro T lc h1 p8 p9 O1 X e1 N pre HI1
    obtain ⟨C', mk', m', k', u', A', B', Q', k2', k3', k4', k5', k6', v3', v4', v5', -, HL, HA, -⟩ := id HI1
    obtain ⟨sa, ka, vs, n, lo, fi, en, re, af, D, ⟨go, PE, Ps, Pl, Pf, Pe, Pr, Pa, PA, PX, dso⟩, HD, dmm, hk⟩ := HL
    have hfe : fi ≤ en := HD.2.2.2.2.2.2.1
    have hlen : (D.drop (fi - lo)).length = en - fi := by have := HD.1; rw [List.length_drop]; have := HD.2.2.2.2.2.1; omega
    have hre : re ≤ en - fi := by rw [HD.2.2.2.2.2.2.2.2.2.2.2.1, ← hlen]; exact List.countP_le_length
    rcases st_9ib hw O1 hx hby hml hown hret hlk hZ X e1 N pre go PE Pe Pf Pr HA.2.2.2.2.1 with ⟨s₂, L, hc, st, hr, he, NL, FE, eH⟩ | ⟨s₂, L, hc, st, hr, he, NL, FE, eH⟩
    · exact ⟨s₂, _, st, hr, he, _, _, rfl, ⟨rfl, NL, by rw [eH]; exact O1, by rw [eH]; exact HI1⟩, FE⟩
    · exact absurd (by rw [n_sub hfe, n_sub hre, hk]) hc
  have finu : ∀ (T : State) (lc : List Loc) (h1 : Heap) (p8 : Int32), Old Z n0 h1 → Stand p l e ({ frames := 3, cells := 2, slots := 42, locals := 46 } : Room) s m #[(.ref o1), (.ref o2), (.ref o3), (.ref o4), (.ref o5), (.ref o6), (.int p7)] below meth c T lc 2 42 → T.heap = h1 → Fr n0 lc → Go p e below T (mkF m 186 #[.val (.ref o1), .val (.ref o2), .val (.ref o3), .val (.ref o4), .val (.ref o5), .val (.ref o6), .val (.int p7), .val (.int p8), .unset, .unset] []) E0 → SI Z h1 n0 o1 o2 o3 o4 o5 o6 (t + 1) → ∃ s₂ o, Steps p.tables e below E0 s₂ ∧ s₂.status = .running ∧ Ended s₂ below o ∧ ∃ v L, o = .returned v ∧ QST Z n0 o1 o2 o3 o4 o5 o6 (t + 1) v s₂.heap L ∧ FrameEnd s o s₂ L 2 42 := by
    intro T lc h1 p8 O1 X e1 N pre HI1
    obtain ⟨C', mk', m', k', u', A', B', Q', k2', k3', k4', k5', k6', v3', v4', v5', -, HL, HA, -⟩ := id HI1
    obtain ⟨sa, ka, vs, n, lo, fi, en, re, af, D, ⟨go, PE, Ps, Pl, Pf, Pe, Pr, Pa, PA, PX, dso⟩, HD, dmm, hk⟩ := HL
    have hfe : fi ≤ en := HD.2.2.2.2.2.2.1
    have hlen : (D.drop (fi - lo)).length = en - fi := by have := HD.1; rw [List.length_drop]; have := HD.2.2.2.2.2.1; omega
    have hre : re ≤ en - fi := by rw [HD.2.2.2.2.2.2.2.2.2.2.2.1, ← hlen]; exact List.countP_le_length
    rcases st_9ub hw O1 hx hby hml hown hret hlk hZ X e1 N pre go PE Pe Pf Pr HA.2.2.2.2.1 with ⟨s₂, L, hc, st, hr, he, NL, FE, eH⟩ | ⟨s₂, L, hc, st, hr, he, NL, FE, eH⟩
    · exact ⟨s₂, _, st, hr, he, _, _, rfl, ⟨rfl, NL, by rw [eH]; exact O1, by rw [eH]; exact HI1⟩, FE⟩
    · exact absurd (by rw [n_sub hfe, n_sub hre, hk]) hc
  obtain ⟨C, mk, m', k, u, A, B, Q, k2, k3, k4, k5, k6, v3, v4, v5, HC, HL, HA, HD, hm', hk', hu'⟩ := id HI
  obtain ⟨A2, A3, A4, A5, A6, E2, E3, E4, E5, E6, ov⟩ := id HA
  have PE : Exa Z h0 o1 cn7 := by obtain ⟨_, _, _, _, _, _, _, _, _, _, HS, -⟩ := id HL; exact HS.2.1
  have go : n0 ≤ o1 := by obtain ⟨_, _, _, _, _, _, _, _, _, _, HS, -⟩ := id HL; exact HS.1
  have o13 : o1 ≠ o3 := ne_exa PE E3 (by decide)
  have c3 : ∀ x ∈ C, x ≠ o3 := fun x hx => ne_exa (HC x hx).2.1 E3 (by decide)
  have hlive : ∀ {h1 : Heap} {C1 : List Addr} {mk1 : Addr → Int64}, CF Z h1 n0 C1 mk1 → Exa Z h1 o3 cn3 → Exa Z h1 o4 "[Z" → Exa Z h1 o5 "[I" → Exa Z h1 o6 "[I" → ∀ x ∈ [o3, o4, o5, o6], x ∉ C1 := fun H z3 z4 z5 z6 x hx q => by
    simp only [List.mem_cons, List.not_mem_nil, or_false] at hx
    rcases hx with rfl | rfl | rfl | rfl
    · exact ne_exa (H _ q).2.1 z3 (by decide) rfl
    · exact ne_exa (H _ q).2.1 z4 (by decide) rfl
    · exact ne_exa (H _ q).2.1 z5 (by decide) rfl
    · exact ne_exa (H _ q).2.1 z6 (by decide) rfl
  have hwr : ∀ {h1 : Heap}, Exa Z h1 o3 cn3 → Exa Z h1 o4 "[Z" → Exa Z h1 o5 "[I" → Exa Z h1 o6 "[I" → ∀ x ∈ [o3, o4, o5, o6], n0 ≤ x ∧ (x = o3 ∨ Exa Z h1 x "[Z" ∨ Exa Z h1 x "[I") := fun z3 z4 z5 z6 x hx => by
    simp only [List.mem_cons, List.not_mem_nil, or_false] at hx
    rcases hx with rfl | rfl | rfl | rfl
    · exact ⟨g3, Or.inl rfl⟩
    · exact ⟨g4, Or.inr (Or.inl z4)⟩
    · exact ⟨g5, Or.inr (Or.inr z5)⟩
    · exact ⟨g6, Or.inr (Or.inr z6)⟩
  have n24 : o2 ≠ o4 := ne_exa E2 E4 (by decide)
  have n26 : o2 ≠ o6 := ne_exa E2 E6 (by decide)
  have n23 : o2 ≠ o3 := ne_exa E2 E3 (by decide)
  have n25 : o2 ≠ o5 := ne_exa E2 E5 (by decide)
  have n34 : o3 ≠ o4 := ne_exa E3 E4 (by decide)
  have n36 : o3 ≠ o6 := ne_exa E3 E6 (by decide)
  have n46 : o4 ≠ o6 := ne_exa E4 E6 (by decide)
  have n54 : o5 ≠ o4 := ne_exa E5 E4 (by decide)
  rcases st_0b hw O0 hx hby hml hown hret hlk hZ X0 e0 N0 pre0 with ⟨T1, lc1, -, -, X1, N1, e1, pre1⟩ | ⟨T1, lc1, -, -, X1, N1, e1, pre1⟩ | ⟨T1, lc1, -, X1, N1, e1, pre1⟩
  · obtain ⟨T2, lc2, X2, N2, e2, pre2⟩ := st_7b hw O0 hx hby hml hown hret hlk hZ X1 e1 N1 pre1
    obtain ⟨_, T3, L3, X3, hQ, st3⟩ := own_vb X2 hx hZ hown (y := yn8) (own_w hw 90 rfl) (own_w hw 91 rfl) (own_w hw 93 rfl) (own_w hw 92 rfl) (own_w hw 94 rfl) (w_2 hw) e2 PE (argsL := [(.long 1)]) (rest := []) (m_ra l Z a0 hw G [] o1 o3 C mk 1 h0 n0 O0 (by decide) g3 HC HL) (g := (mkF m 168 #[.val (.ref o1), .val (.ref o2), .val (.ref o3), .val (.ref o4), .val (.ref o5), .val (.ref o6), .val (.int p7), .val (.int 7), .unset, .unset] [(.long 1), (.ref o1)])) rfl (by rw [hml]; rfl) rfl (hb hby d9_168) (lenOf pd2 rfl) (W := 0) (c1 := 0) (s1 := 0)
    obtain ⟨rfl, NL, K, HC3, HL3⟩ := hQ
    have O3 := O0.keep K (fun x hx => by rcases List.mem_cons.mp hx with rfl | z; exact go; exact (HC x z).1)
    have HA3 := sa_keep HA K (fun x hx => by rcases List.mem_cons.mp hx with rfl | z; exact ⟨o13, Or.inl PE⟩; exact ⟨c3 x z, Or.inr (Or.inl (HC x z).2.1)⟩)
    obtain ⟨B2, B3, B4, B5, B6, F2, F3, F4, F5, F6, -⟩ := id HA3
    obtain ⟨T4, lc4, X4, N4, K4, A64, E64, pre4⟩ := st_8b hw O3 hx hby hml hown hret hlk hZ X3 rfl (Fr.app N2 NL) (fun t k => pre2 _ (st3 _ k)) g6 F6 B6
    rw [show N32 u + (1 : Int32) = N32 (u + 1) from n_add u 1] at A64
    refine finu T4 lc4 T4.heap _ (O3.keep K4 (allS g6 all0)) (X4.more (by decide) (by decide)) rfl N4 pre4 ⟨C, fun c => if mk c = MX then 1 else mk c, m', 0, u + 1, A, B, Q, k2, k3, k4, k5, k6, v3, v4, v5, ?_, ?_, ?_, sd_ra HD _, by omega, by omega, by omega⟩
    · exact cf_keep HC3 K4 (fun x hx => by rw [List.mem_singleton.mp hx]; exact hlive HC3 F3 F4 F5 F6 o6 (by simp))
    · exact li_keep HL3 K4 F3 (fun x hx => by rw [List.mem_singleton.mp hx]; exact hwr F3 F4 F5 F6 o6 (by simp))
    · exact ⟨B2.keep K4 (ninS n26 nin0), B3.keep K4 (ninS n36 nin0), B4.keep K4 (ninS n46 nin0), B5.keep K4 (ninS (Ne.symm n65) nin0), A64, F2.keep K4, F3.keep K4, F4.keep K4, F5.keep K4, E64, ov⟩
  · rcases st_4b hw O0 hx hby hml hown hret hlk hZ X1 e1 N1 pre1 A6 with ⟨T2, lc2, hp, X2, N2, e2, pre2⟩ | ⟨T2, lc2, hp, X2, N2, e2, pre2⟩
    · have hm0 : 0 < m' := (n_lt (a := 0) (by omega) (by omega)).mp hp
      obtain ⟨i, hi, ei⟩ := n_idx p7 hm0 (by omega)
      rw [ei] at pre2
      obtain ⟨a1, a2, a3, a4, a5, a6⟩ := HD.1 i hi
      rcases st_5b hw O0 hx hby hml hown hret hlk hZ X2 e2 N2 pre2 (n_nn (by omega)) ((n_lt (b := 12) (by omega) (by omega)).mpr (by omega)) A3 A4 A5 A6 (by rw [n_nat (by omega)]; exact a1) (by rw [n_nat (by omega)]; exact a3) (by rw [n_nat (by omega)]; exact a4) with ⟨T3, lc3, hb0, X3, N3, e3, pre3⟩ | ⟨T3, lc3, hb0, hq, X3, N3, e3, pre3⟩ | ⟨T3, lc3, hb0, hq, X3, N3, e3, pre3⟩
      · exact fini T3 lc3 h0 _ _ O0 (X3.more (by decide) (by decide)) e3 N3 pre3 (si_mono HI)
      · have hqu : Q i = u := (n_eq (by omega) (by omega)).mp hq
        have hmx := a6 hb0 hqu
        have k1 := li_pos HL a2 hmx
        obtain ⟨_, T4, L4, X4, hQ, st4⟩ := own_vb X3 hx hZ hown (y := yn7) (own_w hw 100 rfl) (own_w hw 101 rfl) (own_w hw 103 rfl) (own_w hw 102 rfl) (own_w hw 104 rfl) (w_2 hw) e3 PE (argsL := [(.ref (A i)), (.long 1)]) (rest := []) (m_rmb l Z a0 hw [] o1 (A i) o3 C mk 1 k h0 n0 O0 (by decide) HC a2 hmx E3.lt HL (by omega)) (g := (mkF m 145 #[.val (.ref o1), .val (.ref o2), .val (.ref o3), .val (.ref o4), .val (.ref o5), .val (.ref o6), .val (.int p7), .val (.int (p7 &&& (7 : Int32))), .val (.int (N32 i)), .unset] [(.long 1), (.ref (A i)), (.ref o1)])) rfl (by rw [hml]; rfl) rfl (hb hby d9_145) (lenOf pd6 rfl) (W := 0) (c1 := 1) (s1 := 33)
        obtain ⟨rfl, NL, K, HC4, HL4⟩ := hQ
        have O4 := O0.keep K (allS (HC _ a2).1 (allS go all0))
        have HA4 := sa_keep HA K (fun x hx => by rcases List.mem_cons.mp hx with rfl | z; exact ⟨c3 _ a2, Or.inr (Or.inl (HC _ a2).2.1)⟩; cases List.mem_singleton.mp z; exact ⟨o13, Or.inl PE⟩)
        obtain ⟨B2, B3, B4, B5, B6, F2, F3, F4, F5, F6, -⟩ := id HA4
        obtain ⟨T5, lc5, X5, N5, K5, A45, E45, A65, E65, pre5⟩ := st_6b hw O4 hx hby hml hown hret hlk hZ X4 rfl (Fr.app N3 NL) (fun t k => pre3 _ (st4 _ k)) g4 g6 (n_nn (by omega)) ((n_lt (b := 12) (by omega) (by omega)).mpr (by omega)) F4 F6 B4 B6 (n_nat (by omega)) (by rw [HD.2.2.2.1]; omega)
        rw [show N32 k - (1 : Int32) = N32 (k - 1) from n_sub (b := 1) k1] at A65
        refine fini T5 lc5 T5.heap _ _ (O4.keep K5 (allS g4 (allS g6 all0))) (X5.more (by decide) (by decide)) rfl N5 pre5 ⟨C, _, m', k - 1, u, A, _, Q, k2, k3, k4, k5, k6, v3, _, v5, ?_, ?_, ?_, sd_rm HD hi (by omega) 1, by omega, by omega, by omega⟩
        · exact cf_keep HC4 K5 (fun x hx => hlive HC4 F3 F4 F5 F6 x (by simp only [List.mem_cons, List.not_mem_nil, or_false] at hx ⊢; rcases hx with z | z <;> simp [z]))
        · exact li_keep HL4 K5 F3 (fun x hx => hwr F3 F4 F5 F6 x (by simp only [List.mem_cons, List.not_mem_nil, or_false] at hx ⊢; rcases hx with z | z <;> simp [z]))
        · exact ⟨B2.keep K5 (ninS n24 (ninS n26 nin0)), B3.keep K5 (ninS n34 (ninS n36 nin0)), A45, B5.keep K5 (ninS n54 (ninS (Ne.symm n65) nin0)), A65, F2.keep K5, F3.keep K5, E45, F5.keep K5, E65, ov⟩
      · exact fini T3 lc3 h0 _ _ O0 (X3.more (by decide) (by decide)) e3 N3 pre3 (si_mono HI)
    · exact finu T2 lc2 h0 _ O0 (X2.more (by decide) (by decide)) e2 N2 pre2 (si_mono HI)
  · have adds : ∀ (T : State) (lc : List Loc) (h3 : Heap) (p8 : Int32) (b : Addr), Old Z n0 h3 → Stand p l e ({ frames := 3, cells := 2, slots := 42, locals := 46 } : Room) s m #[(.ref o1), (.ref o2), (.ref o3), (.ref o4), (.ref o5), (.ref o6), (.int p7)] below meth c T lc 2 42 → T.heap = h3 → Fr n0 lc → Go p e below T (mkF m 48 #[.val (.ref o1), .val (.ref o2), .val (.ref o3), .val (.ref o4), .val (.ref o5), .val (.ref o6), .val (.int p7), .val (.int p8), .val (.ref b), .unset] []) E0 → b ∉ C → CF Z h3 n0 (b :: C) (up mk b MX) → LInv Z h3 n0 o1 o3 (b :: C) (up mk b MX) (k + 1) → SA Z h3 o2 o3 o4 o5 o6 k2 k3 k4 k5 k6 v3 v4 v5 m' k u → ∃ s₂ o, Steps p.tables e below E0 s₂ ∧ s₂.status = .running ∧ Ended s₂ below o ∧ ∃ v L, o = .returned v ∧ QST Z n0 o1 o2 o3 o4 o5 o6 (t + 1) v s₂.heap L ∧ FrameEnd s o s₂ L 2 42 := by
      intro T lc h3 p8 b O3 X e3 N pre hbC HC3 HL3 HA3
      obtain ⟨B2, B3, B4, B5, B6, F2, F3, F4, F5, F6, -⟩ := id HA3
      obtain ⟨T4, lc4, X4, N4, K4, A34, E34, A44, E44, A54, E54, A64, E64, pre4⟩ := st_3b hw O3 hx hby hml hown hret hlk hZ X e3 N pre g3 g4 g5 g6 n65 ov (n_nn (by omega)) ((n_lt (b := 12) (by omega) (by omega)).mpr (by omega)) F3 F4 F5 F6 B3 B4 B5 B6 (HC3 b (List.mem_cons_self ..)).2.1 (n_nat (by omega)) (by rw [HD.2.2.1]; omega) (by rw [HD.2.2.2.1]; omega) (by rw [HD.2.2.2.2]; omega)
      rw [show N32 m' + (1 : Int32) = N32 (m' + 1) from n_add m' 1, show N32 k + (1 : Int32) = N32 (k + 1) from n_add k 1] at A64
      refine finr T4 lc4 T4.heap _ _ _ (O3.keep K4 (allS g3 (allS g4 (allS g5 (allS g6 all0))))) X4 rfl N4 pre4 ⟨b :: C, _, m' + 1, k + 1, u, _, _, _, k2, k3, k4, k5, k6, _, _, _, cf_keep HC3 K4 (hlive HC3 F3 F4 F5 F6), li_keep HL3 K4 F3 (hwr F3 F4 F5 F6), ?_, sd_add HD (by omega) hbC, by omega, by omega, by omega⟩
      exact ⟨B2.keep K4 (ninS n23 (ninS n24 (ninS n25 (ninS n26 nin0)))), A34, A44, A54, A64, F2.keep K4, E34, E44, E54, E64, ov⟩
    have prep : ∀ (h2 : Heap) (b : Addr), Keep h0 h2 [] → h0.size ≤ b → Exa Z h2 b cn6 → Fld Z h2 b cn6 "removed" "J" (.long 9223372036854775807) → b ∉ C ∧ CF Z h2 n0 (b :: C) (up mk b MX) ∧ LInv Z h2 n0 o1 o3 C (up mk b MX) k ∧ SA Z h2 o2 o3 o4 o5 o6 k2 k3 k4 k5 k6 v3 v4 v5 m' k u := by
      intro h2 b K hsz Eb Fb
      have hbC : b ∉ C := fun q => absurd (HC b q).2.1.lt (Nat.not_lt_of_le hsz)
      refine ⟨hbC, fun x hx => ?_, li_cg (li_keep HL K E3 (fun x hx => absurd hx List.not_mem_nil)) (fun c hc => up_n mk MX (fun q => hbC (q ▸ hc))), sa_keep HA K (fun x hx => absurd hx List.not_mem_nil)⟩
      rcases List.mem_cons.mp hx with rfl | z
      · rw [up_s]; exact ⟨Nat.le_trans (own_oz O0) hsz, Eb, Fb⟩
      · have ne : x ≠ b := fun q => hbC (q ▸ z)
        rw [up_n mk MX ne]; obtain ⟨a1, a2, a3⟩ := HC x z; exact ⟨a1, a2.keep K, a3.keep K nin0⟩
    have post : ∀ (h2 h3 : Heap) (b : Addr), Keep h0 h2 [] → Old Z n0 h2 → CF Z h2 n0 (b :: C) (up mk b MX) → SA Z h2 o2 o3 o4 o5 o6 k2 k3 k4 k5 k6 v3 v4 v5 m' k u → KW Z h2 h3 n0 o1 o3 → Old Z n0 h3 ∧ CF Z h3 n0 (b :: C) (up mk b MX) ∧ SA Z h3 o2 o3 o4 o5 o6 k2 k3 k4 k5 k6 v3 v4 v5 m' k u := by
      intro h2 h3 b K O2 HC2 HA2 HK
      obtain ⟨ws, KK, hws⟩ := HK
      have PE2 := PE.keep K
      refine ⟨O2.keep KK (fun x hx => (hws x hx).1), cf_keep HC2 KK (fun x hx q => ?_), sa_keep HA2 KK (fun x hx => ?_)⟩
      · rcases (hws x hx).2 with rfl | ⟨z, -⟩
        · exact ne_exa PE2 (HC2 _ q).2.1 (by decide) rfl
        · exact ne_exa z (HC2 _ q).2.1 (by decide) rfl
      · rcases (hws x hx).2 with rfl | ⟨z, y⟩
        · exact ⟨o13, Or.inl PE2⟩
        · exact ⟨y, Or.inr (Or.inr z)⟩
    rcases st_1b hw O0 hx hby hml hown hret hlk hZ X1 e1 N1 pre1 g2 A2 with ⟨T2, lc2, b, -, X2, N2, K2, hsz, Eb, Fb, pre2⟩ | ⟨T2, lc2, b, -, X2, N2, K2, hsz, Eb, Fb, pre2⟩
    · obtain ⟨hbC, HC2, HL2, HA2⟩ := prep T2.heap b K2 hsz Eb Fb
      have O2 := O0.keep K2 all0
      obtain ⟨_, T3, L3, X3, hQ, st3⟩ := own_vb X2 hx hZ hown (y := yn6) (own_w hw 80 rfl) (own_w hw 81 rfl) (own_w hw 83 rfl) (own_w hw 82 rfl) (own_w hw 84 rfl) (w_2 hw) rfl (PE.keep K2) (argsL := [(.ref b)]) (rest := []) (m_afb l Z a0 hw [] o1 b o3 C (up mk b MX) k T2.heap n0 O2 HC2 hbC (up_s ..) (E3.keep K2).lt HL2 (by omega)) (g := (mkF m 45 #[.val (.ref o1), .val (.ref o2), .val (.ref o3), .val (.ref o4), .val (.ref o5), .val (.ref o6), .val (.int p7), .val (.int (p7 &&& (7 : Int32))), .val (.ref b), .unset] [(.ref b), (.ref o1)])) rfl (by rw [hml]; rfl) rfl (hb hby d9_45) (lenOf pd7 rfl) (W := 0) (c1 := 2) (s1 := 42)
      obtain ⟨rfl, NL, KK, HL3⟩ := hQ
      obtain ⟨O3, HC3, HA3⟩ := post T2.heap T3.heap b K2 O2 HC2 HA2 KK
      exact adds T3 _ T3.heap _ b O3 X3 rfl (Fr.app N2 NL) (fun t k => pre2 _ (st3 _ k)) hbC HC3 HL3 HA3
    · obtain ⟨hbC, HC2, HL2, HA2⟩ := prep T2.heap b K2 hsz Eb Fb
      have O2 := O0.keep K2 all0
      obtain ⟨_, T3, L3, X3, hQ, st3⟩ := own_vb X2 hx hZ hown (y := yn5) (own_w hw 60 rfl) (own_w hw 61 rfl) (own_w hw 63 rfl) (own_w hw 62 rfl) (own_w hw 64 rfl) (w_2 hw) rfl (PE.keep K2) (argsL := [(.ref b)]) (rest := []) (m_alb l Z a0 hw [] o1 b o3 C (up mk b MX) k T2.heap n0 O2 HC2 hbC (up_s ..) (E3.keep K2).lt HL2 (by omega)) (g := (mkF m 36 #[.val (.ref o1), .val (.ref o2), .val (.ref o3), .val (.ref o4), .val (.ref o5), .val (.ref o6), .val (.int p7), .val (.int (p7 &&& (7 : Int32))), .val (.ref b), .unset] [(.ref b), (.ref o1)])) rfl (by rw [hml]; rfl) rfl (hb hby d9_36) (lenOf pd7 rfl) (W := 0) (c1 := 2) (s1 := 42)
      obtain ⟨rfl, NL, KK, HL3⟩ := hQ
      obtain ⟨O3, HC3, HA3⟩ := post T2.heap T3.heap b K2 O2 HC2 HA2 KK
      obtain ⟨T4, lc4, X4, N4, e4, pre4⟩ := st_2b hw O3 hx hby hml hown hret hlk hZ X3 rfl (Fr.app N2 NL) (fun t k => pre2 _ (st3 _ k))
      exact adds T4 _ T3.heap _ b O3 X4 e4 N4 pre4 hbC HC3 HL3 HA3
theorem d11_0 : decode kd11 0 = .ok (.aload_n 0, 1) := by decide +kernel
theorem d11_1 : decode kd11 1 = .ok (.invokespecial 1, 3) := by decide +kernel
theorem d11_4 : decode kd11 4 = .ok (.aload_n 0, 1) := by decide +kernel
theorem d11_5 : decode kd11 5 = .ok (.getstatic 7, 3) := by decide +kernel
theorem d11_8 : decode kd11 8 = .ok (.putfield 13, 3) := by decide +kernel
theorem d11_11 : decode kd11 11 = .ok (.return_, 1) := by decide +kernel
theorem ef7 (m : MethodId) (x0 : Addr) : entryFrame m #[(.ref x0)] 1 = mkF m 0 #[.val (.ref x0)] [] := by first | (simp [entryFrame, mkF, argsToLocals, Value.category]; done) | rfl
def Q7 (Z : State) (w1 : Addr) (kw1 : ClassId) (o1 : Addr) (h0 : Heap) (n0 : Nat) (v : Option Value) (h : Heap) (L : List Loc) : Prop :=
  (v = none ∧ Fr n0 L ∧ Keep h0 h [o1] ∧ (Exa Z h o1 cn7) ∧ (Fld Z h o1 cn7 "addsFirst" "Z" (.int 0)) ∧ (Fld Z h o1 cn7 "end" "I" (.int 0)) ∧ (Fld Z h o1 cn7 "first" "I" (.int 0)) ∧ (Fld Z h o1 cn7 "low" "I" (.int 0)) ∧ (Fld Z h o1 cn7 "removed" "I" (.int 0)) ∧ (Fld Z h o1 cn7 "slots" cn3 (.ref w1)))
set_option maxRecDepth 65536 in
set_option maxHeartbeats 40000000 in
theorem rm7 (l : Launch) (Z : State) (a0 : Array Value) (hw : HW a0 Z) (w1 : Addr) (kw1 : ClassId) (G : GW Z w1 kw1) (ws : List Jvm.Cond) (o1 : Addr) (h0 : Heap) (n0 : Nat) (O0 : Old Z n0 h0) (g_o1 : n0 ≤ o1) (P0 : Exa Z h0 o1 cn7) (P1 : Fld Z h0 o1 cn7 "addsFirst" "Z" (.int 0)) (P2 : Fld Z h0 o1 cn7 "end" "I" (.int 0)) (P3 : Fld Z h0 o1 cn7 "first" "I" (.int 0)) (P4 : Fld Z h0 o1 cn7 "low" "I" (.int 0)) (P5 : Fld Z h0 o1 cn7 "removed" "I" (.int 0)) (P6 : Fld Z h0 o1 cn7 "slots" cn3 .null) :
    MF l yn11 prog_41_method_1_code 1 none ws ({ frames := 1, cells := 0, slots := 0, locals := 12 } : Room) #[(.ref o1)] Z h0 (Q7 Z w1 kw1 o1 h0 n0) := by
 obtain ⟨S_w1, A_w1⟩ := id G
 refine MetFree.of_bodySF (plainFor_of_name pn0) hisR ?_
 intro p e s m args below meth c s₁ Bd hml hP hK
 obtain ⟨rfl, hZ, hh⟩ := hP
 obtain ⟨hx, hby, hown, hret, hlk, X0, e0, N0⟩ := own_bd Bd hh n0
 have pre0 := own_ct s₁ (p := p) (e := e) (below := below) (ef7 m o1)
 obtain ⟨T1, X1, e1, st1⟩ := initO X0 hx hZ hown (own_w hw 6 rfl) (own_w hw 7 rfl) (own_w hw 8 rfl) e0 (g := (mkF m 1 #[.val (.ref o1)] [(.ref o1)])) rfl (by rw [hml]; rfl) rfl (hb hby d11_1) (by decide) (W := 0) (by show 2 * 0 + _ ≤ _; exact Nat.le_of_eq rfl) (by decide)
 obtain ⟨T2, X2, e2, st2⟩ := getS2 X1 hx hZ hown (host := "") (Or.inl (own_w hw 9 rfl)) Via.refl e1 (S_w1.ext O0.2) (g := (mkF m 5 #[.val (.ref o1)] [(.ref o1)])) rfl (hb hby d11_5)
 obtain ⟨T3, h3, X3, e3, W3, st3⟩ := yp X2 hx hZ hown hby (own_w hw 11 rfl) e2 P6 P0 (own_w hw 12 rfl) (w_1 hw) (ty := (.array (.object cn6))) (v := (.ref w1)) (by decide) rfl rfl 8 #[.val (.ref o1)] [] d11_8
 have N3 := Fr.snoc X3 N0 g_o1
 have Fw3 := P6.same W3
 obtain ⟨fs, hr, hrun, hended, hW, hsame⟩ := X3.leave (v := none) (fun _ => rfl)
 have KL : Keep h0 h3 [o1] := ((Keep.refl h0 [o1]).wr W3 (Or.inl (List.mem_of_getElem? (i := 0) rfl)))
 have f4 := (P0.wr W3)
 have f5 := (P1.other W3 (Or.inr (sn10 hw)))
 have f6 := (P2.other W3 (Or.inr (sn3 hw)))
 have f7 := (P3.other W3 (Or.inr (sn1 hw)))
 have f8 := (P4.other W3 (Or.inr (sn0 hw)))
 have f9 := (P5.other W3 (Or.inr (sn6 hw)))
 refine ⟨_, _, pre0 _ ?_, hrun, hended, _, _, rfl, ?_, ⟨_, rfl⟩, hW, hsame.mono (by decide) (by decide)⟩
 ·
  refine yan X0 hx hby d11_0 rfl rfl ?_
  refine st1 _ ?_
  refine yan X1 hx hby d11_4 rfl rfl ?_
  refine st2 _ ?_
  refine st3 _ ?_
  show Steps p.tables e below (T3.setTop (mkF m 11 #[.val (.ref o1)] [])) _
  exact X3.returnOut hx hret (hb hby d11_11) hr
 ·
  show Q7 Z w1 kw1 o1 h0 n0 _ T3.heap _
  rw [e3]
  exact ⟨rfl, N3, KL, f4, f5, f6, f7, f8, f9, Fw3⟩
theorem ef8 (m : MethodId) (x0 : Addr) : entryFrame m #[(.ref x0)] 1 = mkF m 0 #[.val (.ref x0)] [] := by first | (simp [entryFrame, mkF, argsToLocals, Value.category]; done) | rfl
def Q8 (Z : State) (o1 : Addr) (p3 p4 p6 : Int32) (h0 : Heap) (n0 : Nat) (v : Option Value) (h : Heap) (L : List Loc) : Prop :=
  (v = some (.int ((p3 - p4) - p6)) ∧ Fr n0 L ∧ h = h0)
set_option maxRecDepth 65536 in
set_option maxHeartbeats 40000000 in
theorem rm8 (l : Launch) (Z : State) (a0 : Array Value) (hw : HW a0 Z) (ws : List Jvm.Cond) (o1 : Addr) (p3 p4 p6 : Int32) (h0 : Heap) (n0 : Nat) (O0 : Old Z n0 h0) (g_o1 : n0 ≤ o1) (P2 : Fld Z h0 o1 cn7 "end" "I" (.int p3)) (P3 : Fld Z h0 o1 cn7 "first" "I" (.int p4)) (P5 : Fld Z h0 o1 cn7 "removed" "I" (.int p6)) :
    MF l yn0 prog_41_method_5_code 1 (some .int) ws ({ frames := 0, cells := 0, slots := 0, locals := 0 } : Room) #[(.ref o1)] Z h0 (Q8 Z o1 p3 p4 p6 h0 n0) := by
 refine MetFree.of_bodySF (plainFor_of_name pn0) hisR ?_
 intro p e s m args below meth c s₁ Bd hml hP hK
 obtain ⟨rfl, hZ, hh⟩ := hP
 obtain ⟨hx, hby, hown, hret, hlk, X0, e0, N0⟩ := own_bd Bd hh n0
 have pre0 := own_ct s₁ (p := p) (e := e) (below := below) (ef8 m o1)
 obtain ⟨T1, X1, e1, st1⟩ := yag X0 hx hZ hown hby (w_24 hw) e0 P2 0 #[.val (.ref o1)] [] d0_0 d0_1 rfl
 obtain ⟨T2, X2, e2, st2⟩ := yag X1 hx hZ hown hby (w_26 hw) e1 P3 4 #[.val (.ref o1)] [(.int p3)] d0_4 d0_5 rfl
 obtain ⟨T3, X3, e3, st3⟩ := yag X2 hx hZ hown hby (own_w hw 28 rfl) e2 P5 9 #[.val (.ref o1)] [(.int (p3 - p4))] d0_9 d0_10 rfl
 obtain ⟨fs, hr, hrun, hended, hW, hsame⟩ := X3.leave (v := some (.int ((p3 - p4) - p6))) (fun h => by rw [hret] at h; cases h)
 refine ⟨_, _, pre0 _ ?_, hrun, hended, _, _, rfl, ?_, ⟨_, rfl⟩, hW, hsame.mono (by decide) (by decide)⟩
 ·
  refine st1 _ ?_
  refine st2 _ ?_
  refine ysu X2 hx hby d0_8 ?_
  refine st3 _ ?_
  refine ysu X3 hx hby d0_13 ?_
  show Steps p.tables e below (T3.setTop (mkF m 14 #[.val (.ref o1)] [(.int ((p3 - p4) - p6))])) _
  exact retI X3 hx hret (hb hby d0_14) hr
 ·
  show Q8 Z o1 p3 p4 p6 h0 n0 _ T3.heap _
  rw [e3]
  exact ⟨rfl, N0, rfl⟩
set_option maxRecDepth 65536 in
set_option maxHeartbeats 40000000 in
theorem lw_0 {p : Program} {l : Launch} {e : Env} {s : State} {m : MethodId} {below : List Frame} {meth : Method} {c : Code} {E0 T0 : State} {locs : List Loc} {Z : State} {a0 : Array Value} (hw : HW a0 Z) {w1 : Addr} {kw1 : ClassId} (G : GW Z w1 kw1) {p1 : Int32} {p2 : Int32} {p3 : Int32} {p4 : Int32} {p5 : Int32} {p6 : Int32} {h0 : Heap} {n0 : Nat} (O0 : Old Z n0 h0)
    (hx : p.tables.exec = Jvm.exec) (hby : c.code = code) (hml : c.maxLocals = 13) (hown : s.vm.findClass cn8 = some m.cls) (hret : meth.sig.returnType = some .boolean) (hlk : meth.locks = false) (hZ : Z.Warmed39 s.vm)
    (X0 : Stand p l e ({ frames := 7, cells := 56, slots := 512, locals := 176 } : Room) s m #[(.int p1), (.int p2), (.int p3), (.int p4), (.int p5), (.int p6)] below meth c T0 locs 0 0) (e0 : T0.heap = h0) (N0 : Fr n0 locs) (pre0 : Go p e below T0 (mkF m 0 #[.val (.int p1), .val (.int p2), .val (.int p3), .val (.int p4), .val (.int p5), .val (.int p6), .unset, .unset, .unset, .unset, .unset, .unset, .unset] []) E0) :
    (∃ (T' : State) (lc : List Loc) (b1 b12 : Addr) (b13 b14 : Addr) (b15 b16 : Addr) (k12 k13 : ClassId) (k14 k15 k16 : ClassId), Stand p l e ({ frames := 7, cells := 56, slots := 512, locals := 176 } : Room) s m #[(.int p1), (.int p2), (.int p3), (.int p4), (.int p5), (.int p6)] below meth c T' lc 6 45 ∧ Fr n0 lc ∧ Keep h0 T'.heap [] ∧ h0.size ≤ b1 ∧ h0.size ≤ b12 ∧ h0.size ≤ b13 ∧ h0.size ≤ b14 ∧ h0.size ≤ b15 ∧ h0.size ≤ b16 ∧ b1 ≠ b12 ∧ b1 ≠ b13 ∧ b1 ≠ b14 ∧ b1 ≠ b15 ∧ b1 ≠ b16 ∧ b12 ≠ b13 ∧ b12 ≠ b14 ∧ b12 ≠ b15 ∧ b12 ≠ b16 ∧ b13 ≠ b14 ∧ b13 ≠ b15 ∧ b13 ≠ b16 ∧ b14 ≠ b15 ∧ b14 ≠ b16 ∧ b15 ≠ b16 ∧ Ovr Z k12 cn10 ∧ Ovr Z k13 cn6 ∧ (Exa Z T'.heap b1 cn7) ∧ (Fld Z T'.heap b1 cn7 "addsFirst" "Z" (.int 0)) ∧ (Fld Z T'.heap b1 cn7 "end" "I" (.int 0)) ∧ (Fld Z T'.heap b1 cn7 "first" "I" (.int 0)) ∧ (Fld Z T'.heap b1 cn7 "low" "I" (.int 0)) ∧ (Fld Z T'.heap b1 cn7 "removed" "I" (.int 0)) ∧ (Fld Z T'.heap b1 cn7 "slots" cn3 (.ref w1)) ∧ (Arv Z T'.heap b12 k12 (.object cn10) (0 : Int32) [] .null) ∧ (Exa Z T'.heap b12 cn5) ∧ (Arv Z T'.heap b13 k13 (.object cn6) (12 : Int32) [.null, .null, .null, .null, .null, .null, .null, .null, .null, .null, .null, .null] .null) ∧ (Exa Z T'.heap b13 cn3) ∧ (Arv Z T'.heap b14 k14 .boolean (12 : Int32) [(.int 0), (.int 0), (.int 0), (.int 0), (.int 0), (.int 0), (.int 0), (.int 0), (.int 0), (.int 0), (.int 0), (.int 0)] (.int 0)) ∧ (Exa Z T'.heap b14 "[Z") ∧ (Arv Z T'.heap b15 k15 .int (12 : Int32) [(.int 0), (.int 0), (.int 0), (.int 0), (.int 0), (.int 0), (.int 0), (.int 0), (.int 0), (.int 0), (.int 0), (.int 0)] (.int 0)) ∧ (Exa Z T'.heap b15 "[I") ∧ (Arv Z T'.heap b16 k16 .int (3 : Int32) [(.int 0), (.int 0), (.int 0)] (.int 0)) ∧ (Exa Z T'.heap b16 "[I") ∧ Go p e below T' (mkF m 72 #[.val (.int p1), .val (.int p2), .val (.int p3), .val (.int p4), .val (.int p5), .val (.int p6), .val (.ref b1), .val (.ref b12), .val (.ref b13), .val (.ref b14), .val (.ref b15), .val (.ref b16), .val (.int 1)] [(.int (p1 &&& (65535 : Int32))), (.ref b16), (.ref b15), (.ref b14), (.ref b13), (.ref b12), (.ref b1), (.int 1)]) E0) := by
 obtain ⟨S_w1, A_w1⟩ := id G
 obtain ⟨T1, h1, X1, e1, E1, A1, D1, -, st1⟩ := newO X0 hx hZ hown (own_w hw 0 rfl) (w_1 hw) (w_2 hw) e0 (g := (mkF m 0 #[.val (.int p1), .val (.int p2), .val (.int p3), .val (.int p4), .val (.int p5), .val (.int p6), .unset, .unset, .unset, .unset, .unset, .unset, .unset] [])) rfl (hb hby at_0) (by decide) (by decide)
 obtain ⟨b1, g1⟩ : ∃ z, z = h0.size := ⟨_, rfl⟩
 rw [← g1] at A1 D1 st1
 have M1 : h0.size ≤ h1.size := Nat.le_trans (Nat.le_refl _) E1.1
 have O1 := Old.ext O0 E1
 have sz_b1 : h0.size ≤ b1 := Nat.le_of_eq g1.symm
 have g_b1 : n0 ≤ b1 := Nat.le_trans (own_oz O0) (Nat.le_trans (Nat.le_refl _) sz_b1)
 have F1_12 : Fld Z h1 b1 cn7 "slots" cn3 .null := D1 (Or.inl (own_w hw 12 rfl)) (ty := (.array (.object cn6))) (by decide)
 have F1_25 : Fld Z h1 b1 cn7 "end" "I" (.int 0) := D1 (Or.inl (own_w hw 25 rfl)) (ty := .int) (by decide)
 have F1_27 : Fld Z h1 b1 cn7 "first" "I" (.int 0) := D1 (Or.inl (own_w hw 27 rfl)) (ty := .int) (by decide)
 have F1_29 : Fld Z h1 b1 cn7 "removed" "I" (.int 0) := D1 (Or.inl (own_w hw 29 rfl)) (ty := .int) (by decide)
 have F1_75 : Fld Z h1 b1 cn7 "addsFirst" "Z" (.int 0) := D1 (Or.inl (own_w hw 75 rfl)) (ty := .boolean) (by decide)
 have F1_78 : Fld Z h1 b1 cn7 "low" "I" (.int 0) := D1 (Or.inl (own_w hw 78 rfl)) (ty := .int) (by decide)
 obtain ⟨_, T2, L2, X2, hQ2, st2⟩ := own_sb X1 hx hZ hown (y := yn11) (own_w hw 3 rfl) (own_w hw 4 rfl) (own_w hw 5 rfl) (w_2 hw) e1 (a := b1) (argsL := []) (rest := [(.ref b1)]) (rm7 l Z a0 hw w1 kw1 G [] b1 h1 n0 O1 g_b1 A1 F1_75 F1_25 F1_27 F1_78 F1_29 F1_12) (g := (mkF m 4 #[.val (.int p1), .val (.int p2), .val (.int p3), .val (.int p4), .val (.int p5), .val (.int p6), .unset, .unset, .unset, .unset, .unset, .unset, .unset] [(.ref b1), (.ref b1)])) rfl (by rw [hml]; rfl) rfl (hb hby at_4) (lenOf pd0 rfl) (W := 1) (c1 := 1) (s1 := 6)
 obtain ⟨rfl, Nq3, K4, f5, f6, f7, f8, f9, f10, f11⟩ := hQ2
 have N2 := Fr.app N0 Nq3
 have M2 : h0.size ≤ T2.heap.size := Nat.le_trans M1 K4.1
 have O2 := Old.keep O1 K4 (allS g_b1 all0)
 obtain ⟨T12, h12, k12, X12, e12, E12, A12, EX12, OV12, st12⟩ := newRE X2 hx hZ hown (own_w hw 13 rfl) (own_w hw 14 rfl) rfl (g := (mkF m 10 #[.val (.int p1), .val (.int p2), .val (.int p3), .val (.int p4), .val (.int p5), .val (.int p6), .val (.ref b1), .unset, .unset, .unset, .unset, .unset, .unset] [(.int 0)])) rfl (hb hby at_10) rfl (by decide) (cap := 0) (by decide) (by decide) (by decide) (by decide) (ad := cn5) (by decide)
 obtain ⟨b12, g12⟩ : ∃ z, z = T2.heap.size := ⟨_, rfl⟩
 rw [← g12] at A12 EX12 st12
 have M12 : h0.size ≤ h12.size := Nat.le_trans M2 E12.1
 have O12 := Old.ext O2 E12
 have sz_b12 : T2.heap.size ≤ b12 := Nat.le_of_eq g12.symm
 have V12_0 := Arv.new A12 (by decide)
 have V12 : Arv Z h12 b12 k12 (.object cn10) (0 : Int32) [] .null := V12_0
 obtain ⟨T13, h13, k13, X13, e13, E13, A13, EX13, OV13, st13⟩ := newRE X12 hx hZ hown (own_w hw 15 rfl) (own_w hw 16 rfl) e12 (g := (mkF m 17 #[.val (.int p1), .val (.int p2), .val (.int p3), .val (.int p4), .val (.int p5), .val (.int p6), .val (.ref b1), .val (.ref b12), .unset, .unset, .unset, .unset, .unset] [(.int 12)])) rfl (hb hby at_17) rfl (by decide) (cap := 12) (by decide) (by decide) (by decide) (by decide) (ad := cn3) (by decide)
 obtain ⟨b13, g13⟩ : ∃ z, z = h12.size := ⟨_, rfl⟩
 rw [← g13] at A13 EX13 st13
 have M13 : h0.size ≤ h13.size := Nat.le_trans M12 E13.1
 have O13 := Old.ext O12 E13
 have sz_b13 : h12.size ≤ b13 := Nat.le_of_eq g13.symm
 have V13_0 := Arv.new A13 (by decide)
 have V13 : Arv Z h13 b13 k13 (.object cn6) (12 : Int32) [.null, .null, .null, .null, .null, .null, .null, .null, .null, .null, .null, .null] .null := V13_0.pad (pad_rep [] .null 12)
 obtain ⟨T14, h14, k14, X14, e14, E14, A14, EX14, st14⟩ := newPE X13 hx hZ (own_w hw 17 rfl) e13 (g := (mkF m 24 #[.val (.int p1), .val (.int p2), .val (.int p3), .val (.int p4), .val (.int p5), .val (.int p6), .val (.ref b1), .val (.ref b12), .val (.ref b13), .unset, .unset, .unset, .unset] [(.int 12)])) rfl (hb hby at_24) rfl (by decide) (cap := 12) (by decide) (by decide) (by decide) (by decide) (ad := "[Z") (by decide)
 obtain ⟨b14, g14⟩ : ∃ z, z = h13.size := ⟨_, rfl⟩
 rw [← g14] at A14 EX14 st14
 have M14 : h0.size ≤ h14.size := Nat.le_trans M13 E14.1
 have O14 := Old.ext O13 E14
 have sz_b14 : h13.size ≤ b14 := Nat.le_of_eq g14.symm
 have V14_0 := Arv.new A14 (by decide)
 have V14 : Arv Z h14 b14 k14 .boolean (12 : Int32) [(.int 0), (.int 0), (.int 0), (.int 0), (.int 0), (.int 0), (.int 0), (.int 0), (.int 0), (.int 0), (.int 0), (.int 0)] (.int 0) := V14_0.pad (pad_rep [] (.int 0) 12)
 obtain ⟨T15, h15, k15, X15, e15, E15, A15, EX15, st15⟩ := newPE X14 hx hZ (own_w hw 18 rfl) e14 (g := (mkF m 30 #[.val (.int p1), .val (.int p2), .val (.int p3), .val (.int p4), .val (.int p5), .val (.int p6), .val (.ref b1), .val (.ref b12), .val (.ref b13), .val (.ref b14), .unset, .unset, .unset] [(.int 12)])) rfl (hb hby at_30) rfl (by decide) (cap := 12) (by decide) (by decide) (by decide) (by decide) (ad := "[I") (by decide)
 obtain ⟨b15, g15⟩ : ∃ z, z = h14.size := ⟨_, rfl⟩
 rw [← g15] at A15 EX15 st15
 have M15 : h0.size ≤ h15.size := Nat.le_trans M14 E15.1
 have O15 := Old.ext O14 E15
 have sz_b15 : h14.size ≤ b15 := Nat.le_of_eq g15.symm
 have V15_0 := Arv.new A15 (by decide)
 have V15 : Arv Z h15 b15 k15 .int (12 : Int32) [(.int 0), (.int 0), (.int 0), (.int 0), (.int 0), (.int 0), (.int 0), (.int 0), (.int 0), (.int 0), (.int 0), (.int 0)] (.int 0) := V15_0.pad (pad_rep [] (.int 0) 12)
 obtain ⟨T16, h16, k16, X16, e16, E16, A16, EX16, st16⟩ := newPE X15 hx hZ (own_w hw 18 rfl) e15 (g := (mkF m 35 #[.val (.int p1), .val (.int p2), .val (.int p3), .val (.int p4), .val (.int p5), .val (.int p6), .val (.ref b1), .val (.ref b12), .val (.ref b13), .val (.ref b14), .val (.ref b15), .unset, .unset] [(.int 3)])) rfl (hb hby at_35) rfl (by decide) (cap := 3) (by decide) (by decide) (by decide) (by decide) (ad := "[I") (by decide)
 obtain ⟨b16, g16⟩ : ∃ z, z = h15.size := ⟨_, rfl⟩
 rw [← g16] at A16 EX16 st16
 have O16 := Old.ext O15 E16
 have sz_b16 : h15.size ≤ b16 := Nat.le_of_eq g16.symm
 have V16_0 := Arv.new A16 (by decide)
 have V16 : Arv Z h16 b16 k16 .int (3 : Int32) [(.int 0), (.int 0), (.int 0)] (.int 0) := V16_0.pad (pad_rep [] (.int 0) 3)
 have f17 := (((((f7.ext E12).ext E13).ext E14).ext E15).ext E16)
 have f18 := (((((f8.ext E12).ext E13).ext E14).ext E15).ext E16)
 have f19 := (((((f10.ext E12).ext E13).ext E14).ext E15).ext E16)
 have f20 := (((((f5.ext E12).ext E13).ext E14).ext E15).ext E16)
 obtain ⟨_, T21, L21, X21, hQ21, st21⟩ := yv X16 hx hZ hown hby hml (y := yn0) (own_w hw 19 rfl) (own_w hw 20 rfl) (own_w hw 22 rfl) (own_w hw 21 rfl) (own_w hw 23 rfl) (w_2 hw) e16 f20 [] [] (rm8 l Z a0 hw [] b1 ((0 : Int32)) ((0 : Int32)) ((0 : Int32)) h16 n0 O16 g_b1 f17 f18 f19) 41 #[.val (.int p1), .val (.int p2), .val (.int p3), .val (.int p4), .val (.int p5), .val (.int p6), .val (.ref b1), .val (.ref b12), .val (.ref b13), .val (.ref b14), .val (.ref b15), .val (.ref b16), .unset] rfl at_41 (lenOf pd3 rfl) 0 6 45
 obtain ⟨rfl, Nq22, e23⟩ := hQ21
 have N21 := Fr.app N2 Nq22
 have pre24 : Go p e below T21 (mkF m 72 #[.val (.int p1), .val (.int p2), .val (.int p3), .val (.int p4), .val (.int p5), .val (.int p6), .val (.ref b1), .val (.ref b12), .val (.ref b13), .val (.ref b14), .val (.ref b15), .val (.ref b16), .val (.int 1)] [(.int (p1 &&& (65535 : Int32))), (.ref b16), (.ref b15), (.ref b14), (.ref b13), (.ref b12), (.ref b1), (.int 1)]) E0 := fun t k => by
  refine pre0 _ ?_
  refine st1 _ ?_
  refine XS.dup X1.here hx rfl (hb hby at_3) rfl rfl ?_
  refine st2 _ ?_
  refine XS.astore X2.here hx rfl (hb hby at_7) rfl rfl (l' := #[.val (.int p1), .val (.int p2), .val (.int p3), .val (.int p4), .val (.int p5), .val (.int p6), .val (.ref b1), .unset, .unset, .unset, .unset, .unset, .unset]) rfl ?_
  refine yic X2 hx hby at_9 ?_
  refine st12 _ ?_
  refine XS.astore X12.here hx rfl (hb hby at_13) rfl rfl (l' := #[.val (.int p1), .val (.int p2), .val (.int p3), .val (.int p4), .val (.int p5), .val (.int p6), .val (.ref b1), .val (.ref b12), .unset, .unset, .unset, .unset, .unset]) rfl ?_
  refine XS.bipush X12.here hx rfl (hb hby at_15) ?_
  refine st13 _ ?_
  refine XS.astore X13.here hx rfl (hb hby at_20) rfl rfl (l' := #[.val (.int p1), .val (.int p2), .val (.int p3), .val (.int p4), .val (.int p5), .val (.int p6), .val (.ref b1), .val (.ref b12), .val (.ref b13), .unset, .unset, .unset, .unset]) rfl ?_
  refine XS.bipush X13.here hx rfl (hb hby at_22) ?_
  refine st14 _ ?_
  refine XS.astore X14.here hx rfl (hb hby at_26) rfl rfl (l' := #[.val (.int p1), .val (.int p2), .val (.int p3), .val (.int p4), .val (.int p5), .val (.int p6), .val (.ref b1), .val (.ref b12), .val (.ref b13), .val (.ref b14), .unset, .unset, .unset]) rfl ?_
  refine XS.bipush X14.here hx rfl (hb hby at_28) ?_
  refine st15 _ ?_
  refine XS.astore X15.here hx rfl (hb hby at_32) rfl rfl (l' := #[.val (.int p1), .val (.int p2), .val (.int p3), .val (.int p4), .val (.int p5), .val (.int p6), .val (.ref b1), .val (.ref b12), .val (.ref b13), .val (.ref b14), .val (.ref b15), .unset, .unset]) rfl ?_
  refine yic X15 hx hby at_34 ?_
  refine st16 _ ?_
  refine XS.astore X16.here hx rfl (hb hby at_37) rfl rfl (l' := #[.val (.int p1), .val (.int p2), .val (.int p3), .val (.int p4), .val (.int p5), .val (.int p6), .val (.ref b1), .val (.ref b12), .val (.ref b13), .val (.ref b14), .val (.ref b15), .val (.ref b16), .unset]) rfl ?_
  refine yal X16 hx hby at_39 rfl rfl ?_
  refine st21 _ ?_
  refine yfn X21 hx hby at_44 ((if0 _ _).trans (teq (own_geq (n := 0) (k := (0 : Int32)) (by decide) (by have q0 := own_sub (x := ((0 : Int32) - (0 : Int32))) (k := (0 : Int32)) (n := 0) (lo := 0) (hi := 0) (by decide) (by have q0 := own_sub (x := (0 : Int32)) (k := (0 : Int32)) (n := 0) (lo := 0) (hi := 0) (by decide) (by have q0 := (by decide : ((0 : Int32)).toInt = 0); omega) (by decide) (by decide); omega) (by decide) (by decide); omega))).2) ?_
  refine yic X21 hx hby at_47 ?_
  refine ygo X21 hx hby 48 52 rfl at_48 (by decide) ?_
  refine yis X21 hx hby at_52 (l' := #[.val (.int p1), .val (.int p2), .val (.int p3), .val (.int p4), .val (.int p5), .val (.int p6), .val (.ref b1), .val (.ref b12), .val (.ref b13), .val (.ref b14), .val (.ref b15), .val (.ref b16), .val (.int 1)]) rfl ?_
  refine yil X21 hx hby at_54 rfl ?_
  refine yal X21 hx hby at_56 rfl rfl ?_
  refine yal X21 hx hby at_58 rfl rfl ?_
  refine yal X21 hx hby at_60 rfl rfl ?_
  refine yal X21 hx hby at_62 rfl rfl ?_
  refine yal X21 hx hby at_64 rfl rfl ?_
  refine yal X21 hx hby at_66 rfl rfl ?_
  refine yin X21 hx hby at_68 rfl ?_
  refine X21.ldcInt hx hown (mvT hZ (own_w hw 30 rfl)) (g := (mkF m 69 #[.val (.int p1), .val (.int p2), .val (.int p3), .val (.int p4), .val (.int p5), .val (.int p6), .val (.ref b1), .val (.ref b12), .val (.ref b13), .val (.ref b14), .val (.ref b15), .val (.ref b16), .val (.int 1)] [(.int p1), (.ref b16), (.ref b15), (.ref b14), (.ref b13), (.ref b12), (.ref b1), (.int 1)])) rfl (hb hby at_69) _ ?_
  refine XS.iand X21.here hx rfl (hb hby at_71) rfl ?_
  exact k
 have KL : Keep h0 h16 [] := ((((((((Keep.refl h0 []).ext E1).trans K4 (allS (Or.inr (Nat.le_trans (Nat.le_refl _) sz_b1)) all0)).ext E12).ext E13).ext E14).ext E15).ext E16)
 have f25 := (((((f6.ext E12).ext E13).ext E14).ext E15).ext E16)
 have f26 := (((((f9.ext E12).ext E13).ext E14).ext E15).ext E16)
 have f27 := (((((f11.ext E12).ext E13).ext E14).ext E15).ext E16)
 have f28 := ((((V12.ext E13).ext E14).ext E15).ext E16)
 have f29 := ((((EX12.ext E13).ext E14).ext E15).ext E16)
 have f30 := (((V13.ext E14).ext E15).ext E16)
 have f31 := (((EX13.ext E14).ext E15).ext E16)
 have f32 := ((V14.ext E15).ext E16)
 have f33 := ((EX14.ext E15).ext E16)
 have f34 := (V15.ext E16)
 have f35 := (EX15.ext E16)
 have lt36 : b1 < T2.heap.size := (Nat.lt_of_lt_of_le A1.lt K4.1)
 have ne37 : b1 ≠ b12 := Nat.ne_of_lt (Nat.lt_of_lt_of_le lt36 sz_b12)
 have lt38 : b1 < h12.size := (Nat.lt_of_lt_of_le (Nat.lt_of_lt_of_le A1.lt K4.1) E12.1)
 have ne39 : b1 ≠ b13 := Nat.ne_of_lt (Nat.lt_of_lt_of_le lt38 sz_b13)
 have lt40 : b1 < h13.size := (Nat.lt_of_lt_of_le (Nat.lt_of_lt_of_le (Nat.lt_of_lt_of_le A1.lt K4.1) E12.1) E13.1)
 have ne41 : b1 ≠ b14 := Nat.ne_of_lt (Nat.lt_of_lt_of_le lt40 sz_b14)
 have lt42 : b1 < h14.size := (Nat.lt_of_lt_of_le (Nat.lt_of_lt_of_le (Nat.lt_of_lt_of_le (Nat.lt_of_lt_of_le A1.lt K4.1) E12.1) E13.1) E14.1)
 have ne43 : b1 ≠ b15 := Nat.ne_of_lt (Nat.lt_of_lt_of_le lt42 sz_b15)
 have lt44 : b1 < h15.size := (Nat.lt_of_lt_of_le (Nat.lt_of_lt_of_le (Nat.lt_of_lt_of_le (Nat.lt_of_lt_of_le (Nat.lt_of_lt_of_le A1.lt K4.1) E12.1) E13.1) E14.1) E15.1)
 have ne45 : b1 ≠ b16 := Nat.ne_of_lt (Nat.lt_of_lt_of_le lt44 sz_b16)
 have lt46 : b12 < h12.size := V12.lt
 have ne47 : b12 ≠ b13 := Nat.ne_of_lt (Nat.lt_of_lt_of_le lt46 sz_b13)
 have lt48 : b12 < h13.size := (Nat.lt_of_lt_of_le V12.lt E13.1)
 have ne49 : b12 ≠ b14 := Nat.ne_of_lt (Nat.lt_of_lt_of_le lt48 sz_b14)
 have lt50 : b12 < h14.size := (Nat.lt_of_lt_of_le (Nat.lt_of_lt_of_le V12.lt E13.1) E14.1)
 have ne51 : b12 ≠ b15 := Nat.ne_of_lt (Nat.lt_of_lt_of_le lt50 sz_b15)
 have lt52 : b12 < h15.size := (Nat.lt_of_lt_of_le (Nat.lt_of_lt_of_le (Nat.lt_of_lt_of_le V12.lt E13.1) E14.1) E15.1)
 have ne53 : b12 ≠ b16 := Nat.ne_of_lt (Nat.lt_of_lt_of_le lt52 sz_b16)
 have lt54 : b13 < h13.size := V13.lt
 have ne55 : b13 ≠ b14 := Nat.ne_of_lt (Nat.lt_of_lt_of_le lt54 sz_b14)
 have lt56 : b13 < h14.size := (Nat.lt_of_lt_of_le V13.lt E14.1)
 have ne57 : b13 ≠ b15 := Nat.ne_of_lt (Nat.lt_of_lt_of_le lt56 sz_b15)
 have lt58 : b13 < h15.size := (Nat.lt_of_lt_of_le (Nat.lt_of_lt_of_le V13.lt E14.1) E15.1)
 have ne59 : b13 ≠ b16 := Nat.ne_of_lt (Nat.lt_of_lt_of_le lt58 sz_b16)
 have lt60 : b14 < h14.size := V14.lt
 have ne61 : b14 ≠ b15 := Nat.ne_of_lt (Nat.lt_of_lt_of_le lt60 sz_b15)
 have lt62 : b14 < h15.size := (Nat.lt_of_lt_of_le V14.lt E15.1)
 have ne63 : b14 ≠ b16 := Nat.ne_of_lt (Nat.lt_of_lt_of_le lt62 sz_b16)
 have lt64 : b15 < h15.size := V15.lt
 have ne65 : b15 ≠ b16 := Nat.ne_of_lt (Nat.lt_of_lt_of_le lt64 sz_b16)
 exact ⟨_, _, b1, b12, b13, b14, b15, b16, k12, k13, k14, k15, k16, X21, N21, (by rw [e23]; exact KL), (Nat.le_trans (Nat.le_refl _) sz_b1), (Nat.le_trans M2 sz_b12), (Nat.le_trans M12 sz_b13), (Nat.le_trans M13 sz_b14), (Nat.le_trans M14 sz_b15), (Nat.le_trans M15 sz_b16), ne37, ne39, ne41, ne43, ne45, ne47, ne49, ne51, ne53, ne55, ne57, ne59, ne61, ne63, ne65, OV12, OV13, (by rw [e23]; exact f20), (by rw [e23]; exact f25), (by rw [e23]; exact f17), (by rw [e23]; exact f18), (by rw [e23]; exact f26), (by rw [e23]; exact f19), (by rw [e23]; exact f27), (by rw [e23]; exact f28), (by rw [e23]; exact f29), (by rw [e23]; exact f30), (by rw [e23]; exact f31), (by rw [e23]; exact f32), (by rw [e23]; exact f33), (by rw [e23]; exact f34), (by rw [e23]; exact f35), (by rw [e23]; exact V16), (by rw [e23]; exact EX16), pre24⟩
set_option maxRecDepth 65536 in
set_option maxHeartbeats 40000000 in
theorem lw_1 {p : Program} {l : Launch} {e : Env} {s : State} {m : MethodId} {below : List Frame} {meth : Method} {c : Code} {E0 T0 : State} {locs : List Loc} {Z : State} {a0 : Array Value} (hw : HW a0 Z) {p1 : Int32} {p2 : Int32} {p3 : Int32} {p4 : Int32} {p5 : Int32} {p6 : Int32} {o1 : Addr} {o2 : Addr} {o3 : Addr} {o4 : Addr} {o5 : Addr} {o6 : Addr} {h0 : Heap} {n0 : Nat} (O0 : Old Z n0 h0)
    (hx : p.tables.exec = Jvm.exec) (hby : c.code = code) (hml : c.maxLocals = 13) (hown : s.vm.findClass cn8 = some m.cls) (hret : meth.sig.returnType = some .boolean) (hlk : meth.locks = false) (hZ : Z.Warmed39 s.vm)
    (X0 : Stand p l e ({ frames := 7, cells := 56, slots := 512, locals := 176 } : Room) s m #[(.int p1), (.int p2), (.int p3), (.int p4), (.int p5), (.int p6)] below meth c T0 locs 8 69) (e0 : T0.heap = h0) (N0 : Fr n0 locs) (pre0 : Go p e below T0 (mkF m 75 #[.val (.int p1), .val (.int p2), .val (.int p3), .val (.int p4), .val (.int p5), .val (.int p6), .val (.ref o1), .val (.ref o2), .val (.ref o3), .val (.ref o4), .val (.ref o5), .val (.ref o6), .val (.int 1)] [(.int 1), (.int 1)]) E0) :
    (∃ (T' : State) (lc : List Loc), Stand p l e ({ frames := 7, cells := 56, slots := 512, locals := 176 } : Room) s m #[(.int p1), (.int p2), (.int p3), (.int p4), (.int p5), (.int p6)] below meth c T' lc 8 69 ∧ Fr n0 lc ∧ T'.heap = h0 ∧ Go p e below T' (mkF m 96 #[.val (.int p1), .val (.int p2), .val (.int p3), .val (.int p4), .val (.int p5), .val (.int p6), .val (.ref o1), .val (.ref o2), .val (.ref o3), .val (.ref o4), .val (.ref o5), .val (.ref o6), .val (.int 1)] [(.int ((p1.toUInt32 >>> ((16 : Int32) &&& 31).toUInt32).toInt32)), (.ref o6), (.ref o5), (.ref o4), (.ref o3), (.ref o2), (.ref o1), (.int 1)]) E0) := by
 have pre1 : Go p e below T0 (mkF m 96 #[.val (.int p1), .val (.int p2), .val (.int p3), .val (.int p4), .val (.int p5), .val (.int p6), .val (.ref o1), .val (.ref o2), .val (.ref o3), .val (.ref o4), .val (.ref o5), .val (.ref o6), .val (.int 1)] [(.int ((p1.toUInt32 >>> ((16 : Int32) &&& 31).toUInt32).toInt32)), (.ref o6), (.ref o5), (.ref o4), (.ref o3), (.ref o2), (.ref o1), (.int 1)]) E0 := fun t k => by
  refine pre0 _ ?_
  refine XS.iand X0.here hx rfl (hb hby at_75) rfl ?_
  refine yis X0 hx hby at_76 (l' := #[.val (.int p1), .val (.int p2), .val (.int p3), .val (.int p4), .val (.int p5), .val (.int p6), .val (.ref o1), .val (.ref o2), .val (.ref o3), .val (.ref o4), .val (.ref o5), .val (.ref o6), .val (.int 1)]) rfl ?_
  refine yil X0 hx hby at_78 rfl ?_
  refine yal X0 hx hby at_80 rfl rfl ?_
  refine yal X0 hx hby at_82 rfl rfl ?_
  refine yal X0 hx hby at_84 rfl rfl ?_
  refine yal X0 hx hby at_86 rfl rfl ?_
  refine yal X0 hx hby at_88 rfl rfl ?_
  refine yal X0 hx hby at_90 rfl rfl ?_
  refine yin X0 hx hby at_92 rfl ?_
  refine XS.bipush X0.here hx rfl (hb hby at_93) ?_
  refine XS.iushr X0.here hx rfl (hb hby at_95) rfl ?_
  exact k
 exact ⟨_, _, X0, N0, e0, pre1⟩
set_option maxRecDepth 65536 in
set_option maxHeartbeats 40000000 in
theorem lw_2 {p : Program} {l : Launch} {e : Env} {s : State} {m : MethodId} {below : List Frame} {meth : Method} {c : Code} {E0 T0 : State} {locs : List Loc} {Z : State} {a0 : Array Value} (hw : HW a0 Z) {p1 : Int32} {p2 : Int32} {p3 : Int32} {p4 : Int32} {p5 : Int32} {p6 : Int32} {o1 : Addr} {o2 : Addr} {o3 : Addr} {o4 : Addr} {o5 : Addr} {o6 : Addr} {h0 : Heap} {n0 : Nat} (O0 : Old Z n0 h0)
    (hx : p.tables.exec = Jvm.exec) (hby : c.code = code) (hml : c.maxLocals = 13) (hown : s.vm.findClass cn8 = some m.cls) (hret : meth.sig.returnType = some .boolean) (hlk : meth.locks = false) (hZ : Z.Warmed39 s.vm)
    (X0 : Stand p l e ({ frames := 7, cells := 56, slots := 512, locals := 176 } : Room) s m #[(.int p1), (.int p2), (.int p3), (.int p4), (.int p5), (.int p6)] below meth c T0 locs 10 93) (e0 : T0.heap = h0) (N0 : Fr n0 locs) (pre0 : Go p e below T0 (mkF m 99 #[.val (.int p1), .val (.int p2), .val (.int p3), .val (.int p4), .val (.int p5), .val (.int p6), .val (.ref o1), .val (.ref o2), .val (.ref o3), .val (.ref o4), .val (.ref o5), .val (.ref o6), .val (.int 1)] [(.int 1), (.int 1)]) E0) :
    (∃ (T' : State) (lc : List Loc), Stand p l e ({ frames := 7, cells := 56, slots := 512, locals := 176 } : Room) s m #[(.int p1), (.int p2), (.int p3), (.int p4), (.int p5), (.int p6)] below meth c T' lc 10 93 ∧ Fr n0 lc ∧ T'.heap = h0 ∧ Go p e below T' (mkF m 120 #[.val (.int p1), .val (.int p2), .val (.int p3), .val (.int p4), .val (.int p5), .val (.int p6), .val (.ref o1), .val (.ref o2), .val (.ref o3), .val (.ref o4), .val (.ref o5), .val (.ref o6), .val (.int 1)] [(.int (p2 &&& (65535 : Int32))), (.ref o6), (.ref o5), (.ref o4), (.ref o3), (.ref o2), (.ref o1), (.int 1)]) E0) := by
 have pre1 : Go p e below T0 (mkF m 120 #[.val (.int p1), .val (.int p2), .val (.int p3), .val (.int p4), .val (.int p5), .val (.int p6), .val (.ref o1), .val (.ref o2), .val (.ref o3), .val (.ref o4), .val (.ref o5), .val (.ref o6), .val (.int 1)] [(.int (p2 &&& (65535 : Int32))), (.ref o6), (.ref o5), (.ref o4), (.ref o3), (.ref o2), (.ref o1), (.int 1)]) E0 := fun t k => by
  refine pre0 _ ?_
  refine XS.iand X0.here hx rfl (hb hby at_99) rfl ?_
  refine yis X0 hx hby at_100 (l' := #[.val (.int p1), .val (.int p2), .val (.int p3), .val (.int p4), .val (.int p5), .val (.int p6), .val (.ref o1), .val (.ref o2), .val (.ref o3), .val (.ref o4), .val (.ref o5), .val (.ref o6), .val (.int 1)]) rfl ?_
  refine yil X0 hx hby at_102 rfl ?_
  refine yal X0 hx hby at_104 rfl rfl ?_
  refine yal X0 hx hby at_106 rfl rfl ?_
  refine yal X0 hx hby at_108 rfl rfl ?_
  refine yal X0 hx hby at_110 rfl rfl ?_
  refine yal X0 hx hby at_112 rfl rfl ?_
  refine yal X0 hx hby at_114 rfl rfl ?_
  refine yin X0 hx hby at_116 rfl ?_
  refine X0.ldcInt hx hown (mvT hZ (own_w hw 30 rfl)) (g := (mkF m 117 #[.val (.int p1), .val (.int p2), .val (.int p3), .val (.int p4), .val (.int p5), .val (.int p6), .val (.ref o1), .val (.ref o2), .val (.ref o3), .val (.ref o4), .val (.ref o5), .val (.ref o6), .val (.int 1)] [(.int p2), (.ref o6), (.ref o5), (.ref o4), (.ref o3), (.ref o2), (.ref o1), (.int 1)])) rfl (hb hby at_117) _ ?_
  refine XS.iand X0.here hx rfl (hb hby at_119) rfl ?_
  exact k
 exact ⟨_, _, X0, N0, e0, pre1⟩
set_option maxRecDepth 65536 in
set_option maxHeartbeats 40000000 in
theorem lw_3 {p : Program} {l : Launch} {e : Env} {s : State} {m : MethodId} {below : List Frame} {meth : Method} {c : Code} {E0 T0 : State} {locs : List Loc} {Z : State} {a0 : Array Value} (hw : HW a0 Z) {p1 : Int32} {p2 : Int32} {p3 : Int32} {p4 : Int32} {p5 : Int32} {p6 : Int32} {o1 : Addr} {o2 : Addr} {o3 : Addr} {o4 : Addr} {o5 : Addr} {o6 : Addr} {h0 : Heap} {n0 : Nat} (O0 : Old Z n0 h0)
    (hx : p.tables.exec = Jvm.exec) (hby : c.code = code) (hml : c.maxLocals = 13) (hown : s.vm.findClass cn8 = some m.cls) (hret : meth.sig.returnType = some .boolean) (hlk : meth.locks = false) (hZ : Z.Warmed39 s.vm)
    (X0 : Stand p l e ({ frames := 7, cells := 56, slots := 512, locals := 176 } : Room) s m #[(.int p1), (.int p2), (.int p3), (.int p4), (.int p5), (.int p6)] below meth c T0 locs 12 117) (e0 : T0.heap = h0) (N0 : Fr n0 locs) (pre0 : Go p e below T0 (mkF m 123 #[.val (.int p1), .val (.int p2), .val (.int p3), .val (.int p4), .val (.int p5), .val (.int p6), .val (.ref o1), .val (.ref o2), .val (.ref o3), .val (.ref o4), .val (.ref o5), .val (.ref o6), .val (.int 1)] [(.int 1), (.int 1)]) E0) :
    (∃ (T' : State) (lc : List Loc), Stand p l e ({ frames := 7, cells := 56, slots := 512, locals := 176 } : Room) s m #[(.int p1), (.int p2), (.int p3), (.int p4), (.int p5), (.int p6)] below meth c T' lc 12 117 ∧ Fr n0 lc ∧ T'.heap = h0 ∧ Go p e below T' (mkF m 144 #[.val (.int p1), .val (.int p2), .val (.int p3), .val (.int p4), .val (.int p5), .val (.int p6), .val (.ref o1), .val (.ref o2), .val (.ref o3), .val (.ref o4), .val (.ref o5), .val (.ref o6), .val (.int 1)] [(.int ((p2.toUInt32 >>> ((16 : Int32) &&& 31).toUInt32).toInt32)), (.ref o6), (.ref o5), (.ref o4), (.ref o3), (.ref o2), (.ref o1), (.int 1)]) E0) := by
 have pre1 : Go p e below T0 (mkF m 144 #[.val (.int p1), .val (.int p2), .val (.int p3), .val (.int p4), .val (.int p5), .val (.int p6), .val (.ref o1), .val (.ref o2), .val (.ref o3), .val (.ref o4), .val (.ref o5), .val (.ref o6), .val (.int 1)] [(.int ((p2.toUInt32 >>> ((16 : Int32) &&& 31).toUInt32).toInt32)), (.ref o6), (.ref o5), (.ref o4), (.ref o3), (.ref o2), (.ref o1), (.int 1)]) E0 := fun t k => by
  refine pre0 _ ?_
  refine XS.iand X0.here hx rfl (hb hby at_123) rfl ?_
  refine yis X0 hx hby at_124 (l' := #[.val (.int p1), .val (.int p2), .val (.int p3), .val (.int p4), .val (.int p5), .val (.int p6), .val (.ref o1), .val (.ref o2), .val (.ref o3), .val (.ref o4), .val (.ref o5), .val (.ref o6), .val (.int 1)]) rfl ?_
  refine yil X0 hx hby at_126 rfl ?_
  refine yal X0 hx hby at_128 rfl rfl ?_
  refine yal X0 hx hby at_130 rfl rfl ?_
  refine yal X0 hx hby at_132 rfl rfl ?_
  refine yal X0 hx hby at_134 rfl rfl ?_
  refine yal X0 hx hby at_136 rfl rfl ?_
  refine yal X0 hx hby at_138 rfl rfl ?_
  refine yin X0 hx hby at_140 rfl ?_
  refine XS.bipush X0.here hx rfl (hb hby at_141) ?_
  refine XS.iushr X0.here hx rfl (hb hby at_143) rfl ?_
  exact k
 exact ⟨_, _, X0, N0, e0, pre1⟩
set_option maxRecDepth 65536 in
set_option maxHeartbeats 40000000 in
theorem lw_4 {p : Program} {l : Launch} {e : Env} {s : State} {m : MethodId} {below : List Frame} {meth : Method} {c : Code} {E0 T0 : State} {locs : List Loc} {Z : State} {a0 : Array Value} (hw : HW a0 Z) {p1 : Int32} {p2 : Int32} {p3 : Int32} {p4 : Int32} {p5 : Int32} {p6 : Int32} {o1 : Addr} {o2 : Addr} {o3 : Addr} {o4 : Addr} {o5 : Addr} {o6 : Addr} {h0 : Heap} {n0 : Nat} (O0 : Old Z n0 h0)
    (hx : p.tables.exec = Jvm.exec) (hby : c.code = code) (hml : c.maxLocals = 13) (hown : s.vm.findClass cn8 = some m.cls) (hret : meth.sig.returnType = some .boolean) (hlk : meth.locks = false) (hZ : Z.Warmed39 s.vm)
    (X0 : Stand p l e ({ frames := 7, cells := 56, slots := 512, locals := 176 } : Room) s m #[(.int p1), (.int p2), (.int p3), (.int p4), (.int p5), (.int p6)] below meth c T0 locs 14 141) (e0 : T0.heap = h0) (N0 : Fr n0 locs) (pre0 : Go p e below T0 (mkF m 147 #[.val (.int p1), .val (.int p2), .val (.int p3), .val (.int p4), .val (.int p5), .val (.int p6), .val (.ref o1), .val (.ref o2), .val (.ref o3), .val (.ref o4), .val (.ref o5), .val (.ref o6), .val (.int 1)] [(.int 1), (.int 1)]) E0) :
    (∃ (T' : State) (lc : List Loc), Stand p l e ({ frames := 7, cells := 56, slots := 512, locals := 176 } : Room) s m #[(.int p1), (.int p2), (.int p3), (.int p4), (.int p5), (.int p6)] below meth c T' lc 14 141 ∧ Fr n0 lc ∧ T'.heap = h0 ∧ Go p e below T' (mkF m 168 #[.val (.int p1), .val (.int p2), .val (.int p3), .val (.int p4), .val (.int p5), .val (.int p6), .val (.ref o1), .val (.ref o2), .val (.ref o3), .val (.ref o4), .val (.ref o5), .val (.ref o6), .val (.int 1)] [(.int (p3 &&& (65535 : Int32))), (.ref o6), (.ref o5), (.ref o4), (.ref o3), (.ref o2), (.ref o1), (.int 1)]) E0) := by
 have pre1 : Go p e below T0 (mkF m 168 #[.val (.int p1), .val (.int p2), .val (.int p3), .val (.int p4), .val (.int p5), .val (.int p6), .val (.ref o1), .val (.ref o2), .val (.ref o3), .val (.ref o4), .val (.ref o5), .val (.ref o6), .val (.int 1)] [(.int (p3 &&& (65535 : Int32))), (.ref o6), (.ref o5), (.ref o4), (.ref o3), (.ref o2), (.ref o1), (.int 1)]) E0 := fun t k => by
  refine pre0 _ ?_
  refine XS.iand X0.here hx rfl (hb hby at_147) rfl ?_
  refine yis X0 hx hby at_148 (l' := #[.val (.int p1), .val (.int p2), .val (.int p3), .val (.int p4), .val (.int p5), .val (.int p6), .val (.ref o1), .val (.ref o2), .val (.ref o3), .val (.ref o4), .val (.ref o5), .val (.ref o6), .val (.int 1)]) rfl ?_
  refine yil X0 hx hby at_150 rfl ?_
  refine yal X0 hx hby at_152 rfl rfl ?_
  refine yal X0 hx hby at_154 rfl rfl ?_
  refine yal X0 hx hby at_156 rfl rfl ?_
  refine yal X0 hx hby at_158 rfl rfl ?_
  refine yal X0 hx hby at_160 rfl rfl ?_
  refine yal X0 hx hby at_162 rfl rfl ?_
  refine yin X0 hx hby at_164 rfl ?_
  refine X0.ldcInt hx hown (mvT hZ (own_w hw 30 rfl)) (g := (mkF m 165 #[.val (.int p1), .val (.int p2), .val (.int p3), .val (.int p4), .val (.int p5), .val (.int p6), .val (.ref o1), .val (.ref o2), .val (.ref o3), .val (.ref o4), .val (.ref o5), .val (.ref o6), .val (.int 1)] [(.int p3), (.ref o6), (.ref o5), (.ref o4), (.ref o3), (.ref o2), (.ref o1), (.int 1)])) rfl (hb hby at_165) _ ?_
  refine XS.iand X0.here hx rfl (hb hby at_167) rfl ?_
  exact k
 exact ⟨_, _, X0, N0, e0, pre1⟩
set_option maxRecDepth 65536 in
set_option maxHeartbeats 40000000 in
theorem lw_5 {p : Program} {l : Launch} {e : Env} {s : State} {m : MethodId} {below : List Frame} {meth : Method} {c : Code} {E0 T0 : State} {locs : List Loc} {Z : State} {a0 : Array Value} (hw : HW a0 Z) {p1 : Int32} {p2 : Int32} {p3 : Int32} {p4 : Int32} {p5 : Int32} {p6 : Int32} {o1 : Addr} {o2 : Addr} {o3 : Addr} {o4 : Addr} {o5 : Addr} {o6 : Addr} {h0 : Heap} {n0 : Nat} (O0 : Old Z n0 h0)
    (hx : p.tables.exec = Jvm.exec) (hby : c.code = code) (hml : c.maxLocals = 13) (hown : s.vm.findClass cn8 = some m.cls) (hret : meth.sig.returnType = some .boolean) (hlk : meth.locks = false) (hZ : Z.Warmed39 s.vm)
    (X0 : Stand p l e ({ frames := 7, cells := 56, slots := 512, locals := 176 } : Room) s m #[(.int p1), (.int p2), (.int p3), (.int p4), (.int p5), (.int p6)] below meth c T0 locs 16 165) (e0 : T0.heap = h0) (N0 : Fr n0 locs) (pre0 : Go p e below T0 (mkF m 171 #[.val (.int p1), .val (.int p2), .val (.int p3), .val (.int p4), .val (.int p5), .val (.int p6), .val (.ref o1), .val (.ref o2), .val (.ref o3), .val (.ref o4), .val (.ref o5), .val (.ref o6), .val (.int 1)] [(.int 1), (.int 1)]) E0) :
    (∃ (T' : State) (lc : List Loc), Stand p l e ({ frames := 7, cells := 56, slots := 512, locals := 176 } : Room) s m #[(.int p1), (.int p2), (.int p3), (.int p4), (.int p5), (.int p6)] below meth c T' lc 16 165 ∧ Fr n0 lc ∧ T'.heap = h0 ∧ Go p e below T' (mkF m 192 #[.val (.int p1), .val (.int p2), .val (.int p3), .val (.int p4), .val (.int p5), .val (.int p6), .val (.ref o1), .val (.ref o2), .val (.ref o3), .val (.ref o4), .val (.ref o5), .val (.ref o6), .val (.int 1)] [(.int ((p3.toUInt32 >>> ((16 : Int32) &&& 31).toUInt32).toInt32)), (.ref o6), (.ref o5), (.ref o4), (.ref o3), (.ref o2), (.ref o1), (.int 1)]) E0) := by
 have pre1 : Go p e below T0 (mkF m 192 #[.val (.int p1), .val (.int p2), .val (.int p3), .val (.int p4), .val (.int p5), .val (.int p6), .val (.ref o1), .val (.ref o2), .val (.ref o3), .val (.ref o4), .val (.ref o5), .val (.ref o6), .val (.int 1)] [(.int ((p3.toUInt32 >>> ((16 : Int32) &&& 31).toUInt32).toInt32)), (.ref o6), (.ref o5), (.ref o4), (.ref o3), (.ref o2), (.ref o1), (.int 1)]) E0 := fun t k => by
  refine pre0 _ ?_
  refine XS.iand X0.here hx rfl (hb hby at_171) rfl ?_
  refine yis X0 hx hby at_172 (l' := #[.val (.int p1), .val (.int p2), .val (.int p3), .val (.int p4), .val (.int p5), .val (.int p6), .val (.ref o1), .val (.ref o2), .val (.ref o3), .val (.ref o4), .val (.ref o5), .val (.ref o6), .val (.int 1)]) rfl ?_
  refine yil X0 hx hby at_174 rfl ?_
  refine yal X0 hx hby at_176 rfl rfl ?_
  refine yal X0 hx hby at_178 rfl rfl ?_
  refine yal X0 hx hby at_180 rfl rfl ?_
  refine yal X0 hx hby at_182 rfl rfl ?_
  refine yal X0 hx hby at_184 rfl rfl ?_
  refine yal X0 hx hby at_186 rfl rfl ?_
  refine yin X0 hx hby at_188 rfl ?_
  refine XS.bipush X0.here hx rfl (hb hby at_189) ?_
  refine XS.iushr X0.here hx rfl (hb hby at_191) rfl ?_
  exact k
 exact ⟨_, _, X0, N0, e0, pre1⟩
set_option maxRecDepth 65536 in
set_option maxHeartbeats 40000000 in
theorem lw_6 {p : Program} {l : Launch} {e : Env} {s : State} {m : MethodId} {below : List Frame} {meth : Method} {c : Code} {E0 T0 : State} {locs : List Loc} {Z : State} {a0 : Array Value} (hw : HW a0 Z) {p1 : Int32} {p2 : Int32} {p3 : Int32} {p4 : Int32} {p5 : Int32} {p6 : Int32} {o1 : Addr} {o2 : Addr} {o3 : Addr} {o4 : Addr} {o5 : Addr} {o6 : Addr} {h0 : Heap} {n0 : Nat} (O0 : Old Z n0 h0)
    (hx : p.tables.exec = Jvm.exec) (hby : c.code = code) (hml : c.maxLocals = 13) (hown : s.vm.findClass cn8 = some m.cls) (hret : meth.sig.returnType = some .boolean) (hlk : meth.locks = false) (hZ : Z.Warmed39 s.vm)
    (X0 : Stand p l e ({ frames := 7, cells := 56, slots := 512, locals := 176 } : Room) s m #[(.int p1), (.int p2), (.int p3), (.int p4), (.int p5), (.int p6)] below meth c T0 locs 18 189) (e0 : T0.heap = h0) (N0 : Fr n0 locs) (pre0 : Go p e below T0 (mkF m 195 #[.val (.int p1), .val (.int p2), .val (.int p3), .val (.int p4), .val (.int p5), .val (.int p6), .val (.ref o1), .val (.ref o2), .val (.ref o3), .val (.ref o4), .val (.ref o5), .val (.ref o6), .val (.int 1)] [(.int 1), (.int 1)]) E0) :
    (∃ (T' : State) (lc : List Loc), Stand p l e ({ frames := 7, cells := 56, slots := 512, locals := 176 } : Room) s m #[(.int p1), (.int p2), (.int p3), (.int p4), (.int p5), (.int p6)] below meth c T' lc 18 189 ∧ Fr n0 lc ∧ T'.heap = h0 ∧ Go p e below T' (mkF m 216 #[.val (.int p1), .val (.int p2), .val (.int p3), .val (.int p4), .val (.int p5), .val (.int p6), .val (.ref o1), .val (.ref o2), .val (.ref o3), .val (.ref o4), .val (.ref o5), .val (.ref o6), .val (.int 1)] [(.int (p4 &&& (65535 : Int32))), (.ref o6), (.ref o5), (.ref o4), (.ref o3), (.ref o2), (.ref o1), (.int 1)]) E0) := by
 have pre1 : Go p e below T0 (mkF m 216 #[.val (.int p1), .val (.int p2), .val (.int p3), .val (.int p4), .val (.int p5), .val (.int p6), .val (.ref o1), .val (.ref o2), .val (.ref o3), .val (.ref o4), .val (.ref o5), .val (.ref o6), .val (.int 1)] [(.int (p4 &&& (65535 : Int32))), (.ref o6), (.ref o5), (.ref o4), (.ref o3), (.ref o2), (.ref o1), (.int 1)]) E0 := fun t k => by
  refine pre0 _ ?_
  refine XS.iand X0.here hx rfl (hb hby at_195) rfl ?_
  refine yis X0 hx hby at_196 (l' := #[.val (.int p1), .val (.int p2), .val (.int p3), .val (.int p4), .val (.int p5), .val (.int p6), .val (.ref o1), .val (.ref o2), .val (.ref o3), .val (.ref o4), .val (.ref o5), .val (.ref o6), .val (.int 1)]) rfl ?_
  refine yil X0 hx hby at_198 rfl ?_
  refine yal X0 hx hby at_200 rfl rfl ?_
  refine yal X0 hx hby at_202 rfl rfl ?_
  refine yal X0 hx hby at_204 rfl rfl ?_
  refine yal X0 hx hby at_206 rfl rfl ?_
  refine yal X0 hx hby at_208 rfl rfl ?_
  refine yal X0 hx hby at_210 rfl rfl ?_
  refine yin X0 hx hby at_212 rfl ?_
  refine X0.ldcInt hx hown (mvT hZ (own_w hw 30 rfl)) (g := (mkF m 213 #[.val (.int p1), .val (.int p2), .val (.int p3), .val (.int p4), .val (.int p5), .val (.int p6), .val (.ref o1), .val (.ref o2), .val (.ref o3), .val (.ref o4), .val (.ref o5), .val (.ref o6), .val (.int 1)] [(.int p4), (.ref o6), (.ref o5), (.ref o4), (.ref o3), (.ref o2), (.ref o1), (.int 1)])) rfl (hb hby at_213) _ ?_
  refine XS.iand X0.here hx rfl (hb hby at_215) rfl ?_
  exact k
 exact ⟨_, _, X0, N0, e0, pre1⟩
set_option maxRecDepth 65536 in
set_option maxHeartbeats 40000000 in
theorem lw_7 {p : Program} {l : Launch} {e : Env} {s : State} {m : MethodId} {below : List Frame} {meth : Method} {c : Code} {E0 T0 : State} {locs : List Loc} {Z : State} {a0 : Array Value} (hw : HW a0 Z) {p1 : Int32} {p2 : Int32} {p3 : Int32} {p4 : Int32} {p5 : Int32} {p6 : Int32} {o1 : Addr} {o2 : Addr} {o3 : Addr} {o4 : Addr} {o5 : Addr} {o6 : Addr} {h0 : Heap} {n0 : Nat} (O0 : Old Z n0 h0)
    (hx : p.tables.exec = Jvm.exec) (hby : c.code = code) (hml : c.maxLocals = 13) (hown : s.vm.findClass cn8 = some m.cls) (hret : meth.sig.returnType = some .boolean) (hlk : meth.locks = false) (hZ : Z.Warmed39 s.vm)
    (X0 : Stand p l e ({ frames := 7, cells := 56, slots := 512, locals := 176 } : Room) s m #[(.int p1), (.int p2), (.int p3), (.int p4), (.int p5), (.int p6)] below meth c T0 locs 20 231) (e0 : T0.heap = h0) (N0 : Fr n0 locs) (pre0 : Go p e below T0 (mkF m 219 #[.val (.int p1), .val (.int p2), .val (.int p3), .val (.int p4), .val (.int p5), .val (.int p6), .val (.ref o1), .val (.ref o2), .val (.ref o3), .val (.ref o4), .val (.ref o5), .val (.ref o6), .val (.int 1)] [(.int 1), (.int 1)]) E0) :
    (∃ (T' : State) (lc : List Loc), Stand p l e ({ frames := 7, cells := 56, slots := 512, locals := 176 } : Room) s m #[(.int p1), (.int p2), (.int p3), (.int p4), (.int p5), (.int p6)] below meth c T' lc 20 231 ∧ Fr n0 lc ∧ T'.heap = h0 ∧ Go p e below T' (mkF m 240 #[.val (.int p1), .val (.int p2), .val (.int p3), .val (.int p4), .val (.int p5), .val (.int p6), .val (.ref o1), .val (.ref o2), .val (.ref o3), .val (.ref o4), .val (.ref o5), .val (.ref o6), .val (.int 1)] [(.int ((p4.toUInt32 >>> ((16 : Int32) &&& 31).toUInt32).toInt32)), (.ref o6), (.ref o5), (.ref o4), (.ref o3), (.ref o2), (.ref o1), (.int 1)]) E0) := by
 have pre1 : Go p e below T0 (mkF m 240 #[.val (.int p1), .val (.int p2), .val (.int p3), .val (.int p4), .val (.int p5), .val (.int p6), .val (.ref o1), .val (.ref o2), .val (.ref o3), .val (.ref o4), .val (.ref o5), .val (.ref o6), .val (.int 1)] [(.int ((p4.toUInt32 >>> ((16 : Int32) &&& 31).toUInt32).toInt32)), (.ref o6), (.ref o5), (.ref o4), (.ref o3), (.ref o2), (.ref o1), (.int 1)]) E0 := fun t k => by
  refine pre0 _ ?_
  refine XS.iand X0.here hx rfl (hb hby at_219) rfl ?_
  refine yis X0 hx hby at_220 (l' := #[.val (.int p1), .val (.int p2), .val (.int p3), .val (.int p4), .val (.int p5), .val (.int p6), .val (.ref o1), .val (.ref o2), .val (.ref o3), .val (.ref o4), .val (.ref o5), .val (.ref o6), .val (.int 1)]) rfl ?_
  refine yil X0 hx hby at_222 rfl ?_
  refine yal X0 hx hby at_224 rfl rfl ?_
  refine yal X0 hx hby at_226 rfl rfl ?_
  refine yal X0 hx hby at_228 rfl rfl ?_
  refine yal X0 hx hby at_230 rfl rfl ?_
  refine yal X0 hx hby at_232 rfl rfl ?_
  refine yal X0 hx hby at_234 rfl rfl ?_
  refine yin X0 hx hby at_236 rfl ?_
  refine XS.bipush X0.here hx rfl (hb hby at_237) ?_
  refine XS.iushr X0.here hx rfl (hb hby at_239) rfl ?_
  exact k
 exact ⟨_, _, X0, N0, e0, pre1⟩
set_option maxRecDepth 65536 in
set_option maxHeartbeats 40000000 in
theorem lw_8 {p : Program} {l : Launch} {e : Env} {s : State} {m : MethodId} {below : List Frame} {meth : Method} {c : Code} {E0 T0 : State} {locs : List Loc} {Z : State} {a0 : Array Value} (hw : HW a0 Z) {p1 : Int32} {p2 : Int32} {p3 : Int32} {p4 : Int32} {p5 : Int32} {p6 : Int32} {o1 : Addr} {o2 : Addr} {o3 : Addr} {o4 : Addr} {o5 : Addr} {o6 : Addr} {h0 : Heap} {n0 : Nat} (O0 : Old Z n0 h0)
    (hx : p.tables.exec = Jvm.exec) (hby : c.code = code) (hml : c.maxLocals = 13) (hown : s.vm.findClass cn8 = some m.cls) (hret : meth.sig.returnType = some .boolean) (hlk : meth.locks = false) (hZ : Z.Warmed39 s.vm)
    (X0 : Stand p l e ({ frames := 7, cells := 56, slots := 512, locals := 176 } : Room) s m #[(.int p1), (.int p2), (.int p3), (.int p4), (.int p5), (.int p6)] below meth c T0 locs 22 273) (e0 : T0.heap = h0) (N0 : Fr n0 locs) (pre0 : Go p e below T0 (mkF m 243 #[.val (.int p1), .val (.int p2), .val (.int p3), .val (.int p4), .val (.int p5), .val (.int p6), .val (.ref o1), .val (.ref o2), .val (.ref o3), .val (.ref o4), .val (.ref o5), .val (.ref o6), .val (.int 1)] [(.int 1), (.int 1)]) E0) :
    (∃ (T' : State) (lc : List Loc), Stand p l e ({ frames := 7, cells := 56, slots := 512, locals := 176 } : Room) s m #[(.int p1), (.int p2), (.int p3), (.int p4), (.int p5), (.int p6)] below meth c T' lc 22 273 ∧ Fr n0 lc ∧ T'.heap = h0 ∧ Go p e below T' (mkF m 265 #[.val (.int p1), .val (.int p2), .val (.int p3), .val (.int p4), .val (.int p5), .val (.int p6), .val (.ref o1), .val (.ref o2), .val (.ref o3), .val (.ref o4), .val (.ref o5), .val (.ref o6), .val (.int 1)] [(.int (p5 &&& (65535 : Int32))), (.ref o6), (.ref o5), (.ref o4), (.ref o3), (.ref o2), (.ref o1), (.int 1)]) E0) := by
 have pre1 : Go p e below T0 (mkF m 265 #[.val (.int p1), .val (.int p2), .val (.int p3), .val (.int p4), .val (.int p5), .val (.int p6), .val (.ref o1), .val (.ref o2), .val (.ref o3), .val (.ref o4), .val (.ref o5), .val (.ref o6), .val (.int 1)] [(.int (p5 &&& (65535 : Int32))), (.ref o6), (.ref o5), (.ref o4), (.ref o3), (.ref o2), (.ref o1), (.int 1)]) E0 := fun t k => by
  refine pre0 _ ?_
  refine XS.iand X0.here hx rfl (hb hby at_243) rfl ?_
  refine yis X0 hx hby at_244 (l' := #[.val (.int p1), .val (.int p2), .val (.int p3), .val (.int p4), .val (.int p5), .val (.int p6), .val (.ref o1), .val (.ref o2), .val (.ref o3), .val (.ref o4), .val (.ref o5), .val (.ref o6), .val (.int 1)]) rfl ?_
  refine yil X0 hx hby at_246 rfl ?_
  refine yal X0 hx hby at_248 rfl rfl ?_
  refine yal X0 hx hby at_250 rfl rfl ?_
  refine yal X0 hx hby at_252 rfl rfl ?_
  refine yal X0 hx hby at_254 rfl rfl ?_
  refine yal X0 hx hby at_256 rfl rfl ?_
  refine yal X0 hx hby at_258 rfl rfl ?_
  refine yil X0 hx hby at_260 rfl ?_
  refine X0.ldcInt hx hown (mvT hZ (own_w hw 30 rfl)) (g := (mkF m 262 #[.val (.int p1), .val (.int p2), .val (.int p3), .val (.int p4), .val (.int p5), .val (.int p6), .val (.ref o1), .val (.ref o2), .val (.ref o3), .val (.ref o4), .val (.ref o5), .val (.ref o6), .val (.int 1)] [(.int p5), (.ref o6), (.ref o5), (.ref o4), (.ref o3), (.ref o2), (.ref o1), (.int 1)])) rfl (hb hby at_262) _ ?_
  refine XS.iand X0.here hx rfl (hb hby at_264) rfl ?_
  exact k
 exact ⟨_, _, X0, N0, e0, pre1⟩
set_option maxRecDepth 65536 in
set_option maxHeartbeats 40000000 in
theorem lw_9 {p : Program} {l : Launch} {e : Env} {s : State} {m : MethodId} {below : List Frame} {meth : Method} {c : Code} {E0 T0 : State} {locs : List Loc} {Z : State} {a0 : Array Value} (hw : HW a0 Z) {p1 : Int32} {p2 : Int32} {p3 : Int32} {p4 : Int32} {p5 : Int32} {p6 : Int32} {o1 : Addr} {o2 : Addr} {o3 : Addr} {o4 : Addr} {o5 : Addr} {o6 : Addr} {h0 : Heap} {n0 : Nat} (O0 : Old Z n0 h0)
    (hx : p.tables.exec = Jvm.exec) (hby : c.code = code) (hml : c.maxLocals = 13) (hown : s.vm.findClass cn8 = some m.cls) (hret : meth.sig.returnType = some .boolean) (hlk : meth.locks = false) (hZ : Z.Warmed39 s.vm)
    (X0 : Stand p l e ({ frames := 7, cells := 56, slots := 512, locals := 176 } : Room) s m #[(.int p1), (.int p2), (.int p3), (.int p4), (.int p5), (.int p6)] below meth c T0 locs 24 315) (e0 : T0.heap = h0) (N0 : Fr n0 locs) (pre0 : Go p e below T0 (mkF m 268 #[.val (.int p1), .val (.int p2), .val (.int p3), .val (.int p4), .val (.int p5), .val (.int p6), .val (.ref o1), .val (.ref o2), .val (.ref o3), .val (.ref o4), .val (.ref o5), .val (.ref o6), .val (.int 1)] [(.int 1), (.int 1)]) E0) :
    (∃ (T' : State) (lc : List Loc), Stand p l e ({ frames := 7, cells := 56, slots := 512, locals := 176 } : Room) s m #[(.int p1), (.int p2), (.int p3), (.int p4), (.int p5), (.int p6)] below meth c T' lc 24 315 ∧ Fr n0 lc ∧ T'.heap = h0 ∧ Go p e below T' (mkF m 290 #[.val (.int p1), .val (.int p2), .val (.int p3), .val (.int p4), .val (.int p5), .val (.int p6), .val (.ref o1), .val (.ref o2), .val (.ref o3), .val (.ref o4), .val (.ref o5), .val (.ref o6), .val (.int 1)] [(.int ((p5.toUInt32 >>> ((16 : Int32) &&& 31).toUInt32).toInt32)), (.ref o6), (.ref o5), (.ref o4), (.ref o3), (.ref o2), (.ref o1), (.int 1)]) E0) := by
 have pre1 : Go p e below T0 (mkF m 290 #[.val (.int p1), .val (.int p2), .val (.int p3), .val (.int p4), .val (.int p5), .val (.int p6), .val (.ref o1), .val (.ref o2), .val (.ref o3), .val (.ref o4), .val (.ref o5), .val (.ref o6), .val (.int 1)] [(.int ((p5.toUInt32 >>> ((16 : Int32) &&& 31).toUInt32).toInt32)), (.ref o6), (.ref o5), (.ref o4), (.ref o3), (.ref o2), (.ref o1), (.int 1)]) E0 := fun t k => by
  refine pre0 _ ?_
  refine XS.iand X0.here hx rfl (hb hby at_268) rfl ?_
  refine yis X0 hx hby at_269 (l' := #[.val (.int p1), .val (.int p2), .val (.int p3), .val (.int p4), .val (.int p5), .val (.int p6), .val (.ref o1), .val (.ref o2), .val (.ref o3), .val (.ref o4), .val (.ref o5), .val (.ref o6), .val (.int 1)]) rfl ?_
  refine yil X0 hx hby at_271 rfl ?_
  refine yal X0 hx hby at_273 rfl rfl ?_
  refine yal X0 hx hby at_275 rfl rfl ?_
  refine yal X0 hx hby at_277 rfl rfl ?_
  refine yal X0 hx hby at_279 rfl rfl ?_
  refine yal X0 hx hby at_281 rfl rfl ?_
  refine yal X0 hx hby at_283 rfl rfl ?_
  refine yil X0 hx hby at_285 rfl ?_
  refine XS.bipush X0.here hx rfl (hb hby at_287) ?_
  refine XS.iushr X0.here hx rfl (hb hby at_289) rfl ?_
  exact k
 exact ⟨_, _, X0, N0, e0, pre1⟩
set_option maxRecDepth 65536 in
set_option maxHeartbeats 40000000 in
theorem lw_10 {p : Program} {l : Launch} {e : Env} {s : State} {m : MethodId} {below : List Frame} {meth : Method} {c : Code} {E0 T0 : State} {locs : List Loc} {Z : State} {a0 : Array Value} (hw : HW a0 Z) {p1 : Int32} {p2 : Int32} {p3 : Int32} {p4 : Int32} {p5 : Int32} {p6 : Int32} {o1 : Addr} {o2 : Addr} {o3 : Addr} {o4 : Addr} {o5 : Addr} {o6 : Addr} {h0 : Heap} {n0 : Nat} (O0 : Old Z n0 h0)
    (hx : p.tables.exec = Jvm.exec) (hby : c.code = code) (hml : c.maxLocals = 13) (hown : s.vm.findClass cn8 = some m.cls) (hret : meth.sig.returnType = some .boolean) (hlk : meth.locks = false) (hZ : Z.Warmed39 s.vm)
    (X0 : Stand p l e ({ frames := 7, cells := 56, slots := 512, locals := 176 } : Room) s m #[(.int p1), (.int p2), (.int p3), (.int p4), (.int p5), (.int p6)] below meth c T0 locs 26 357) (e0 : T0.heap = h0) (N0 : Fr n0 locs) (pre0 : Go p e below T0 (mkF m 293 #[.val (.int p1), .val (.int p2), .val (.int p3), .val (.int p4), .val (.int p5), .val (.int p6), .val (.ref o1), .val (.ref o2), .val (.ref o3), .val (.ref o4), .val (.ref o5), .val (.ref o6), .val (.int 1)] [(.int 1), (.int 1)]) E0) :
    (∃ (T' : State) (lc : List Loc), Stand p l e ({ frames := 7, cells := 56, slots := 512, locals := 176 } : Room) s m #[(.int p1), (.int p2), (.int p3), (.int p4), (.int p5), (.int p6)] below meth c T' lc 26 357 ∧ Fr n0 lc ∧ T'.heap = h0 ∧ Go p e below T' (mkF m 315 #[.val (.int p1), .val (.int p2), .val (.int p3), .val (.int p4), .val (.int p5), .val (.int p6), .val (.ref o1), .val (.ref o2), .val (.ref o3), .val (.ref o4), .val (.ref o5), .val (.ref o6), .val (.int 1)] [(.int (p6 &&& (65535 : Int32))), (.ref o6), (.ref o5), (.ref o4), (.ref o3), (.ref o2), (.ref o1), (.int 1)]) E0) := by
 have pre1 : Go p e below T0 (mkF m 315 #[.val (.int p1), .val (.int p2), .val (.int p3), .val (.int p4), .val (.int p5), .val (.int p6), .val (.ref o1), .val (.ref o2), .val (.ref o3), .val (.ref o4), .val (.ref o5), .val (.ref o6), .val (.int 1)] [(.int (p6 &&& (65535 : Int32))), (.ref o6), (.ref o5), (.ref o4), (.ref o3), (.ref o2), (.ref o1), (.int 1)]) E0 := fun t k => by
  refine pre0 _ ?_
  refine XS.iand X0.here hx rfl (hb hby at_293) rfl ?_
  refine yis X0 hx hby at_294 (l' := #[.val (.int p1), .val (.int p2), .val (.int p3), .val (.int p4), .val (.int p5), .val (.int p6), .val (.ref o1), .val (.ref o2), .val (.ref o3), .val (.ref o4), .val (.ref o5), .val (.ref o6), .val (.int 1)]) rfl ?_
  refine yil X0 hx hby at_296 rfl ?_
  refine yal X0 hx hby at_298 rfl rfl ?_
  refine yal X0 hx hby at_300 rfl rfl ?_
  refine yal X0 hx hby at_302 rfl rfl ?_
  refine yal X0 hx hby at_304 rfl rfl ?_
  refine yal X0 hx hby at_306 rfl rfl ?_
  refine yal X0 hx hby at_308 rfl rfl ?_
  refine yil X0 hx hby at_310 rfl ?_
  refine X0.ldcInt hx hown (mvT hZ (own_w hw 30 rfl)) (g := (mkF m 312 #[.val (.int p1), .val (.int p2), .val (.int p3), .val (.int p4), .val (.int p5), .val (.int p6), .val (.ref o1), .val (.ref o2), .val (.ref o3), .val (.ref o4), .val (.ref o5), .val (.ref o6), .val (.int 1)] [(.int p6), (.ref o6), (.ref o5), (.ref o4), (.ref o3), (.ref o2), (.ref o1), (.int 1)])) rfl (hb hby at_312) _ ?_
  refine XS.iand X0.here hx rfl (hb hby at_314) rfl ?_
  exact k
 exact ⟨_, _, X0, N0, e0, pre1⟩
set_option maxRecDepth 65536 in
set_option maxHeartbeats 40000000 in
theorem lw_11 {p : Program} {l : Launch} {e : Env} {s : State} {m : MethodId} {below : List Frame} {meth : Method} {c : Code} {E0 T0 : State} {locs : List Loc} {Z : State} {a0 : Array Value} (hw : HW a0 Z) {p1 : Int32} {p2 : Int32} {p3 : Int32} {p4 : Int32} {p5 : Int32} {p6 : Int32} {o1 : Addr} {o2 : Addr} {o3 : Addr} {o4 : Addr} {o5 : Addr} {o6 : Addr} {h0 : Heap} {n0 : Nat} (O0 : Old Z n0 h0)
    (hx : p.tables.exec = Jvm.exec) (hby : c.code = code) (hml : c.maxLocals = 13) (hown : s.vm.findClass cn8 = some m.cls) (hret : meth.sig.returnType = some .boolean) (hlk : meth.locks = false) (hZ : Z.Warmed39 s.vm)
    (X0 : Stand p l e ({ frames := 7, cells := 56, slots := 512, locals := 176 } : Room) s m #[(.int p1), (.int p2), (.int p3), (.int p4), (.int p5), (.int p6)] below meth c T0 locs 28 399) (e0 : T0.heap = h0) (N0 : Fr n0 locs) (pre0 : Go p e below T0 (mkF m 318 #[.val (.int p1), .val (.int p2), .val (.int p3), .val (.int p4), .val (.int p5), .val (.int p6), .val (.ref o1), .val (.ref o2), .val (.ref o3), .val (.ref o4), .val (.ref o5), .val (.ref o6), .val (.int 1)] [(.int 1), (.int 1)]) E0) :
    (∃ (T' : State) (lc : List Loc), Stand p l e ({ frames := 7, cells := 56, slots := 512, locals := 176 } : Room) s m #[(.int p1), (.int p2), (.int p3), (.int p4), (.int p5), (.int p6)] below meth c T' lc 28 399 ∧ Fr n0 lc ∧ T'.heap = h0 ∧ Go p e below T' (mkF m 340 #[.val (.int p1), .val (.int p2), .val (.int p3), .val (.int p4), .val (.int p5), .val (.int p6), .val (.ref o1), .val (.ref o2), .val (.ref o3), .val (.ref o4), .val (.ref o5), .val (.ref o6), .val (.int 1)] [(.int ((p6.toUInt32 >>> ((16 : Int32) &&& 31).toUInt32).toInt32)), (.ref o6), (.ref o5), (.ref o4), (.ref o3), (.ref o2), (.ref o1), (.int 1)]) E0) := by
 have pre1 : Go p e below T0 (mkF m 340 #[.val (.int p1), .val (.int p2), .val (.int p3), .val (.int p4), .val (.int p5), .val (.int p6), .val (.ref o1), .val (.ref o2), .val (.ref o3), .val (.ref o4), .val (.ref o5), .val (.ref o6), .val (.int 1)] [(.int ((p6.toUInt32 >>> ((16 : Int32) &&& 31).toUInt32).toInt32)), (.ref o6), (.ref o5), (.ref o4), (.ref o3), (.ref o2), (.ref o1), (.int 1)]) E0 := fun t k => by
  refine pre0 _ ?_
  refine XS.iand X0.here hx rfl (hb hby at_318) rfl ?_
  refine yis X0 hx hby at_319 (l' := #[.val (.int p1), .val (.int p2), .val (.int p3), .val (.int p4), .val (.int p5), .val (.int p6), .val (.ref o1), .val (.ref o2), .val (.ref o3), .val (.ref o4), .val (.ref o5), .val (.ref o6), .val (.int 1)]) rfl ?_
  refine yil X0 hx hby at_321 rfl ?_
  refine yal X0 hx hby at_323 rfl rfl ?_
  refine yal X0 hx hby at_325 rfl rfl ?_
  refine yal X0 hx hby at_327 rfl rfl ?_
  refine yal X0 hx hby at_329 rfl rfl ?_
  refine yal X0 hx hby at_331 rfl rfl ?_
  refine yal X0 hx hby at_333 rfl rfl ?_
  refine yil X0 hx hby at_335 rfl ?_
  refine XS.bipush X0.here hx rfl (hb hby at_337) ?_
  refine XS.iushr X0.here hx rfl (hb hby at_339) rfl ?_
  exact k
 exact ⟨_, _, X0, N0, e0, pre1⟩
def l603_0 (p1 p2 : Int32) (p3 p4 : Int32) (p5 p6 : Int32) (o1 o2 : Addr) (o3 o4 : Addr) (o5 o6 : Addr) : Array Slot := #[.val (.int p1), .val (.int p2), .val (.int p3), .val (.int p4), .val (.int p5), .val (.int p6), .val (.ref o1), .val (.ref o2), .val (.ref o3), .val (.ref o4), .val (.ref o5), .val (.ref o6), .val (.int 1)]
set_option maxRecDepth 65536 in
set_option maxHeartbeats 40000000 in
theorem lw_12 {p : Program} {l : Launch} {e : Env} {s : State} {m : MethodId} {below : List Frame} {meth : Method} {c : Code} {E0 T0 : State} {locs : List Loc} {Z : State} {a0 : Array Value} (hw : HW a0 Z) {p1 : Int32} {p2 : Int32} {p3 : Int32} {p4 : Int32} {p5 : Int32} {p6 : Int32} {o1 : Addr} {o2 : Addr} {o3 : Addr} {o4 : Addr} {o5 : Addr} {o6 : Addr} {h0 : Heap} {n0 : Nat} (O0 : Old Z n0 h0)
    (hx : p.tables.exec = Jvm.exec) (hby : c.code = code) (hml : c.maxLocals = 13) (hown : s.vm.findClass cn8 = some m.cls) (hret : meth.sig.returnType = some .boolean) (hlk : meth.locks = false) (hZ : Z.Warmed39 s.vm)
    (X0 : Stand p l e ({ frames := 7, cells := 56, slots := 512, locals := 176 } : Room) s m #[(.int p1), (.int p2), (.int p3), (.int p4), (.int p5), (.int p6)] below meth c T0 locs 30 441) (e0 : T0.heap = h0) (N0 : Fr n0 locs) (pre0 : Go p e below T0 (mkF m 343 (l603_0 p1 p2 p3 p4 p5 p6 o1 o2 o3 o4 o5 o6) [(.int 1), (.int 1)]) E0) :
    (∃ (s₂ : State) (L : List Loc), Steps p.tables e below E0 s₂ ∧ s₂.status = .running ∧ Ended s₂ below (.returned (some (.int 1))) ∧ Fr n0 L ∧ FrameEnd s (.returned (some (.int 1))) s₂ L 56 512 ∧ s₂.heap = h0) := by
 obtain ⟨fs, hr, hrun, hended, hW, hsame⟩ := X0.leave (v := some (.int 1)) (fun h => by rw [hret] at h; cases h)
 refine ⟨_, _, pre0 _ ?_, hrun, hended, N0, ⟨⟨_, rfl⟩, hW, hsame.mono (by decide) (by decide)⟩, e0⟩
 show Steps p.tables e below (T0.setTop (mkF m 343 (l603_0 p1 p2 p3 p4 p5 p6 o1 o2 o3 o4 o5 o6) [(.int 1), (.int 1)])) _
 refine XS.iand X0.here hx rfl (hb hby at_343) rfl ?_
 refine yis X0 hx hby at_344 (l' := (l603_0 p1 p2 p3 p4 p5 p6 o1 o2 o3 o4 o5 o6)) rfl ?_
 refine yil X0 hx hby at_346 rfl ?_
 show Steps p.tables e below (T0.setTop (mkF m 348 (l603_0 p1 p2 p3 p4 p5 p6 o1 o2 o3 o4 o5 o6) [(.int 1)])) _
 exact retN X0 hx (t := .boolean) hret (by simp) (hb hby at_348) hr
theorem pd8 : parseMethodDescriptor "(Lcom/example/horn1/horn1/engine/ClauseList;[Lcom/example/horn1/horn1/engine/Template;[Lcom/example/horn1/horn1/engine/Clause;[Z[I[II)Z" = some ⟨[(.object "com/example/horn1/horn1/engine/ClauseList"), (.array (.object "com/example/horn1/horn1/engine/Template")), (.array (.object "com/example/horn1/horn1/engine/Clause")), (.array .boolean), (.array .int), (.array .int), .int], some .boolean⟩ := by decide +kernel
def Q0 (n0 : Nat) (v : Option Value) (h : Heap) (L : List Loc) : Prop := v = some (.int (1 : Int32)) ∧ Fr n0 L
theorem ef0 (m : MethodId) (p1 p2 p3 p4 p5 p6 : Int32) : entryFrame m #[(.int p1), (.int p2), (.int p3), (.int p4), (.int p5), (.int p6)] maxLocals = mkF m 0 #[.val (.int p1), .val (.int p2), .val (.int p3), .val (.int p4), .val (.int p5), .val (.int p6), .unset, .unset, .unset, .unset, .unset, .unset, .unset] [] := by first | (simp [entryFrame, mkF, argsToLocals, Value.category, maxLocals]; done) | rfl
set_option maxRecDepth 65536 in
set_option maxHeartbeats 40000000 in
theorem rm0 (l : Launch) (Z : State) (a0 : Array Value) (hw : HW a0 Z) (w1 : Addr) (kw1 : ClassId) (G : GW Z w1 kw1) (ws : List Jvm.Cond) (p1 p2 p3 p4 p5 p6 : Int32) (h0 : Heap) (n0 : Nat) (O0 : Old Z n0 h0) :
    MetFree l x (head1 (Jvm.Cond.code x code maxLocals ret :: ws) room_1) (fun a U => a = #[(.int p1), (.int p2), (.int p3), (.int p4), (.int p5), (.int p6)] ∧ Z.Warmed39 U.vm ∧ U.heap = h0) (fun _ _ _ _ _ => True) (fun _ U o U' => ∃ v L, o = .returned v ∧ Q0 n0 v U'.heap L ∧ FrameEnd U o U' L 56 512) := by
  refine MetFree.of_bodySF (plainFor_of_name pn1) hisR ?_
  intro p e s m args below meth c s₁ Bd hml hP hK
  obtain ⟨rfl, hZ, hh⟩ := hP
  obtain ⟨hx, hby, hown, hret, hlk, X0, e0, N0⟩ := own_bd Bd hh n0
  have pre0 := own_ct s₁ (p := p) (e := e) (below := below) (ef0 m p1 p2 p3 p4 p5 p6)
  revert pre0
  generalize s₁.setTop (entryFrame m #[(.int p1), (.int p2), (.int p3), (.int p4), (.int p5), (.int p6)] maxLocals) = E0
  intro pre0
  obtain ⟨T0, lc0, b1, b12, b13, b14, b15, b16, k12, k13, k14, k15, k16, Y0, M0, K0, s1, s2, s3, s4, s5, s6, -, -, -, -, -, -, -, -, -, -, -, -, -, -, n56, -, ov, E1, F1, F2, F3, F4, F5, F6, A2, E2, A3, E3, A4, E4, A5, E5, A6, E6, go0⟩ := lw_0 hw G O0 hx hby hml hown hret hlk hZ X0 e0 N0 pre0
  have oz := own_oz O0
  have O1 := O0.keep K0 all0
  obtain ⟨-, A_w1⟩ := id G
  have wl : w1 < n0 := by have := A_w1.lt; rw [O0.1] at this; exact this
  have HO : SO n0 b12 b13 b14 b15 b16 := ⟨Nat.le_trans oz s2, Nat.le_trans oz s3, Nat.le_trans oz s4, Nat.le_trans oz s5, Nat.le_trans oz s6, Ne.symm n56⟩
  have I0 : SI Z T0.heap n0 b1 b12 b13 b14 b15 b16 0 := by
    refine ⟨[], fun _ => MX, 0, 0, 0, fun _ => 0, fun _ => 0, fun _ => 0, k12, k13, k14, k15, k16, _, _, _, fun c hc => absurd hc List.not_mem_nil, ⟨w1, kw1, [], 0, 0, 0, 0, 0, 0, [], ⟨Nat.le_trans oz s1, E1, F6, F4, F3, F2, F5, F1, A_w1.ext O1.2, Or.inl ⟨rfl, wl⟩, Nat.ne_of_lt (Nat.lt_of_lt_of_le wl (Nat.le_trans oz s1))⟩, ?_, Nat.ne_of_lt (Nat.lt_of_lt_of_le wl (Nat.le_trans oz s3)), rfl⟩, ⟨A2, A3, A4, A5, A6, E2, E3, E4, E5, E6, ov⟩, ⟨fun j hj => absurd hj (Nat.not_lt_zero _), fun i j hi => absurd hi (Nat.not_lt_zero _), rfl, rfl, rfl⟩, Nat.le_refl _, Nat.le_refl _, Nat.le_refl _⟩
    exact ⟨rfl, fun j hj => absurd hj (Nat.not_lt_zero _), List.nodup_nil, fun c hc => absurd hc List.not_mem_nil, fun c hc _ => absurd hc List.not_mem_nil, Nat.le_refl _, Nat.le_refl _, Nat.le_refl _, by omega, rfl, fun c hc => absurd hc (by simp), rfl, Or.inl rfl⟩
  obtain ⟨_, U0, L0, Z0, hQ0, st0⟩ := own_cs Y0 hx hZ hown (y := yn9) (own_w hw 31 rfl) (own_w hw 32 rfl) (own_w hw 34 rfl) (own_w hw 33 rfl) rfl (argsL := [(.ref b1), (.ref b12), (.ref b13), (.ref b14), (.ref b15), (.ref b16), (.int (p1 &&& (65535 : Int32)))]) (rest := [(.int 1)]) (m_sta l Z a0 hw G [] b1 b12 b13 b14 b15 b16 (p1 &&& (65535 : Int32)) 0 (by decide) T0.heap n0 O1 HO I0) (g := (mkF m 72 #[.val (.int p1), .val (.int p2), .val (.int p3), .val (.int p4), .val (.int p5), .val (.int p6), .val (.ref b1), .val (.ref b12), .val (.ref b13), .val (.ref b14), .val (.ref b15), .val (.ref b16), .val (.int 1)] [(.int (p1 &&& (65535 : Int32))), (.ref b16), (.ref b15), (.ref b14), (.ref b13), (.ref b12), (.ref b1), (.int 1)])) rfl (by rw [hml]; rfl) rfl (hb hby at_72) (lenOf pd8 rfl) (W := 1) (c1 := 8) (s1 := 69)
  obtain ⟨rfl, NL0, P1, I1⟩ := hQ0
  obtain ⟨T1, lc1, Y1, M1, e1, go1⟩ := lw_1 hw P1 hx hby hml hown hret hlk hZ Z0 rfl (Fr.app M0 NL0) (fun t k => go0 _ (st0 _ k))
  obtain ⟨_, U1, L1, Z1, hQ1, st1⟩ := own_cs Y1 hx hZ hown (y := yn9) (own_w hw 31 rfl) (own_w hw 32 rfl) (own_w hw 34 rfl) (own_w hw 33 rfl) e1 (argsL := [(.ref b1), (.ref b12), (.ref b13), (.ref b14), (.ref b15), (.ref b16), (.int ((p1.toUInt32 >>> ((16 : Int32) &&& 31).toUInt32).toInt32))]) (rest := [(.int 1)]) (m_sta l Z a0 hw G [] b1 b12 b13 b14 b15 b16 ((p1.toUInt32 >>> ((16 : Int32) &&& 31).toUInt32).toInt32) 1 (by decide) U0.heap n0 P1 HO I1) (g := (mkF m 96 #[.val (.int p1), .val (.int p2), .val (.int p3), .val (.int p4), .val (.int p5), .val (.int p6), .val (.ref b1), .val (.ref b12), .val (.ref b13), .val (.ref b14), .val (.ref b15), .val (.ref b16), .val (.int 1)] [(.int ((p1.toUInt32 >>> ((16 : Int32) &&& 31).toUInt32).toInt32)), (.ref b16), (.ref b15), (.ref b14), (.ref b13), (.ref b12), (.ref b1), (.int 1)])) rfl (by rw [hml]; rfl) rfl (hb hby at_96) (lenOf pd8 rfl) (W := 1) (c1 := 10) (s1 := 93)
  obtain ⟨rfl, NL1, P2, I2⟩ := hQ1
  obtain ⟨T2, lc2, Y2, M2, e2, go2⟩ := lw_2 hw P2 hx hby hml hown hret hlk hZ Z1 rfl (Fr.app M1 NL1) (fun t k => go1 _ (st1 _ k))
  obtain ⟨_, U2, L2, Z2, hQ2, st2⟩ := own_cs Y2 hx hZ hown (y := yn9) (own_w hw 31 rfl) (own_w hw 32 rfl) (own_w hw 34 rfl) (own_w hw 33 rfl) e2 (argsL := [(.ref b1), (.ref b12), (.ref b13), (.ref b14), (.ref b15), (.ref b16), (.int (p2 &&& (65535 : Int32)))]) (rest := [(.int 1)]) (m_sta l Z a0 hw G [] b1 b12 b13 b14 b15 b16 (p2 &&& (65535 : Int32)) 2 (by decide) U1.heap n0 P2 HO I2) (g := (mkF m 120 #[.val (.int p1), .val (.int p2), .val (.int p3), .val (.int p4), .val (.int p5), .val (.int p6), .val (.ref b1), .val (.ref b12), .val (.ref b13), .val (.ref b14), .val (.ref b15), .val (.ref b16), .val (.int 1)] [(.int (p2 &&& (65535 : Int32))), (.ref b16), (.ref b15), (.ref b14), (.ref b13), (.ref b12), (.ref b1), (.int 1)])) rfl (by rw [hml]; rfl) rfl (hb hby at_120) (lenOf pd8 rfl) (W := 1) (c1 := 12) (s1 := 117)
  obtain ⟨rfl, NL2, P3, I3⟩ := hQ2
  obtain ⟨T3, lc3, Y3, M3, e3, go3⟩ := lw_3 hw P3 hx hby hml hown hret hlk hZ Z2 rfl (Fr.app M2 NL2) (fun t k => go2 _ (st2 _ k))
  obtain ⟨_, U3, L3, Z3, hQ3, st3⟩ := own_cs Y3 hx hZ hown (y := yn9) (own_w hw 31 rfl) (own_w hw 32 rfl) (own_w hw 34 rfl) (own_w hw 33 rfl) e3 (argsL := [(.ref b1), (.ref b12), (.ref b13), (.ref b14), (.ref b15), (.ref b16), (.int ((p2.toUInt32 >>> ((16 : Int32) &&& 31).toUInt32).toInt32))]) (rest := [(.int 1)]) (m_sta l Z a0 hw G [] b1 b12 b13 b14 b15 b16 ((p2.toUInt32 >>> ((16 : Int32) &&& 31).toUInt32).toInt32) 3 (by decide) U2.heap n0 P3 HO I3) (g := (mkF m 144 #[.val (.int p1), .val (.int p2), .val (.int p3), .val (.int p4), .val (.int p5), .val (.int p6), .val (.ref b1), .val (.ref b12), .val (.ref b13), .val (.ref b14), .val (.ref b15), .val (.ref b16), .val (.int 1)] [(.int ((p2.toUInt32 >>> ((16 : Int32) &&& 31).toUInt32).toInt32)), (.ref b16), (.ref b15), (.ref b14), (.ref b13), (.ref b12), (.ref b1), (.int 1)])) rfl (by rw [hml]; rfl) rfl (hb hby at_144) (lenOf pd8 rfl) (W := 1) (c1 := 14) (s1 := 141)
  obtain ⟨rfl, NL3, P4, I4⟩ := hQ3
  obtain ⟨T4, lc4, Y4, M4, e4, go4⟩ := lw_4 hw P4 hx hby hml hown hret hlk hZ Z3 rfl (Fr.app M3 NL3) (fun t k => go3 _ (st3 _ k))
  obtain ⟨_, U4, L4, Z4, hQ4, st4⟩ := own_cs Y4 hx hZ hown (y := yn9) (own_w hw 31 rfl) (own_w hw 32 rfl) (own_w hw 34 rfl) (own_w hw 33 rfl) e4 (argsL := [(.ref b1), (.ref b12), (.ref b13), (.ref b14), (.ref b15), (.ref b16), (.int (p3 &&& (65535 : Int32)))]) (rest := [(.int 1)]) (m_sta l Z a0 hw G [] b1 b12 b13 b14 b15 b16 (p3 &&& (65535 : Int32)) 4 (by decide) U3.heap n0 P4 HO I4) (g := (mkF m 168 #[.val (.int p1), .val (.int p2), .val (.int p3), .val (.int p4), .val (.int p5), .val (.int p6), .val (.ref b1), .val (.ref b12), .val (.ref b13), .val (.ref b14), .val (.ref b15), .val (.ref b16), .val (.int 1)] [(.int (p3 &&& (65535 : Int32))), (.ref b16), (.ref b15), (.ref b14), (.ref b13), (.ref b12), (.ref b1), (.int 1)])) rfl (by rw [hml]; rfl) rfl (hb hby at_168) (lenOf pd8 rfl) (W := 1) (c1 := 16) (s1 := 165)
  obtain ⟨rfl, NL4, P5, I5⟩ := hQ4
  obtain ⟨T5, lc5, Y5, M5, e5, go5⟩ := lw_5 hw P5 hx hby hml hown hret hlk hZ Z4 rfl (Fr.app M4 NL4) (fun t k => go4 _ (st4 _ k))
  obtain ⟨_, U5, L5, Z5, hQ5, st5⟩ := own_cs Y5 hx hZ hown (y := yn9) (own_w hw 31 rfl) (own_w hw 32 rfl) (own_w hw 34 rfl) (own_w hw 33 rfl) e5 (argsL := [(.ref b1), (.ref b12), (.ref b13), (.ref b14), (.ref b15), (.ref b16), (.int ((p3.toUInt32 >>> ((16 : Int32) &&& 31).toUInt32).toInt32))]) (rest := [(.int 1)]) (m_sta l Z a0 hw G [] b1 b12 b13 b14 b15 b16 ((p3.toUInt32 >>> ((16 : Int32) &&& 31).toUInt32).toInt32) 5 (by decide) U4.heap n0 P5 HO I5) (g := (mkF m 192 #[.val (.int p1), .val (.int p2), .val (.int p3), .val (.int p4), .val (.int p5), .val (.int p6), .val (.ref b1), .val (.ref b12), .val (.ref b13), .val (.ref b14), .val (.ref b15), .val (.ref b16), .val (.int 1)] [(.int ((p3.toUInt32 >>> ((16 : Int32) &&& 31).toUInt32).toInt32)), (.ref b16), (.ref b15), (.ref b14), (.ref b13), (.ref b12), (.ref b1), (.int 1)])) rfl (by rw [hml]; rfl) rfl (hb hby at_192) (lenOf pd8 rfl) (W := 1) (c1 := 18) (s1 := 189)
  obtain ⟨rfl, NL5, P6, I6⟩ := hQ5
  obtain ⟨T6, lc6, Y6, M6, e6, go6⟩ := lw_6 hw P6 hx hby hml hown hret hlk hZ Z5 rfl (Fr.app M5 NL5) (fun t k => go5 _ (st5 _ k))
  obtain ⟨_, U6, L6, Z6, hQ6, st6⟩ := own_cs Y6 hx hZ hown (y := yn9) (own_w hw 31 rfl) (own_w hw 32 rfl) (own_w hw 34 rfl) (own_w hw 33 rfl) e6 (argsL := [(.ref b1), (.ref b12), (.ref b13), (.ref b14), (.ref b15), (.ref b16), (.int (p4 &&& (65535 : Int32)))]) (rest := [(.int 1)]) (m_stb l Z a0 hw G [] b1 b12 b13 b14 b15 b16 (p4 &&& (65535 : Int32)) 6 (by decide) U5.heap n0 P6 HO I6) (g := (mkF m 216 #[.val (.int p1), .val (.int p2), .val (.int p3), .val (.int p4), .val (.int p5), .val (.int p6), .val (.ref b1), .val (.ref b12), .val (.ref b13), .val (.ref b14), .val (.ref b15), .val (.ref b16), .val (.int 1)] [(.int (p4 &&& (65535 : Int32))), (.ref b16), (.ref b15), (.ref b14), (.ref b13), (.ref b12), (.ref b1), (.int 1)])) rfl (by rw [hml]; rfl) rfl (hb hby at_216) (lenOf pd8 rfl) (W := 1) (c1 := 20) (s1 := 231)
  obtain ⟨rfl, NL6, P7, I7⟩ := hQ6
  obtain ⟨T7, lc7, Y7, M7, e7, go7⟩ := lw_7 hw P7 hx hby hml hown hret hlk hZ Z6 rfl (Fr.app M6 NL6) (fun t k => go6 _ (st6 _ k))
  obtain ⟨_, U7, L7, Z7, hQ7, st7⟩ := own_cs Y7 hx hZ hown (y := yn9) (own_w hw 31 rfl) (own_w hw 32 rfl) (own_w hw 34 rfl) (own_w hw 33 rfl) e7 (argsL := [(.ref b1), (.ref b12), (.ref b13), (.ref b14), (.ref b15), (.ref b16), (.int ((p4.toUInt32 >>> ((16 : Int32) &&& 31).toUInt32).toInt32))]) (rest := [(.int 1)]) (m_stb l Z a0 hw G [] b1 b12 b13 b14 b15 b16 ((p4.toUInt32 >>> ((16 : Int32) &&& 31).toUInt32).toInt32) 7 (by decide) U6.heap n0 P7 HO I7) (g := (mkF m 240 #[.val (.int p1), .val (.int p2), .val (.int p3), .val (.int p4), .val (.int p5), .val (.int p6), .val (.ref b1), .val (.ref b12), .val (.ref b13), .val (.ref b14), .val (.ref b15), .val (.ref b16), .val (.int 1)] [(.int ((p4.toUInt32 >>> ((16 : Int32) &&& 31).toUInt32).toInt32)), (.ref b16), (.ref b15), (.ref b14), (.ref b13), (.ref b12), (.ref b1), (.int 1)])) rfl (by rw [hml]; rfl) rfl (hb hby at_240) (lenOf pd8 rfl) (W := 1) (c1 := 22) (s1 := 273)
  obtain ⟨rfl, NL7, P8, I8⟩ := hQ7
  obtain ⟨T8, lc8, Y8, M8, e8, go8⟩ := lw_8 hw P8 hx hby hml hown hret hlk hZ Z7 rfl (Fr.app M7 NL7) (fun t k => go7 _ (st7 _ k))
  obtain ⟨_, U8, L8, Z8, hQ8, st8⟩ := own_cs Y8 hx hZ hown (y := yn9) (own_w hw 31 rfl) (own_w hw 32 rfl) (own_w hw 34 rfl) (own_w hw 33 rfl) e8 (argsL := [(.ref b1), (.ref b12), (.ref b13), (.ref b14), (.ref b15), (.ref b16), (.int (p5 &&& (65535 : Int32)))]) (rest := [(.int 1)]) (m_stb l Z a0 hw G [] b1 b12 b13 b14 b15 b16 (p5 &&& (65535 : Int32)) 8 (by decide) U7.heap n0 P8 HO I8) (g := (mkF m 265 #[.val (.int p1), .val (.int p2), .val (.int p3), .val (.int p4), .val (.int p5), .val (.int p6), .val (.ref b1), .val (.ref b12), .val (.ref b13), .val (.ref b14), .val (.ref b15), .val (.ref b16), .val (.int 1)] [(.int (p5 &&& (65535 : Int32))), (.ref b16), (.ref b15), (.ref b14), (.ref b13), (.ref b12), (.ref b1), (.int 1)])) rfl (by rw [hml]; rfl) rfl (hb hby at_265) (lenOf pd8 rfl) (W := 1) (c1 := 24) (s1 := 315)
  obtain ⟨rfl, NL8, P9, I9⟩ := hQ8
  obtain ⟨T9, lc9, Y9, M9, e9, go9⟩ := lw_9 hw P9 hx hby hml hown hret hlk hZ Z8 rfl (Fr.app M8 NL8) (fun t k => go8 _ (st8 _ k))
  obtain ⟨_, U9, L9, Z9, hQ9, st9⟩ := own_cs Y9 hx hZ hown (y := yn9) (own_w hw 31 rfl) (own_w hw 32 rfl) (own_w hw 34 rfl) (own_w hw 33 rfl) e9 (argsL := [(.ref b1), (.ref b12), (.ref b13), (.ref b14), (.ref b15), (.ref b16), (.int ((p5.toUInt32 >>> ((16 : Int32) &&& 31).toUInt32).toInt32))]) (rest := [(.int 1)]) (m_stb l Z a0 hw G [] b1 b12 b13 b14 b15 b16 ((p5.toUInt32 >>> ((16 : Int32) &&& 31).toUInt32).toInt32) 9 (by decide) U8.heap n0 P9 HO I9) (g := (mkF m 290 #[.val (.int p1), .val (.int p2), .val (.int p3), .val (.int p4), .val (.int p5), .val (.int p6), .val (.ref b1), .val (.ref b12), .val (.ref b13), .val (.ref b14), .val (.ref b15), .val (.ref b16), .val (.int 1)] [(.int ((p5.toUInt32 >>> ((16 : Int32) &&& 31).toUInt32).toInt32)), (.ref b16), (.ref b15), (.ref b14), (.ref b13), (.ref b12), (.ref b1), (.int 1)])) rfl (by rw [hml]; rfl) rfl (hb hby at_290) (lenOf pd8 rfl) (W := 1) (c1 := 26) (s1 := 357)
  obtain ⟨rfl, NL9, P10, I10⟩ := hQ9
  obtain ⟨T10, lc10, Y10, M10, e10, go10⟩ := lw_10 hw P10 hx hby hml hown hret hlk hZ Z9 rfl (Fr.app M9 NL9) (fun t k => go9 _ (st9 _ k))
  obtain ⟨_, U10, L10, Z10, hQ10, st10⟩ := own_cs Y10 hx hZ hown (y := yn9) (own_w hw 31 rfl) (own_w hw 32 rfl) (own_w hw 34 rfl) (own_w hw 33 rfl) e10 (argsL := [(.ref b1), (.ref b12), (.ref b13), (.ref b14), (.ref b15), (.ref b16), (.int (p6 &&& (65535 : Int32)))]) (rest := [(.int 1)]) (m_stb l Z a0 hw G [] b1 b12 b13 b14 b15 b16 (p6 &&& (65535 : Int32)) 10 (by decide) U9.heap n0 P10 HO I10) (g := (mkF m 315 #[.val (.int p1), .val (.int p2), .val (.int p3), .val (.int p4), .val (.int p5), .val (.int p6), .val (.ref b1), .val (.ref b12), .val (.ref b13), .val (.ref b14), .val (.ref b15), .val (.ref b16), .val (.int 1)] [(.int (p6 &&& (65535 : Int32))), (.ref b16), (.ref b15), (.ref b14), (.ref b13), (.ref b12), (.ref b1), (.int 1)])) rfl (by rw [hml]; rfl) rfl (hb hby at_315) (lenOf pd8 rfl) (W := 1) (c1 := 28) (s1 := 399)
  obtain ⟨rfl, NL10, P11, I11⟩ := hQ10
  obtain ⟨T11, lc11, Y11, M11, e11, go11⟩ := lw_11 hw P11 hx hby hml hown hret hlk hZ Z10 rfl (Fr.app M10 NL10) (fun t k => go10 _ (st10 _ k))
  obtain ⟨_, U11, L11, Z11, hQ11, st11⟩ := own_cs Y11 hx hZ hown (y := yn9) (own_w hw 31 rfl) (own_w hw 32 rfl) (own_w hw 34 rfl) (own_w hw 33 rfl) e11 (argsL := [(.ref b1), (.ref b12), (.ref b13), (.ref b14), (.ref b15), (.ref b16), (.int ((p6.toUInt32 >>> ((16 : Int32) &&& 31).toUInt32).toInt32))]) (rest := [(.int 1)]) (m_stb l Z a0 hw G [] b1 b12 b13 b14 b15 b16 ((p6.toUInt32 >>> ((16 : Int32) &&& 31).toUInt32).toInt32) 11 (by decide) U10.heap n0 P11 HO I11) (g := (mkF m 340 #[.val (.int p1), .val (.int p2), .val (.int p3), .val (.int p4), .val (.int p5), .val (.int p6), .val (.ref b1), .val (.ref b12), .val (.ref b13), .val (.ref b14), .val (.ref b15), .val (.ref b16), .val (.int 1)] [(.int ((p6.toUInt32 >>> ((16 : Int32) &&& 31).toUInt32).toInt32)), (.ref b16), (.ref b15), (.ref b14), (.ref b13), (.ref b12), (.ref b1), (.int 1)])) rfl (by rw [hml]; rfl) rfl (hb hby at_340) (lenOf pd8 rfl) (W := 1) (c1 := 30) (s1 := 441)
  obtain ⟨rfl, NL11, P12, I12⟩ := hQ11
  obtain ⟨s₂, L, st, hr, he, NL, FE, -⟩ := lw_12 hw P12 hx hby hml hown hret hlk hZ Z11 rfl (Fr.app M11 NL11) (fun t k => go11 _ (st11 _ k))
  exact ⟨s₂, _, st, hr, he, _, _, rfl, ⟨rfl, NL⟩, FE⟩
set_option maxRecDepth 65536 in
set_option maxHeartbeats 40000000 in
theorem comes_1 {Post : Tables → Env → Array Value → State → Outcome → State → Prop} (hpost : ∀ tb e args s v u, (limb_1_1.after args s (.returned v) u = true ∧ limb_1_2.after args s (.returned v) u = true ∧ True) → FrameEnd s (.returned v) u (Jvm.fieldLocs frame_1_writes args s ++ Jvm.arrayLocs frame_1_arrays args s ++ Jvm.staticLocs frame_1_statics s) 56 512 → Post tb e args s (.returned v) u) :
    ArmFor flags0 classFile x code maxLocals ret World_1 tables_1 room_1 Calls_1 rest_1 Pre_1 Post := by
  intro l hfl _ _ p e ha hc hk s m args below hf hA hF happ hP
  obtain ⟨hcalls, hrest, hpre⟩ := hP
  obtain ⟨-, -, -, hnamed, -, -, -, hat⟩ := (Spec.applies_iff hf).mp happ
  obtain ⟨hg, hn⟩ := and_e (Cond.before_iff.mp (show (Jvm.Cond.and given_1 narrow_1).before args s = true from hpre))
  obtain ⟨hcount, hk0⟩ := and_e hg
  obtain ⟨hi0, hk1⟩ := and_e hk0
  obtain ⟨hi1, hk2⟩ := and_e hk1
  obtain ⟨hi2, hk3⟩ := and_e hk2
  obtain ⟨hi3, hk4⟩ := and_e hk3
  obtain ⟨hi4, hk5⟩ := and_e hk4
  have hi5 := hk5
  obtain ⟨w_a0, w_a1, w_a2, w_a3, w_a4, w_a5, rfl⟩ : ∃ w_a0 w_a1 w_a2 w_a3 w_a4 w_a5 : Value, args = #[w_a0, w_a1, w_a2, w_a3, w_a4, w_a5] := by
    have hs : args.size = 6 := by simpa [Cond.value, given_1] using hcount
    obtain ⟨L⟩ := args
    match L, hs with
    | [w_a0, w_a1, w_a2, w_a3, w_a4, w_a5], _ => exact ⟨w_a0, w_a1, w_a2, w_a3, w_a4, w_a5, rfl⟩
  have hw := fun d (hd : d ∈ tables_1) => atoms_spec (ws := Jvm.Cond.code x code maxLocals ret :: tables_1) hat d (List.mem_cons_of_mem _ hd)
  have hfit : Fit s := fun {y c} hc i hi => by
    obtain ⟨ha, rfl⟩ := Array.getElem?_eq_some_iff.mp hc
    have q := List.all_eq_true.mp ((Array.all_eq_true_iff_forall_mem.mp hF) _ (Array.getElem_mem ha)) i (List.mem_range.mpr hi)
    simpa [Array.getElem?_eq_getElem hi] using q
  obtain ⟨i0, ei0⟩ := is_v hi0
  obtain rfl : w_a0 = (.int i0) := Option.some.inj ei0
  obtain ⟨i1, ei1⟩ := is_v hi1
  obtain rfl : w_a1 = (.int i1) := Option.some.inj ei1
  obtain ⟨i2, ei2⟩ := is_v hi2
  obtain rfl : w_a2 = (.int i2) := Option.some.inj ei2
  obtain ⟨i3, ei3⟩ := is_v hi3
  obtain rfl : w_a3 = (.int i3) := Option.some.inj ei3
  obtain ⟨i4, ei4⟩ := is_v hi4
  obtain rfl : w_a4 = (.int i4) := Option.some.inj ei4
  obtain ⟨i5, ei5⟩ := is_v hi5
  obtain rfl : w_a5 = (.int i5) := Option.some.inj ei5
  obtain ⟨gl0, gr0⟩ := and_e hn
  obtain ⟨w1, ev_w1⟩ := arr_v gl0
  have S_w1 : Sta s s.heap "com/example/horn1/horn1/engine/ClauseList" "NONE" "[Lcom/example/horn1/horn1/engine/Clause;" (.ref w1) := Sta.start ev_w1 (Or.inr ⟨(own_w hw 2 rfl), (own_w hw 10 rfl)⟩)
  obtain ⟨cl_w1, Ar_w1⟩ := Arr.start ev_w1 gl0
  obtain ⟨lz_w1, ln_w1⟩ := own_len Ar_w1 ev_w1 (eqv_i rfl gr0)
  obtain ⟨kw1, hk_w1⟩ : ∃ k, k = cl_w1.cls := ⟨_, rfl⟩
  have A_w1 : Arv s s.heap w1 kw1 (.object "com/example/horn1/horn1/engine/Clause") (0 : Int32) [] .null := hk_w1 ▸ Arv.start hfit Ar_w1 lz_w1 ln_w1 (by decide) rfl trivial
  have G : GW s w1 kw1 := ⟨S_w1, A_w1⟩
  obtain ⟨n, o, h1, h2, h3, _, L, rfl, ⟨rfl, N⟩, hq⟩ := rm0 l s _ hw w1 kw1 G tables_1 i0 i1 i2 i3 i4 i5 s.heap s.heap.size (Old.start s) p e ha hc hk s m _ below hf ((Spec.applies_iff_loose hf).mp happ).1 ⟨rfl, State.Warmed39.refl s, rfl⟩ trivial
  refine ⟨n, _, h1, h2, h3, hpost _ _ _ _ _ _ ⟨Cond.after_iff.mpr rfl, Cond.after_iff.mpr (eq_i res_at (Term.int_eval (1)) rfl), trivial⟩ ⟨hq.1, hq.2.1, (hq.2.2.sift fun y hy => Or.inr (N y hy)).mono (by decide) (by decide)⟩⟩
theorem main_1_1 : Claimed_1_1 := comes_1 fun _ _ _ _ _ _ h hF => ⟨h.1, hF⟩
theorem main_1_2 : Claimed_1_2 := comes_1 fun _ _ _ _ _ _ h hF => ⟨h.2.1, hF⟩
end Jvm.Pilot.@@N@@
namespace Jvm.Pilot.@@N@@
open Jvm Jvm.ClassFile Sem Op Lib Jvm.Free Jvm.Stand Jvm.Pilot.@@N@@.Jvm.D
/-! MADE BY PROGRAM (witnessworld.py) out of the Statement's table words and the real class files: 16 classes; the members and pool entries that the words name. The judged class is class 1, her method 1. -/
namespace start1
open Jvm.ClassFile
def u (s : String) : CpInfo := .utf8 (stringToUtf16 s)
/-- a pool by its gaps: so many unusable entries, then the entry; so many at the end -/
def gap : Nat → List CpInfo → List CpInfo
  | 0, r => r
  | n + 1, r => .unusable :: gap n r
def poolList (es : List (Nat × CpInfo)) (last : Nat) : List CpInfo := es.foldr (fun e r => gap e.1 (e.2 :: r)) (gap last [])
def pool (es : List (Nat × CpInfo)) (last : Nat) : Array CpInfo := ⟨poolList es last⟩
def fileOf (pool : Array CpInfo) (this : Nat) (attrs : Array Attribute := #[]) (ms : Array MethodInfo := #[]) (fl : Nat := 33) (sup : Nat := 0) (ifs : Array Nat := #[]) (fds : Array FieldInfo := #[]) : ClassFile where
  minorVersion := 0
  majorVersion := 65
  constantPool := pool
  accessFlags := fl
  thisClass := this
  superClass := sup
  interfaces := ifs
  fields := fds
  methods := ms
  attributes := attrs
def plain (name : String) (sup : Option ClassId) : Class where
  name := name
  kind := .ordinary
  loader := none
  accessFlags := 33
  super := sup
  interfaces := #[]
  cf := none
  fields := #[]
  methods := #[]
  instanceTypes := #[]
  staticTypes := #[]
  resolved := #[]
  callSites := []
  init := .initialized
  statics := none
  mirror := none

def pool0 : Array CpInfo := pool [(5, u "<init>"), (0, u "()V"), (1, .class_ 10), (1, u "java/lang/Object")] 113

def k0c0 : Code := { maxStack := 0, maxLocals := 1, code := object_method_1_code, exceptionTable := #[], attributes := #[] }
def k0m0 : Method := { name := "<init>", desc := "()V", sig := { parameters := [], returnType := none }, accessFlags := 1, code := some k0c0 }
/-- java/lang/Object -/
def k0 : Class := { plain "java/lang/Object" none with
  accessFlags := 33
  interfaces := #[]
  cf := some (fileOf pool0 8 #[] #[{ accessFlags := 1, nameIndex := 5, descriptorIndex := 6, attributes := #[] }] 33 0 #[] #[])
  fields := #[]
  methods := #[k0m0]
  instanceTypes := #[]
  staticTypes := #[]
  resolved := Array.replicate 124 none
  statics := none }

def pool1 : Array CpInfo := pool [(2, .class_ 4), (0, .nameAndType 5 6), (0, u "java/lang/Object"), (0, u "<init>"), (0, u "()V"), (0, .class_ 8), (0, u "com/example/horn1/horn1/engine/ClauseList"), (0, .methodref 7 3), (0, .class_ 11), (0, u "com/example/horn1/horn1/engine/Template"), (0, .class_ 13), (0, u "com/example/horn1/horn1/engine/Clause"), (0, .methodref 7 15), (0, .nameAndType 16 17), (0, u "size"), (0, u "()I"), (0, .integer 65535), (0, .methodref 20 21), (0, .class_ 22), (0, .nameAndType 23 24), (0, u "com/example/horn1/horn1/engine/ClauseListSizePinLaw"), (0, u "step"), (0, u "(Lcom/example/horn1/horn1/engine/ClauseList;[Lcom/example/horn1/horn1/engine/Template;[Lcom/example/horn1/horn1/engine/Clause;[Z[I[II)Z"), (0, .methodref 12 26), (0, .nameAndType 5 27), (0, u "([Lcom/example/horn1/horn1/engine/Template;[Lcom/example/horn1/horn1/engine/Template;[Lcom/example/horn1/horn1/engine/Predicate;Lcom/example/horn1/horn1/engine/Template;I)V"), (0, .methodref 7 29), (0, .nameAndType 30 31), (0, u "addLast"), (0, u "(Lcom/example/horn1/horn1/engine/Clause;)V"), (0, .methodref 7 33), (0, .nameAndType 34 31), (0, u "addFirst"), (0, .methodref 7 36), (0, .nameAndType 37 38), (0, u "remove"), (0, u "(Lcom/example/horn1/horn1/engine/Clause;J)V"), (0, .methodref 7 40), (0, .nameAndType 41 42), (0, u "removeAll"), (0, u "(J)V"), (2, u "law"), (0, u "(IIIIII)Z")] 11

def k1m0 : Method := { name := "<init>", desc := "()V", sig := { parameters := [], returnType := none }, accessFlags := 1, code := none }
def k1c1 : Code := { maxStack := 9, maxLocals := 13, code := code, exceptionTable := #[], attributes := #[] }
def k1m1 : Method := { name := "law", desc := "(IIIIII)Z", sig := { parameters := [.int, .int, .int, .int, .int, .int], returnType := some .boolean }, accessFlags := 9, code := some k1c1 }
def k1c2 : Code := { maxStack := 7, maxLocals := 10, code := method_3_code, exceptionTable := #[], attributes := #[] }
def k1m2 : Method := { name := "step", desc := "(Lcom/example/horn1/horn1/engine/ClauseList;[Lcom/example/horn1/horn1/engine/Template;[Lcom/example/horn1/horn1/engine/Clause;[Z[I[II)Z", sig := { parameters := [(.object "com/example/horn1/horn1/engine/ClauseList"), (.array (.object "com/example/horn1/horn1/engine/Template")), (.array (.object "com/example/horn1/horn1/engine/Clause")), (.array .boolean), (.array .int), (.array .int), .int], returnType := some .boolean }, accessFlags := 10, code := some k1c2 }
/-- com/example/horn1/horn1/engine/ClauseListSizePinLaw -/
def k1 : Class := { plain "com/example/horn1/horn1/engine/ClauseListSizePinLaw" (some 0) with
  accessFlags := 49
  interfaces := #[]
  cf := some (fileOf pool1 20 #[] #[{ accessFlags := 1, nameIndex := 5, descriptorIndex := 6, attributes := #[] }, { accessFlags := 9, nameIndex := 45, descriptorIndex := 46, attributes := #[] }, { accessFlags := 10, nameIndex := 23, descriptorIndex := 24, attributes := #[] }] 49 2 #[] #[])
  fields := #[]
  methods := #[k1m0, k1m1, k1m2]
  instanceTypes := #[]
  staticTypes := #[]
  resolved := Array.replicate 58 none
  statics := none }

def pool2 : Array CpInfo := pool [(1, .methodref 2 3), (0, .class_ 4), (0, .nameAndType 5 6), (0, u "java/lang/Object"), (0, u "<init>"), (0, u "()V"), (0, .fieldref 8 9), (0, .class_ 10), (0, .nameAndType 11 12), (0, u "com/example/horn1/horn1/engine/ClauseList"), (0, u "NONE"), (0, u "[Lcom/example/horn1/horn1/engine/Clause;"), (0, .fieldref 8 14), (0, .nameAndType 15 12), (0, u "slots"), (0, .fieldref 8 17), (0, .nameAndType 18 19), (0, u "first"), (0, u "I"), (0, .fieldref 8 21), (0, .nameAndType 22 19), (0, u "end"), (0, .fieldref 8 24), (0, .nameAndType 25 19), (0, u "removed"), (0, .methodref 8 27), (0, .nameAndType 28 6), (0, u "move"), (0, .fieldref 8 30), (0, .nameAndType 31 32), (0, u "addsFirst"), (0, u "Z"), (0, .fieldref 8 34), (0, .nameAndType 35 19), (0, u "low"), (0, .methodref 37 38), (0, .class_ 39), (0, .nameAndType 40 41), (0, u "com/example/horn1/horn1/engine/Clause"), (0, u "remove"), (0, u "(J)V"), (0, .methodref 37 43), (0, .nameAndType 44 45), (0, u "isLive"), (0, u "()Z"), (0, .methodref 8 47), (0, .nameAndType 48 49), (0, u "size"), (0, u "()I"), (0, .methodref 51 52), (0, .class_ 53), (0, .nameAndType 54 55), (0, u "java/lang/Math"), (0, u "max"), (0, u "(II)I"), (0, u "ROOM"), (5, u "addLast"), (0, u "(Lcom/example/horn1/horn1/engine/Clause;)V"), (1, u "addFirst"), (0, u "(Lcom/example/horn1/horn1/engine/Clause;J)V"), (0, u "removeAll")] 4

def k2c0 : Code := { maxStack := 2, maxLocals := 1, code := prog_41_method_1_code, exceptionTable := #[], attributes := #[] }
def k2m0 : Method := { name := "<init>", desc := "()V", sig := { parameters := [], returnType := none }, accessFlags := 0, code := some k2c0 }
def k2c1 : Code := { maxStack := 2, maxLocals := 1, code := prog_41_method_5_code, exceptionTable := #[], attributes := #[] }
def k2m1 : Method := { name := "size", desc := "()I", sig := { parameters := [], returnType := some .int }, accessFlags := 0, code := some k2c1 }
def k2c2 : Code := { maxStack := 3, maxLocals := 2, code := prog_41_method_6_code, exceptionTable := #[], attributes := #[] }
def k2m2 : Method := { name := "addLast", desc := "(Lcom/example/horn1/horn1/engine/Clause;)V", sig := { parameters := [(.object "com/example/horn1/horn1/engine/Clause")], returnType := none }, accessFlags := 0, code := some k2c2 }
def k2c3 : Code := { maxStack := 4, maxLocals := 2, code := prog_41_method_7_code, exceptionTable := #[], attributes := #[] }
def k2m3 : Method := { name := "addFirst", desc := "(Lcom/example/horn1/horn1/engine/Clause;)V", sig := { parameters := [(.object "com/example/horn1/horn1/engine/Clause")], returnType := none }, accessFlags := 0, code := some k2c3 }
def k2c4 : Code := { maxStack := 3, maxLocals := 4, code := prog_41_method_8_code, exceptionTable := #[], attributes := #[] }
def k2m4 : Method := { name := "remove", desc := "(Lcom/example/horn1/horn1/engine/Clause;J)V", sig := { parameters := [(.object "com/example/horn1/horn1/engine/Clause"), .long], returnType := none }, accessFlags := 0, code := some k2c4 }
def k2c5 : Code := { maxStack := 3, maxLocals := 4, code := prog_41_method_9_code, exceptionTable := #[], attributes := #[] }
def k2m5 : Method := { name := "removeAll", desc := "(J)V", sig := { parameters := [.long], returnType := none }, accessFlags := 0, code := some k2c5 }
def k2c6 : Code := { maxStack := 4, maxLocals := 7, code := prog_41_method_10_code, exceptionTable := #[], attributes := #[] }
def k2m6 : Method := { name := "move", desc := "()V", sig := { parameters := [], returnType := none }, accessFlags := 2, code := some k2c6 }
/-- com/example/horn1/horn1/engine/ClauseList -/
def k2 : Class := { plain "com/example/horn1/horn1/engine/ClauseList" (some 0) with
  accessFlags := 48
  interfaces := #[]
  cf := some (fileOf pool2 8 #[] #[{ accessFlags := 0, nameIndex := 5, descriptorIndex := 6, attributes := #[] }, { accessFlags := 0, nameIndex := 48, descriptorIndex := 49, attributes := #[] }, { accessFlags := 0, nameIndex := 62, descriptorIndex := 63, attributes := #[] }, { accessFlags := 0, nameIndex := 65, descriptorIndex := 63, attributes := #[] }, { accessFlags := 0, nameIndex := 40, descriptorIndex := 66, attributes := #[] }, { accessFlags := 0, nameIndex := 67, descriptorIndex := 41, attributes := #[] }, { accessFlags := 2, nameIndex := 28, descriptorIndex := 6, attributes := #[] }] 48 2 #[] #[{ accessFlags := 26, nameIndex := 11, descriptorIndex := 12, attributes := #[] }, { accessFlags := 26, nameIndex := 56, descriptorIndex := 19, attributes := #[] }, { accessFlags := 2, nameIndex := 15, descriptorIndex := 12, attributes := #[] }, { accessFlags := 2, nameIndex := 35, descriptorIndex := 19, attributes := #[] }, { accessFlags := 2, nameIndex := 18, descriptorIndex := 19, attributes := #[] }, { accessFlags := 2, nameIndex := 22, descriptorIndex := 19, attributes := #[] }, { accessFlags := 2, nameIndex := 25, descriptorIndex := 19, attributes := #[] }, { accessFlags := 2, nameIndex := 31, descriptorIndex := 32, attributes := #[] }])
  fields := #[{ name := "NONE", type := (.array (.object "com/example/horn1/horn1/engine/Clause")), accessFlags := 26, slot := 0, constantValue := 0 }, { name := "ROOM", type := .int, accessFlags := 26, slot := 1, constantValue := 0 }, { name := "slots", type := (.array (.object "com/example/horn1/horn1/engine/Clause")), accessFlags := 2, slot := 0, constantValue := 0 }, { name := "low", type := .int, accessFlags := 2, slot := 1, constantValue := 0 }, { name := "first", type := .int, accessFlags := 2, slot := 2, constantValue := 0 }, { name := "end", type := .int, accessFlags := 2, slot := 3, constantValue := 0 }, { name := "removed", type := .int, accessFlags := 2, slot := 4, constantValue := 0 }, { name := "addsFirst", type := .boolean, accessFlags := 2, slot := 5, constantValue := 0 }]
  methods := #[k2m0, k2m1, k2m2, k2m3, k2m4, k2m5, k2m6]
  instanceTypes := #[(.array (.object "com/example/horn1/horn1/engine/Clause")), .int, .int, .int, .int, .boolean]
  staticTypes := #[(.array (.object "com/example/horn1/horn1/engine/Clause")), .int]
  resolved := Array.replicate 72 none
  statics := some 0 }

def pool3 : Array CpInfo := pool [(2, .class_ 4), (1, u "java/lang/Object"), (0, u "<init>"), (0, u "()V"), (0, .class_ 8), (0, u "com/example/horn1/horn1/engine/Template"), (5, .class_ 15), (0, u "com/example/horn1/horn1/engine/Template$Structure"), (0, .class_ 17), (0, u "com/example/horn1/horn1/engine/Template$Slot"), (0, .class_ 19), (0, u "com/example/horn1/horn1/engine/Template$Constant")] 5

def k3m0 : Method := { name := "<init>", desc := "()V", sig := { parameters := [], returnType := none }, accessFlags := 0, code := none }
/-- com/example/horn1/horn1/engine/Template -/
def k3 : Class := { plain "com/example/horn1/horn1/engine/Template" (some 0) with
  accessFlags := 1056
  interfaces := #[]
  cf := some (fileOf pool3 7 #[.nestMembers #[14, 16, 18]] #[{ accessFlags := 0, nameIndex := 5, descriptorIndex := 6, attributes := #[] }] 1056 2 #[] #[])
  fields := #[]
  methods := #[k3m0]
  instanceTypes := #[]
  staticTypes := #[]
  resolved := Array.replicate 25 none
  statics := none }

def pool4 : Array CpInfo := pool [(3, .methodref 4 5), (0, .class_ 6), (0, .nameAndType 7 8), (0, u "java/lang/Object"), (0, u "<init>"), (0, u "()V"), (0, .class_ 10), (0, u "com/example/horn1/horn1/engine/Clause"), (0, .long 9223372036854775807), (1, .fieldref 9 14), (0, .nameAndType 15 16), (0, u "removed"), (0, u "J"), (0, .fieldref 9 18), (0, .nameAndType 19 20), (0, u "head"), (0, u "[Lcom/example/horn1/horn1/engine/Template;"), (0, .fieldref 9 22), (0, .nameAndType 23 20), (0, u "goals"), (0, .fieldref 9 25), (0, .nameAndType 26 27), (0, u "goalPredicates"), (0, u "[Lcom/example/horn1/horn1/engine/Predicate;"), (0, .fieldref 9 29), (0, .nameAndType 30 31), (0, u "body"), (0, u "Lcom/example/horn1/horn1/engine/Template;"), (0, .fieldref 9 33), (0, .nameAndType 34 35), (0, u "variables"), (0, u "I"), (5, u "Lcom/example/horn1/horn1/term/Term;"), (2, .fieldref 9 45), (0, .nameAndType 46 41), (0, u "keyConstant"), (4, .fieldref 9 52), (0, .nameAndType 53 54), (0, u "keyName"), (0, u "Lcom/example/horn1/horn1/term/Atom;"), (4, .fieldref 9 60), (0, .nameAndType 61 35), (0, u "keyArity"), (23, u "LIVE"), (1, u "([Lcom/example/horn1/horn1/engine/Template;[Lcom/example/horn1/horn1/engine/Template;[Lcom/example/horn1/horn1/engine/Predicate;Lcom/example/horn1/horn1/engine/Template;I)V"), (10, u "isLive"), (0, u "()Z"), (2, u "remove"), (0, u "(J)V")] 9

def k4c0 : Code := { maxStack := 3, maxLocals := 10, code := prog_40_method_1_code, exceptionTable := #[], attributes := #[] }
def k4m0 : Method := { name := "<init>", desc := "([Lcom/example/horn1/horn1/engine/Template;[Lcom/example/horn1/horn1/engine/Template;[Lcom/example/horn1/horn1/engine/Predicate;Lcom/example/horn1/horn1/engine/Template;I)V", sig := { parameters := [(.array (.object "com/example/horn1/horn1/engine/Template")), (.array (.object "com/example/horn1/horn1/engine/Template")), (.array (.object "com/example/horn1/horn1/engine/Predicate")), (.object "com/example/horn1/horn1/engine/Template"), .int], returnType := none }, accessFlags := 0, code := some k4c0 }
def k4c1 : Code := { maxStack := 4, maxLocals := 1, code := prog_40_method_7_code, exceptionTable := #[], attributes := #[] }
def k4m1 : Method := { name := "isLive", desc := "()Z", sig := { parameters := [], returnType := some .boolean }, accessFlags := 0, code := some k4c1 }
def k4c2 : Code := { maxStack := 3, maxLocals := 3, code := prog_40_method_9_code, exceptionTable := #[], attributes := #[] }
def k4m2 : Method := { name := "remove", desc := "(J)V", sig := { parameters := [.long], returnType := none }, accessFlags := 0, code := some k4c2 }
/-- com/example/horn1/horn1/engine/Clause -/
def k4 : Class := { plain "com/example/horn1/horn1/engine/Clause" (some 0) with
  accessFlags := 48
  interfaces := #[]
  cf := some (fileOf pool4 9 #[] #[{ accessFlags := 0, nameIndex := 7, descriptorIndex := 87, attributes := #[] }, { accessFlags := 0, nameIndex := 98, descriptorIndex := 99, attributes := #[] }, { accessFlags := 0, nameIndex := 102, descriptorIndex := 103, attributes := #[] }] 48 4 #[] #[{ accessFlags := 26, nameIndex := 85, descriptorIndex := 16, attributes := #[] }, { accessFlags := 18, nameIndex := 19, descriptorIndex := 20, attributes := #[] }, { accessFlags := 18, nameIndex := 23, descriptorIndex := 20, attributes := #[] }, { accessFlags := 18, nameIndex := 26, descriptorIndex := 27, attributes := #[] }, { accessFlags := 18, nameIndex := 30, descriptorIndex := 31, attributes := #[] }, { accessFlags := 18, nameIndex := 34, descriptorIndex := 35, attributes := #[] }, { accessFlags := 18, nameIndex := 46, descriptorIndex := 41, attributes := #[] }, { accessFlags := 18, nameIndex := 53, descriptorIndex := 54, attributes := #[] }, { accessFlags := 18, nameIndex := 61, descriptorIndex := 35, attributes := #[] }, { accessFlags := 2, nameIndex := 15, descriptorIndex := 16, attributes := #[] }])
  fields := #[{ name := "LIVE", type := .long, accessFlags := 26, slot := 0, constantValue := 0 }, { name := "head", type := (.array (.object "com/example/horn1/horn1/engine/Template")), accessFlags := 18, slot := 0, constantValue := 0 }, { name := "goals", type := (.array (.object "com/example/horn1/horn1/engine/Template")), accessFlags := 18, slot := 1, constantValue := 0 }, { name := "goalPredicates", type := (.array (.object "com/example/horn1/horn1/engine/Predicate")), accessFlags := 18, slot := 2, constantValue := 0 }, { name := "body", type := (.object "com/example/horn1/horn1/engine/Template"), accessFlags := 18, slot := 3, constantValue := 0 }, { name := "variables", type := .int, accessFlags := 18, slot := 4, constantValue := 0 }, { name := "keyConstant", type := (.object "com/example/horn1/horn1/term/Term"), accessFlags := 18, slot := 5, constantValue := 0 }, { name := "keyName", type := (.object "com/example/horn1/horn1/term/Atom"), accessFlags := 18, slot := 6, constantValue := 0 }, { name := "keyArity", type := .int, accessFlags := 18, slot := 7, constantValue := 0 }, { name := "removed", type := .long, accessFlags := 2, slot := 8, constantValue := 0 }]
  methods := #[k4m0, k4m1, k4m2]
  instanceTypes := #[(.array (.object "com/example/horn1/horn1/engine/Template")), (.array (.object "com/example/horn1/horn1/engine/Template")), (.array (.object "com/example/horn1/horn1/engine/Predicate")), (.object "com/example/horn1/horn1/engine/Template"), .int, (.object "com/example/horn1/horn1/term/Term"), (.object "com/example/horn1/horn1/term/Atom"), .int, .long]
  staticTypes := #[.long]
  resolved := Array.replicate 113 none
  statics := none }

def pool5 : Array CpInfo := pool [(1, .class_ 2), (0, u "java/lang/Math"), (1, .class_ 6), (1, u "java/lang/Object"), (0, u "<init>"), (0, u "()V"), (89, .class_ 100), (1, u "java/lang/Math$RandomNumberGeneratorHolder"), (71, u "negativeZeroFloatBits"), (0, u "J"), (2, u "negativeZeroDoubleBits"), (21, u "max"), (46, u "$assertionsDisabled"), (0, u "Z"), (88, u "(II)I"), (2, u "twoToTheDoubleScaleDown"), (0, u "D"), (4, u "twoToTheDoubleScaleUp"), (9, u "E"), (3, u "PI"), (2, u "TAU"), (2, u "DEGREES_TO_RADIANS"), (0, u "RADIANS_TO_DEGREES")] 94

def k5m0 : Method := { name := "<init>", desc := "()V", sig := { parameters := [], returnType := none }, accessFlags := 2, code := none }
def k5c1 : Code := { maxStack := 2, maxLocals := 2, code := jdk_29_method_65_code, exceptionTable := #[], attributes := #[] }
def k5m1 : Method := { name := "max", desc := "(II)I", sig := { parameters := [.int, .int], returnType := some .int }, accessFlags := 9, code := some k5c1 }
/-- java/lang/Math -/
def k5 : Class := { plain "java/lang/Math" (some 0) with
  accessFlags := 49
  interfaces := #[]
  cf := some (fileOf pool5 1 #[.nestMembers #[98]] #[{ accessFlags := 2, nameIndex := 7, descriptorIndex := 8, attributes := #[] }, { accessFlags := 9, nameIndex := 198, descriptorIndex := 335, attributes := #[] }] 49 4 #[] #[{ accessFlags := 25, nameIndex := 354, descriptorIndex := 339, attributes := #[] }, { accessFlags := 25, nameIndex := 358, descriptorIndex := 339, attributes := #[] }, { accessFlags := 25, nameIndex := 361, descriptorIndex := 339, attributes := #[] }, { accessFlags := 26, nameIndex := 364, descriptorIndex := 339, attributes := #[] }, { accessFlags := 26, nameIndex := 365, descriptorIndex := 339, attributes := #[] }, { accessFlags := 26, nameIndex := 172, descriptorIndex := 173, attributes := #[] }, { accessFlags := 26, nameIndex := 176, descriptorIndex := 173, attributes := #[] }, { accessFlags := 8, nameIndex := 344, descriptorIndex := 339, attributes := #[] }, { accessFlags := 8, nameIndex := 338, descriptorIndex := 339, attributes := #[] }, { accessFlags := 4120, nameIndex := 245, descriptorIndex := 246, attributes := #[] }])
  fields := #[{ name := "E", type := .double, accessFlags := 25, slot := 0, constantValue := 0 }, { name := "PI", type := .double, accessFlags := 25, slot := 1, constantValue := 0 }, { name := "TAU", type := .double, accessFlags := 25, slot := 2, constantValue := 0 }, { name := "DEGREES_TO_RADIANS", type := .double, accessFlags := 26, slot := 3, constantValue := 0 }, { name := "RADIANS_TO_DEGREES", type := .double, accessFlags := 26, slot := 4, constantValue := 0 }, { name := "negativeZeroFloatBits", type := .long, accessFlags := 26, slot := 5, constantValue := 0 }, { name := "negativeZeroDoubleBits", type := .long, accessFlags := 26, slot := 6, constantValue := 0 }, { name := "twoToTheDoubleScaleUp", type := .double, accessFlags := 8, slot := 7, constantValue := 0 }, { name := "twoToTheDoubleScaleDown", type := .double, accessFlags := 8, slot := 8, constantValue := 0 }, { name := "$assertionsDisabled", type := .boolean, accessFlags := 4120, slot := 9, constantValue := 0 }]
  methods := #[k5m0, k5m1]
  instanceTypes := #[]
  staticTypes := #[.double, .double, .double, .double, .double, .long, .long, .double, .double, .boolean]
  resolved := Array.replicate 460 none
  statics := none }

def pool6 : Array CpInfo := pool [(1, u "java/lang/Cloneable"), (0, .class_ 1), (0, u "java/lang/Object"), (0, .class_ 3)] 3

/-- java/lang/Cloneable -/
def k6 : Class := { plain "java/lang/Cloneable" (some 0) with
  accessFlags := 1537
  interfaces := #[]
  cf := some (fileOf pool6 2 #[] #[] 1537 4 #[] #[])
  fields := #[]
  methods := #[]
  instanceTypes := #[]
  staticTypes := #[]
  resolved := Array.replicate 8 none
  statics := none }

def pool7 : Array CpInfo := pool [(1, u "java/io/Serializable"), (0, .class_ 1), (0, u "java/lang/Object"), (0, .class_ 3)] 3

/-- java/io/Serializable -/
def k7 : Class := { plain "java/io/Serializable" (some 0) with
  accessFlags := 1537
  interfaces := #[]
  cf := some (fileOf pool7 2 #[] #[] 1537 4 #[] #[])
  fields := #[]
  methods := #[]
  instanceTypes := #[]
  staticTypes := #[]
  resolved := Array.replicate 8 none
  statics := none }

/-- the primitive boolean -/
def k8 : Class := { plain "boolean" none with kind := .primitive 'Z', accessFlags := 0x411 }
/-- [Z -/
def k9 : Class := { plain "[Z" (some 0) with kind := .array 8 .boolean, interfaces := #[6, 7], accessFlags := 1041 }

/-- the primitive byte -/
def k10 : Class := { plain "byte" none with kind := .primitive 'B', accessFlags := 0x411 }
/-- [B -/
def k11 : Class := { plain "[B" (some 0) with kind := .array 10 .byte, interfaces := #[6, 7], accessFlags := 1041 }

/-- the primitive int -/
def k12 : Class := { plain "int" none with kind := .primitive 'I', accessFlags := 0x411 }
/-- [I -/
def k13 : Class := { plain "[I" (some 0) with kind := .array 12 .int, interfaces := #[6, 7], accessFlags := 1041 }

/-- [Lcom/example/horn1/horn1/engine/Clause; -/
def k14 : Class := { plain "[Lcom/example/horn1/horn1/engine/Clause;" (some 0) with kind := .array 4 (.object "com/example/horn1/horn1/engine/Clause"), interfaces := #[6, 7], accessFlags := 1041 }

/-- [Lcom/example/horn1/horn1/engine/Template; -/
def k15 : Class := { plain "[Lcom/example/horn1/horn1/engine/Template;" (some 0) with kind := .array 3 (.object "com/example/horn1/horn1/engine/Template"), interfaces := #[6, 7], accessFlags := 1041 }

def heap : Heap := #[{ cls := 2, slots := #[.ref 1, .int 0], vm := .statics 2 },
  { cls := 14, slots := #[], vm := .none }]
def classes : Array Class := #[k0, k1, k2, k3, k4, k5, k6, k7, k8, k9, k10, k11, k12, k13, k14, k15]
def interned : List (Array UInt16 × Addr) := []
def slotsUsed : Nat := 2
def theMethod : MethodId := ⟨1, 1⟩
def args0 : Array Value := #[.int 5, .int 5, .int 5, .int 5, .int 5, .int 5]
def aboutOver (below : List Frame) : State where
  vm := { classes := classes, interned := interned.toArray }
  heap := heap
  slotsUsed := slotsUsed
  threads := #[{ frames := .invoking theMethod args0 :: below }]
def below0 : List Frame := [.native { method := ⟨0, 0⟩, args := #[] }]
def about1 : State := aboutOver below0
def p0 : Program := .bare "" "" ""
def e0 : Env := launch0.env 0 0 0
theorem w_frames : about1.frames = Frame.invoking theMethod args0 :: below0 := rfl
set_option maxRecDepth 65536 in
theorem w_args : argsFit about1.vm theMethod args0 = true := by decide +kernel
set_option maxRecDepth 65536 in
theorem w_heap : heapFits about1 = true := by decide +kernel
set_option maxRecDepth 65536 in
theorem w_runnable : about1.curStatus? = some .runnable := by decide +kernel
set_option maxRecDepth 65536 in
theorem w_alone : about1.alone = true := by decide +kernel
set_option maxRecDepth 65536 in
theorem w_named : about1.methodNamed? x = some theMethod := by decide +kernel
set_option maxRecDepth 65536 in
theorem w_hears : about1.hears theMethod below0 = true := by decide +kernel
set_option maxRecDepth 65536 in
theorem w_ripe : about1.ripe theMethod args0 below0 = true := by decide +kernel
theorem w_running : about1.status = .running := rfl
set_option maxRecDepth 65536 in
theorem w_room : about1.hasRoom e0.platform room_1 = true :=
  launch0.hasRoom_least _ room_1 (by decide +kernel) (by decide +kernel) (by decide +kernel) (by decide +kernel) (by decide +kernel) (by decide +kernel)
theorem allAtoms_all (ts : List Jvm.Cond) (a : Array Jvm.Value) (st : Jvm.State) : (allAtoms ts).before a st = ts.all (fun c => c.before a st) := by
  induction ts with
  | nil => rfl
  | cons c t ih =>
    show (Jvm.Cond.and c (allAtoms t)).before a st = _
    rw [Jvm.Cond.before_and, ih, List.all_cons]
def words1 : List Jvm.Cond := Jvm.Cond.code x code maxLocals ret :: tables_1
/-- a 'code' word, met by the world's own term for the bytes: nothing is compared byte by byte -/
theorem code_word {y : MethodName} {bytes : ByteArray} {mx : Nat} {rt : Option FieldType} {a : Array Value} {s : State} {m : MethodId} {meth : Method} {c : Code} (h1 : s.methodNamed? y = some m) (h2 : s.vm.method? m = some meth) (h3 : meth.code = some c) (h4 : c.code = bytes)
    (h5 : (c.maxLocals == mx && c.exceptionTable.isEmpty && decide (c.maxStack ≤ mostOperands) && decide (meth.sig.returnType = rt) && !meth.locks && decide (parseMethodDescriptor y.desc = some meth.sig)) = true) : (Jvm.Cond.code y bytes mx rt).before a s = true := by
  simp only [Bool.and_eq_true, beq_iff_eq, Bool.not_eq_true', decide_eq_true_eq] at h5
  obtain ⟨⟨⟨⟨⟨g1, g2⟩, g3⟩, g4⟩, g5⟩, g6⟩ := h5
  simp [Cond.before, Cond.holds, Cond.value, h1, h2, h3, h4, g1, g2, g3, g4, g5, g6]
def isCode : Jvm.Cond → Bool
  | .code _ _ _ _ => true
  | _ => false
theorem all_split {L : List Jvm.Cond} {P : Jvm.Cond → Bool} (h1 : L.all (fun c => isCode c || P c) = true) (h2 : ∀ c ∈ L.filter isCode, P c = true) : L.all P = true := by
  refine List.all_eq_true.mpr fun c hc => ?_
  have h := List.all_eq_true.mp h1 c hc
  rcases Bool.eq_false_or_eq_true (isCode c) with hi | hi
  · exact h2 c (List.mem_filter.mpr ⟨hc, hi⟩)
  · simpa [hi] using h
set_option maxRecDepth 65536 in
theorem w_c0 : (Jvm.Cond.code x code maxLocals ret).before args0 about1 = true := code_word (m := ⟨1, 1⟩) (meth := k1m1) (c := k1c1) (by decide +kernel) rfl rfl rfl (by decide +kernel)
set_option maxRecDepth 65536 in
theorem w_c1 : (Jvm.Cond.code ({ cls := "com/example/horn1/horn1/engine/ClauseList", name := "<init>", desc := "()V" } : Jvm.MethodName) prog_41_method_1_code (1 : Nat) (Option.none : Option Jvm.ClassFile.FieldType)).before args0 about1 = true := code_word (m := ⟨2, 0⟩) (meth := k2m0) (c := k2c0) (by decide +kernel) rfl rfl rfl (by decide +kernel)
set_option maxRecDepth 65536 in
theorem w_c2 : (Jvm.Cond.code ({ cls := "java/lang/Object", name := "<init>", desc := "()V" } : Jvm.MethodName) object_method_1_code (1 : Nat) (Option.none : Option Jvm.ClassFile.FieldType)).before args0 about1 = true := code_word (m := ⟨0, 0⟩) (meth := k0m0) (c := k0c0) (by decide +kernel) rfl rfl rfl (by decide +kernel)
set_option maxRecDepth 65536 in
theorem w_c3 : (Jvm.Cond.code ({ cls := "com/example/horn1/horn1/engine/ClauseList", name := "size", desc := "()I" } : Jvm.MethodName) prog_41_method_5_code (1 : Nat) (Option.some Jvm.ClassFile.FieldType.int)).before args0 about1 = true := code_word (m := ⟨2, 1⟩) (meth := k2m1) (c := k2c1) (by decide +kernel) rfl rfl rfl (by decide +kernel)
set_option maxRecDepth 65536 in
theorem w_c4 : (Jvm.Cond.code ({ cls := "com/example/horn1/horn1/engine/ClauseListSizePinLaw", name := "step", desc := "(Lcom/example/horn1/horn1/engine/ClauseList;[Lcom/example/horn1/horn1/engine/Template;[Lcom/example/horn1/horn1/engine/Clause;[Z[I[II)Z" } : Jvm.MethodName) method_3_code (10 : Nat) (Option.some Jvm.ClassFile.FieldType.boolean)).before args0 about1 = true := code_word (m := ⟨1, 2⟩) (meth := k1m2) (c := k1c2) (by decide +kernel) rfl rfl rfl (by decide +kernel)
set_option maxRecDepth 65536 in
theorem w_c5 : (Jvm.Cond.code ({ cls := "com/example/horn1/horn1/engine/Clause", name := "<init>", desc := "([Lcom/example/horn1/horn1/engine/Template;[Lcom/example/horn1/horn1/engine/Template;[Lcom/example/horn1/horn1/engine/Predicate;Lcom/example/horn1/horn1/engine/Template;I)V" } : Jvm.MethodName) prog_40_method_1_code (10 : Nat) (Option.none : Option Jvm.ClassFile.FieldType)).before args0 about1 = true := code_word (m := ⟨4, 0⟩) (meth := k4m0) (c := k4c0) (by decide +kernel) rfl rfl rfl (by decide +kernel)
set_option maxRecDepth 65536 in
theorem w_c6 : (Jvm.Cond.code ({ cls := "com/example/horn1/horn1/engine/ClauseList", name := "addLast", desc := "(Lcom/example/horn1/horn1/engine/Clause;)V" } : Jvm.MethodName) prog_41_method_6_code (2 : Nat) (Option.none : Option Jvm.ClassFile.FieldType)).before args0 about1 = true := code_word (m := ⟨2, 2⟩) (meth := k2m2) (c := k2c2) (by decide +kernel) rfl rfl rfl (by decide +kernel)
set_option maxRecDepth 65536 in
theorem w_c7 : (Jvm.Cond.code ({ cls := "com/example/horn1/horn1/engine/ClauseList", name := "move", desc := "()V" } : Jvm.MethodName) prog_41_method_10_code (7 : Nat) (Option.none : Option Jvm.ClassFile.FieldType)).before args0 about1 = true := code_word (m := ⟨2, 6⟩) (meth := k2m6) (c := k2c6) (by decide +kernel) rfl rfl rfl (by decide +kernel)
set_option maxRecDepth 65536 in
theorem w_c8 : (Jvm.Cond.code ({ cls := "java/lang/Math", name := "max", desc := "(II)I" } : Jvm.MethodName) jdk_29_method_65_code (2 : Nat) (Option.some Jvm.ClassFile.FieldType.int)).before args0 about1 = true := code_word (m := ⟨5, 1⟩) (meth := k5m1) (c := k5c1) (by decide +kernel) rfl rfl rfl (by decide +kernel)
set_option maxRecDepth 65536 in
theorem w_c9 : (Jvm.Cond.code ({ cls := "com/example/horn1/horn1/engine/ClauseList", name := "addFirst", desc := "(Lcom/example/horn1/horn1/engine/Clause;)V" } : Jvm.MethodName) prog_41_method_7_code (2 : Nat) (Option.none : Option Jvm.ClassFile.FieldType)).before args0 about1 = true := code_word (m := ⟨2, 3⟩) (meth := k2m3) (c := k2c3) (by decide +kernel) rfl rfl rfl (by decide +kernel)
set_option maxRecDepth 65536 in
theorem w_c10 : (Jvm.Cond.code ({ cls := "com/example/horn1/horn1/engine/Clause", name := "isLive", desc := "()Z" } : Jvm.MethodName) prog_40_method_7_code (1 : Nat) (Option.some Jvm.ClassFile.FieldType.boolean)).before args0 about1 = true := code_word (m := ⟨4, 1⟩) (meth := k4m1) (c := k4c1) (by decide +kernel) rfl rfl rfl (by decide +kernel)
set_option maxRecDepth 65536 in
theorem w_c11 : (Jvm.Cond.code ({ cls := "com/example/horn1/horn1/engine/ClauseList", name := "removeAll", desc := "(J)V" } : Jvm.MethodName) prog_41_method_9_code (4 : Nat) (Option.none : Option Jvm.ClassFile.FieldType)).before args0 about1 = true := code_word (m := ⟨2, 5⟩) (meth := k2m5) (c := k2c5) (by decide +kernel) rfl rfl rfl (by decide +kernel)
set_option maxRecDepth 65536 in
theorem w_c12 : (Jvm.Cond.code ({ cls := "com/example/horn1/horn1/engine/Clause", name := "remove", desc := "(J)V" } : Jvm.MethodName) prog_40_method_9_code (3 : Nat) (Option.none : Option Jvm.ClassFile.FieldType)).before args0 about1 = true := code_word (m := ⟨4, 2⟩) (meth := k4m2) (c := k4c2) (by decide +kernel) rfl rfl rfl (by decide +kernel)
set_option maxRecDepth 65536 in
theorem w_c13 : (Jvm.Cond.code ({ cls := "com/example/horn1/horn1/engine/ClauseList", name := "remove", desc := "(Lcom/example/horn1/horn1/engine/Clause;J)V" } : Jvm.MethodName) prog_41_method_8_code (4 : Nat) (Option.none : Option Jvm.ClassFile.FieldType)).before args0 about1 = true := code_word (m := ⟨2, 4⟩) (meth := k2m4) (c := k2c4) (by decide +kernel) rfl rfl rfl (by decide +kernel)
def codes1 : List Jvm.Cond := [Jvm.Cond.code x code maxLocals ret, Jvm.Cond.code ({ cls := "com/example/horn1/horn1/engine/ClauseList", name := "<init>", desc := "()V" } : Jvm.MethodName) prog_41_method_1_code (1 : Nat) (Option.none : Option Jvm.ClassFile.FieldType), Jvm.Cond.code ({ cls := "java/lang/Object", name := "<init>", desc := "()V" } : Jvm.MethodName) object_method_1_code (1 : Nat) (Option.none : Option Jvm.ClassFile.FieldType), Jvm.Cond.code ({ cls := "com/example/horn1/horn1/engine/ClauseList", name := "size", desc := "()I" } : Jvm.MethodName) prog_41_method_5_code (1 : Nat) (Option.some Jvm.ClassFile.FieldType.int), Jvm.Cond.code ({ cls := "com/example/horn1/horn1/engine/ClauseListSizePinLaw", name := "step", desc := "(Lcom/example/horn1/horn1/engine/ClauseList;[Lcom/example/horn1/horn1/engine/Template;[Lcom/example/horn1/horn1/engine/Clause;[Z[I[II)Z" } : Jvm.MethodName) method_3_code (10 : Nat) (Option.some Jvm.ClassFile.FieldType.boolean), Jvm.Cond.code ({ cls := "com/example/horn1/horn1/engine/Clause", name := "<init>", desc := "([Lcom/example/horn1/horn1/engine/Template;[Lcom/example/horn1/horn1/engine/Template;[Lcom/example/horn1/horn1/engine/Predicate;Lcom/example/horn1/horn1/engine/Template;I)V" } : Jvm.MethodName) prog_40_method_1_code (10 : Nat) (Option.none : Option Jvm.ClassFile.FieldType), Jvm.Cond.code ({ cls := "com/example/horn1/horn1/engine/ClauseList", name := "addLast", desc := "(Lcom/example/horn1/horn1/engine/Clause;)V" } : Jvm.MethodName) prog_41_method_6_code (2 : Nat) (Option.none : Option Jvm.ClassFile.FieldType), Jvm.Cond.code ({ cls := "com/example/horn1/horn1/engine/ClauseList", name := "move", desc := "()V" } : Jvm.MethodName) prog_41_method_10_code (7 : Nat) (Option.none : Option Jvm.ClassFile.FieldType), Jvm.Cond.code ({ cls := "java/lang/Math", name := "max", desc := "(II)I" } : Jvm.MethodName) jdk_29_method_65_code (2 : Nat) (Option.some Jvm.ClassFile.FieldType.int), Jvm.Cond.code ({ cls := "com/example/horn1/horn1/engine/ClauseList", name := "addFirst", desc := "(Lcom/example/horn1/horn1/engine/Clause;)V" } : Jvm.MethodName) prog_41_method_7_code (2 : Nat) (Option.none : Option Jvm.ClassFile.FieldType), Jvm.Cond.code ({ cls := "com/example/horn1/horn1/engine/Clause", name := "isLive", desc := "()Z" } : Jvm.MethodName) prog_40_method_7_code (1 : Nat) (Option.some Jvm.ClassFile.FieldType.boolean), Jvm.Cond.code ({ cls := "com/example/horn1/horn1/engine/ClauseList", name := "removeAll", desc := "(J)V" } : Jvm.MethodName) prog_41_method_9_code (4 : Nat) (Option.none : Option Jvm.ClassFile.FieldType), Jvm.Cond.code ({ cls := "com/example/horn1/horn1/engine/Clause", name := "remove", desc := "(J)V" } : Jvm.MethodName) prog_40_method_9_code (3 : Nat) (Option.none : Option Jvm.ClassFile.FieldType), Jvm.Cond.code ({ cls := "com/example/horn1/horn1/engine/ClauseList", name := "remove", desc := "(Lcom/example/horn1/horn1/engine/Clause;J)V" } : Jvm.MethodName) prog_41_method_8_code (4 : Nat) (Option.none : Option Jvm.ClassFile.FieldType)]
set_option maxRecDepth 65536 in
theorem codes_eq : words1.filter isCode = codes1 := rfl
theorem w_codes : ∀ c ∈ words1.filter isCode, c.before args0 about1 = true := by
  rw [codes_eq]
  intro c hc
  simp only [codes1, List.mem_cons, List.not_mem_nil, or_false] at hc
  rcases hc with rfl | rfl | rfl | rfl | rfl | rfl | rfl | rfl | rfl | rfl | rfl | rfl | rfl | rfl
  · exact w_c0
  · exact w_c1
  · exact w_c2
  · exact w_c3
  · exact w_c4
  · exact w_c5
  · exact w_c6
  · exact w_c7
  · exact w_c8
  · exact w_c9
  · exact w_c10
  · exact w_c11
  · exact w_c12
  · exact w_c13
set_option maxRecDepth 65536 in
theorem w_t1 : (words1.take 24).all (fun c => isCode c || c.before args0 about1) = true := by decide +kernel
set_option maxRecDepth 65536 in
theorem w_t2 : ((words1.drop 24).take 24).all (fun c => isCode c || c.before args0 about1) = true := by decide +kernel
set_option maxRecDepth 65536 in
theorem w_t3 : (((words1.drop 24).drop 24).take 24).all (fun c => isCode c || c.before args0 about1) = true := by decide +kernel
set_option maxRecDepth 65536 in
theorem w_t4 : ((((words1.drop 24).drop 24).drop 24).take 24).all (fun c => isCode c || c.before args0 about1) = true := by decide +kernel
set_option maxRecDepth 65536 in
theorem w_t5 : ((((words1.drop 24).drop 24).drop 24).drop 24).all (fun c => isCode c || c.before args0 about1) = true := by decide +kernel
theorem w_tables : (allAtoms (Jvm.Cond.code x code maxLocals ret :: tables_1)).before args0 about1 = true := by
  rw [allAtoms_all]
  show words1.all (fun c => c.before args0 about1) = true
  refine all_split ?_ w_codes
  rw [← List.take_append_drop 24 words1, List.all_append, w_t1, ← List.take_append_drop 24 (words1.drop 24), List.all_append, w_t2, ← List.take_append_drop 24 ((words1.drop 24).drop 24), List.all_append, w_t3, ← List.take_append_drop 24 (((words1.drop 24).drop 24).drop 24), List.all_append, w_t4, w_t5]
  rfl
set_option maxRecDepth 65536 in
theorem w_case : (Jvm.Cond.and given_1 narrow_1).before args0 about1 = true := by decide +kernel
theorem w_applies : (headSpec (Jvm.Cond.code x code maxLocals ret :: tables_1) room_1).applies x e0.platform about1 = true :=
  (Spec.applies_iff w_frames).mpr ⟨w_running, w_runnable, w_alone, w_named, w_hears, w_ripe, w_room, w_tables⟩
theorem atStart : AtStart classFile x code maxLocals ret World_1 tables_1 room_1 Calls_1 rest_1 Pre_1 launch0 p0 e0 about1 theMethod args0 below0 :=
  ⟨lists_1, trivial, launch0.admits_env _ _ _, launch0.least_env, fairChoices_fair.cas, fairChoices_fair.clock, w_frames, w_args, w_heap, w_applies, trivial, trivial, w_case⟩
end start1
theorem witness_1 : WitnessClaimed_1 := ⟨start1.p0, start1.e0, start1.about1, start1.theMethod, start1.args0, start1.below0, start1.atStart⟩
end Jvm.Pilot.@@N@@
