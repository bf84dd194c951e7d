import JvmDerived
import JvmDerived.Pilot.@@N@@Statement
import JvmDerived.Pilot.@@N@@Code
set_option linter.unusedVariables false
set_option linter.unusedSimpArgs false
namespace Jvm.RoadKit
open Sem ClassFile Op Lib Jvm.Stand Jvm.Free Jvm.LawKit
section New
variable {p : Program} {l : Launch} {e : Env} {R : Room} {s : State} {m : MethodId} {args : Array Value} {below : List Frame} {meth : Method} {c : Code} {T : State} {locs : List Loc} {cells slots : Nat}
theorem retI (X : Stand p l e R s m args below meth c T locs cells slots) (hx : p.tables.exec = Jvm.exec) {pc : Nat} {Ls : Array Slot} {z : Int32} {rest : List Value} (hret : meth.sig.returnType = some .int) (hd : decode c.code pc = .ok (.ireturn, 1)) {fs : List Frame}
    (hl : ∀ (f : JFrame) (acts : List Action), f.method = m → f.locked = none → f.entered = [] → (doReturn e (T.setTop f) acts (some (.int z))).1 = T.setFrames fs) : Steps p.tables e below (T.setTop (mkF m pc Ls (.int z :: rest))) (T.setFrames fs) := by
  have hm' : T.vm.method? m = some meth := X.method'
  have hn : narrow .int (.int z) = .int z := rfl
  show Steps p.tables e below (T.setTop { method := m, pc := pc, locals := Ls, stack := _ :: rest, locked := none }) _
  jvm_step X.here [X.here.top, hx, hd, hm', hret, hn]
  first | (intro acts; rw [hl _ acts rfl rfl rfl]) | rw [hl _ _ rfl rfl rfl]
  exact Steps.refl _
end New
end Jvm.RoadKit
namespace Jvm.Pilot.@@N@@
open Jvm Jvm.ClassFile Sem Op Lib Jvm.Free Jvm.Stand Jvm.LawKit Jvm.RoadKit Bundle Jvm.Pilot.@@N@@.Jvm.D
theorem own_bd {p : Program} {l : Launch} {x : MethodName} {cd : List Jvm.Cond} {R : Room} {code : ByteArray} {maxL : Nat} {ret : Option FieldType} {e : Env} {s : State} {m : MethodId} {args : Array Value} {below : List Frame} {meth : Method} {c : Code} {s₁ : State} {h0 : Heap} (Bd : BodyLoose p l x (head1 cd R) code maxL ret e s m args below meth c s₁) (hh : s.heap = h0) (n0 : Nat) :
    p.tables.exec = Jvm.exec ∧ c.code = code ∧ s.vm.findClass x.cls = some m.cls ∧ meth.sig.returnType = ret ∧ meth.locks = false ∧ Stand p l e R s m args below meth c s₁ [] 0 0 ∧ s₁.heap = h0 ∧ Fr n0 [] :=
  ⟨Bd.exec, Bd.bytes, findClass_of_methodNamed Bd.named, Bd.returns, BodyLoose.notSynchronized Bd, Stand.of_body Bd, by rw [← hh, Bd.state]; rfl, Fr.nil n0⟩
theorem own_ct (s₁ : State) {p : Program} {e : Env} {below : List Frame} {f g : JFrame} (h : f = g) : ∀ t, Steps p.tables e below (s₁.setTop g) t → Steps p.tables e below (s₁.setTop f) t := fun t k => castTop h k
theorem own_w {a0 : Array Value} {Z : State} (hw : ∀ d ∈ tables_1, d.before a0 Z = true) {d : Jvm.Cond} (i : Nat) (h : tables_1[i]? = some d) : d.before a0 Z = true := hw d (List.mem_of_getElem? h)
section Calls
variable {p : Program} {l : Launch} {e : Env} {R : Room} {s : State} {m : MethodId} {args : Array Value} {below : List Frame} {meth : Method} {c : Code} {T : State} {locs : List Loc} {cells slots : Nat} {Z : State} {a0 : Array Value} {h : Heap}
variable {own C : String} {index : Nat} {y z : MethodName} {bytes : ByteArray} {maxL : Nat} {ret : Option FieldType} {rm : Room} {a : Addr} {Q : Option Value → Heap → List Loc → Prop} {argsL rest : List Value} {g : JFrame}
theorem own_vb (X : Stand p l e R s m args below meth c T locs cells slots) (hx : p.tables.exec = Jvm.exec) (hZ : Z.Warmed39 s.vm) (hown : s.vm.findClass own = some m.cls)
    (w1 : (Cond.methodLink own index y).before a0 Z = true) (w2 : (Cond.declares y).before a0 Z = true) (w3 : (Cond.selects C y y).before a0 Z = true) (w4 : (Cond.instanceMethod y).before a0 Z = true) (wc : (Cond.code y bytes maxL ret).before a0 Z = true) (wz : (Cond.initialized y.cls).before a0 Z = true)
    (eT : T.heap = h) (E : Exa Z h a C)
    (hM : MetFree l y (head1 [Cond.code y bytes maxL ret] rm) (fun a' U => a' = (Value.ref a :: argsL).toArray ∧ Z.Warmed39 U.vm ∧ U.heap = h) (fun _ _ _ _ _ => True) (fun _ U o U' => ∃ v L, o = .returned v ∧ Q v U'.heap L ∧ FrameEnd U o U' L rm.cells rm.slots))
    (hg : g.method = m) (hml : g.locals.size = c.maxLocals) (hs : g.stack = argsL.reverse ++ .ref a :: rest) (hd : decode c.code g.pc = .ok (.invokevirtual index, 3)) (hlen : ∀ sig, parseMethodDescriptor y.desc = some sig → argsL.length = sig.parameters.length)
    {W : Nat} {c1 s1 : Nat} (h1 : cells + rm.cells = c1 := by rfl) (h2 : slots + rm.slots = s1 := by rfl) (hW : 2 * g.monitorRoom + (rest.map fun v => v.category).sum ≤ W := by show 2 * 0 + _ ≤ _; exact Nat.le_of_eq rfl) (hf : rm.frames + 1 ≤ R.frames := by decide) (hl : W + (maxL + 11) + rm.locals ≤ R.locals := by decide) (hc : c1 ≤ R.cells := by decide) (hsl : s1 ≤ R.slots := by decide) (hy : y.cls ≠ "java/lang/invoke/MethodHandle" ∧ y.cls ≠ "java/lang/invoke/VarHandle" := by decide) :
    ∃ v T' L, Stand p l e R s m args below meth c T' (locs ++ L) c1 s1 ∧ Q v T'.heap L ∧ ∀ target, Steps p.tables e below (T'.setTop { g with pc := g.pc + 3, stack := v.toList ++ rest }) target → Steps p.tables e below (T.setTop g) target := by
  subst h1 h2
  obtain ⟨cB, kB, q1, q2, q3⟩ := isOf hZ eT E
  obtain ⟨v, _, ⟨T', L', k', n'⟩, -, X', ⟨L, hQ, l1, y1, z1⟩, st⟩ := X.virtualBack hx (y := y) (z := y) hown (mvT hZ w1) (mvT hZ w2) (notFace_of_selects (args := #[]) (mvT hZ w3)) (mvT hZ w3) (mvT hZ w4) hy (backOf (W := W) hM hZ wc wz hf hl) q1 q3 hg hml (Steps.refl _) hlen hs hW hd (fun _ _ => ⟨rfl, eT, hc, hsl⟩)
  dsimp only [Pt.U, Pt.locs, Pt.cells, Pt.slots] at X' l1 y1 z1 st hQ
  subst l1 y1 z1
  exact ⟨v, T', L, X', hQ, fun t k => st.trans k⟩
theorem own_vu {owner : String} (X : Stand p l e R s m args below meth c T locs cells slots) (hx : p.tables.exec = Jvm.exec) (hZ : Z.Warmed39 s.vm) (hown : s.vm.findClass own = some m.cls)
    (w1 : (Cond.methodLink own index z).before a0 Z = true) (w2 : (Cond.sameMethod z.cls owner z.name z.desc).before a0 Z = true) (w2' : (Cond.declares ⟨owner, z.name, z.desc⟩).before a0 Z = true) (w3 : (Cond.selects C z y).before a0 Z = true) (w4 : (Cond.instanceMethod y).before a0 Z = true) (wc : (Cond.code y bytes maxL ret).before a0 Z = true) (wz : (Cond.initialized y.cls).before a0 Z = true)
    (eT : T.heap = h) (E : Exa Z h a C)
    (hM : MetFree l y (head1 [Cond.code y bytes maxL ret] rm) (fun a' U => a' = (Value.ref a :: argsL).toArray ∧ Z.Warmed39 U.vm ∧ U.heap = h) (fun _ _ _ _ _ => True) (fun _ U o U' => ∃ v L, o = .returned v ∧ Q v U'.heap L ∧ FrameEnd U o U' L rm.cells rm.slots))
    (hg : g.method = m) (hml : g.locals.size = c.maxLocals) (hs : g.stack = argsL.reverse ++ .ref a :: rest) (hd : decode c.code g.pc = .ok (.invokevirtual index, 3)) (hlen : ∀ sig, parseMethodDescriptor z.desc = some sig → argsL.length = sig.parameters.length)
    {W : Nat} {c1 s1 : Nat} (h1 : cells + rm.cells = c1 := by rfl) (h2 : slots + rm.slots = s1 := by rfl) (hW : 2 * g.monitorRoom + (rest.map fun v => v.category).sum ≤ W := by show 2 * 0 + _ ≤ _; exact Nat.le_of_eq rfl) (hf : rm.frames + 1 ≤ R.frames := by decide) (hl : W + (maxL + 11) + rm.locals ≤ R.locals := by decide) (hc : c1 ≤ R.cells := by decide) (hsl : s1 ≤ R.slots := by decide) (hy : owner ≠ "java/lang/invoke/MethodHandle" ∧ owner ≠ "java/lang/invoke/VarHandle" := by decide) :
    ∃ v T' L, Stand p l e R s m args below meth c T' (locs ++ L) c1 s1 ∧ Q v T'.heap L ∧ ∀ target, Steps p.tables e below (T'.setTop { g with pc := g.pc + 3, stack := v.toList ++ rest }) target → Steps p.tables e below (T.setTop g) target := by
  subst h1 h2
  obtain ⟨cB, kB, q1, q2, q3⟩ := isOf hZ eT E
  obtain ⟨v, _, ⟨T', L', k', n'⟩, -, X', ⟨L, hQ, l1, y1, z1⟩, st⟩ := X.virtualBackUp hx (x := z) (y := y) (owner := owner) hown (mvT hZ w1) (mvT hZ w2) (mvT hZ w2') hy (mvT hZ w3) (mvT hZ w4) (backOf (W := W) hM hZ wc wz hf hl) q1 q3 hg hml (Steps.refl _) hlen hs hW hd (fun _ _ => ⟨rfl, eT, hc, hsl⟩)
  dsimp only [Pt.U, Pt.locs, Pt.cells, Pt.slots] at X' l1 y1 z1 st hQ
  subst l1 y1 z1
  exact ⟨v, T', L, X', hQ, fun t k => st.trans k⟩
theorem own_sb (X : Stand p l e R s m args below meth c T locs cells slots) (hx : p.tables.exec = Jvm.exec) (hZ : Z.Warmed39 s.vm) (hown : s.vm.findClass own = some m.cls)
    (w1 : (Cond.methodLink own index y).before a0 Z = true) (w4 : (Cond.instanceMethod y).before a0 Z = true) (wc : (Cond.code y bytes maxL none).before a0 Z = true) (wz : (Cond.initialized y.cls).before a0 Z = true)
    (eT : T.heap = h)
    (hM : MetFree l y (head1 [Cond.code y bytes maxL none] rm) (fun a' U => a' = (Value.ref a :: argsL).toArray ∧ Z.Warmed39 U.vm ∧ U.heap = h) (fun _ _ _ _ _ => True) (fun _ U o U' => ∃ v L, o = .returned v ∧ Q v U'.heap L ∧ FrameEnd U o U' L rm.cells rm.slots))
    (hg : g.method = m) (hml : g.locals.size = c.maxLocals) (hs : g.stack = argsL.reverse ++ .ref a :: rest) (hd : decode c.code g.pc = .ok (.invokespecial index, 3)) (hlen : ∀ sig, parseMethodDescriptor y.desc = some sig → argsL.length = sig.parameters.length)
    {W : Nat} {c1 s1 : Nat} (hn : y.name = "<init>" := by rfl) (h1 : cells + rm.cells = c1 := by rfl) (h2 : slots + rm.slots = s1 := by rfl) (hW : 2 * g.monitorRoom + (rest.map fun v => v.category).sum ≤ W := by show 2 * 0 + _ ≤ _; exact Nat.le_of_eq rfl) (hf : rm.frames + 1 ≤ R.frames := by decide) (hl : W + (maxL + 11) + rm.locals ≤ R.locals := by decide) (hc : c1 ≤ R.cells := by decide) (hsl : s1 ≤ R.slots := by decide) (hy : y.cls ≠ "java/lang/invoke/MethodHandle" ∧ y.cls ≠ "java/lang/invoke/VarHandle" := by decide) :
    ∃ v T' L, Stand p l e R s m args below meth c T' (locs ++ L) c1 s1 ∧ Q v T'.heap L ∧ ∀ target, Steps p.tables e below (T'.setTop { g with pc := g.pc + 3, stack := v.toList ++ rest }) target → Steps p.tables e below (T.setTop g) target := by
  subst h1 h2
  obtain ⟨v, _, ⟨T', L', k', n'⟩, -, X', ⟨L, hQ, l1, y1, z1⟩, st⟩ := X.specialBack hx (y := y) hn hown (mvT hZ w1) (mvT hZ w4) (mvT hZ wc) hy (backOf (W := W) hM hZ wc wz hf hl) hg hml (Steps.refl _) hlen hs hW hd (fun _ _ => ⟨rfl, eT, hc, hsl⟩)
  dsimp only [Pt.U, Pt.locs, Pt.cells, Pt.slots] at X' l1 y1 z1 st hQ
  subst l1 y1 z1
  exact ⟨v, T', L, X', hQ, fun t k => st.trans k⟩
theorem own_cs (X : Stand p l e R s m args below meth c T locs cells slots) (hx : p.tables.exec = Jvm.exec) (hZ : Z.Warmed39 s.vm) (hown : s.vm.findClass own = some m.cls)
    (w1 : (Cond.methodLink own index y).before a0 Z = true) (w4 : (Cond.static y).before a0 Z = true) (wc : (Cond.code y bytes maxL ret).before a0 Z = true) (wz : (Cond.initialized y.cls).before a0 Z = true)
    (eT : T.heap = h)
    (hM : MetFree l y (head1 [Cond.code y bytes maxL ret] rm) (fun a' U => a' = argsL.toArray ∧ Z.Warmed39 U.vm ∧ U.heap = h) (fun _ _ _ _ _ => True) (fun _ U o U' => ∃ v L, o = .returned v ∧ Q v U'.heap L ∧ FrameEnd U o U' L rm.cells rm.slots))
    (hg : g.method = m) (hml : g.locals.size = c.maxLocals) (hs : g.stack = argsL.reverse ++ rest) (hd : decode c.code g.pc = .ok (.invokestatic index, 3)) (hlen : ∀ sig, parseMethodDescriptor y.desc = some sig → argsL.length = sig.parameters.length)
    {W : Nat} {c1 s1 : Nat} (h1 : cells + rm.cells = c1 := by rfl) (h2 : slots + rm.slots = s1 := by rfl) (hW : 2 * g.monitorRoom + (rest.map fun v => v.category).sum ≤ W := by show 2 * 0 + _ ≤ _; exact Nat.le_of_eq rfl) (hf : rm.frames + 1 ≤ R.frames := by decide) (hl : W + (maxL + 11) + rm.locals ≤ R.locals := by decide) (hc : c1 ≤ R.cells := by decide) (hsl : s1 ≤ R.slots := by decide) (hy : y.cls ≠ "java/lang/invoke/MethodHandle" ∧ y.cls ≠ "java/lang/invoke/VarHandle" := by decide) :
    ∃ v T' L, Stand p l e R s m args below meth c T' (locs ++ L) c1 s1 ∧ Q v T'.heap L ∧ ∀ target, Steps p.tables e below (T'.setTop { g with pc := g.pc + 3, stack := v.toList ++ rest }) target → Steps p.tables e below (T.setTop g) target := by
  subst h1 h2
  obtain ⟨v, _, ⟨T', L', k', n'⟩, -, X', ⟨L, hQ, l1, y1, z1⟩, st⟩ := Jvm.LawKit.callS X hx (y := y) hown (mvT hZ w1) (mvT hZ w4) (mvT hZ wz) (mvT hZ wc) hy (backOf (W := W) hM hZ wc wz hf hl) hg hml hlen hs hW hd (fun _ _ => ⟨rfl, eT, hc, hsl⟩)
  dsimp only [Pt.U, Pt.locs, Pt.cells, Pt.slots] at X' l1 y1 z1 st hQ
  subst l1 y1 z1
  exact ⟨v, T', L, X', hQ, st⟩
theorem own_pb (X : Stand p l e R s m args below meth c T locs cells slots) (hx : p.tables.exec = Jvm.exec) (hZ : Z.Warmed39 s.vm) (hown : s.vm.findClass own = some m.cls)
    (w1 : (Cond.methodLink own index y).before a0 Z = true) (w4 : (Cond.instanceMethod y).before a0 Z = true) (w3 : (Cond.selects y.cls y y).before args s = true) (wp : (Cond.privateMethod y).before a0 Z = true) (wc : (Cond.code y bytes maxL ret).before a0 Z = true) (wz : (Cond.initialized y.cls).before a0 Z = true)
    (eT : T.heap = h) (E : Exa Z h a C)
    (hM : MetFree l y (head1 [Cond.code y bytes maxL ret] rm) (fun a' U => a' = (Value.ref a :: argsL).toArray ∧ Z.Warmed39 U.vm ∧ U.heap = h) (fun _ _ _ _ _ => True) (fun _ U o U' => ∃ v L, o = .returned v ∧ Q v U'.heap L ∧ FrameEnd U o U' L rm.cells rm.slots))
    (hg : g.method = m) (hml : g.locals.size = c.maxLocals) (hs : g.stack = argsL.reverse ++ .ref a :: rest) (hd : decode c.code g.pc = .ok (.invokevirtual index, 3)) (hlen : ∀ sig, parseMethodDescriptor y.desc = some sig → argsL.length = sig.parameters.length)
    {W : Nat} {c1 s1 : Nat} (h1 : cells + rm.cells = c1 := by rfl) (h2 : slots + rm.slots = s1 := by rfl) (hW : 2 * g.monitorRoom + (rest.map fun v => v.category).sum ≤ W := by show 2 * 0 + _ ≤ _; exact Nat.le_of_eq rfl) (hf : rm.frames + 1 ≤ R.frames := by decide) (hl : W + (maxL + 11) + rm.locals ≤ R.locals := by decide) (hc : c1 ≤ R.cells := by decide) (hsl : s1 ≤ R.slots := by decide) (hy : y.cls ≠ "java/lang/invoke/MethodHandle" ∧ y.cls ≠ "java/lang/invoke/VarHandle" := by decide) :
    ∃ v T' L, Stand p l e R s m args below meth c T' (locs ++ L) c1 s1 ∧ Q v T'.heap L ∧ ∀ target, Steps p.tables e below (T'.setTop { g with pc := g.pc + 3, stack := v.toList ++ rest }) target → Steps p.tables e below (T.setTop g) target := by
  subst h1 h2
  obtain ⟨cq, q1, q2⟩ := E.cell
  obtain ⟨v, _, ⟨T', L', k', n'⟩, -, X', ⟨L, hQ, l1, y1, z1⟩, st⟩ := X.privateBack hx (y := y) hown (mvT hZ w1) (mvT hZ w4) w3 (Cond.privateMethod_at (mvP hZ wp (args := #[]))) (mvT hZ wc) hy (backOf (W := W) hM hZ wc wz hf hl) hg hml (Steps.refl _) (a := a) (by rw [eT]; exact q1) q2 hlen hs hW hd (fun _ _ => ⟨rfl, eT, hc, hsl⟩)
  dsimp only [Pt.U, Pt.locs, Pt.cells, Pt.slots] at X' l1 y1 z1 st hQ
  subst l1 y1 z1
  exact ⟨v, T', L, X', hQ, fun t k => st.trans k⟩
theorem own_sr (X : Stand p l e R s m args below meth c T locs cells slots) (hx : p.tables.exec = Jvm.exec) (hZ : Z.Warmed39 s.vm) (hown : s.vm.findClass own = some m.cls)
    (w1 : (Cond.methodRef own index y).before a0 Z = true) (w4 : (Cond.instanceMethod y).before a0 Z = true) (wc : (Cond.code y bytes maxL none).before a0 Z = true) (wz : (Cond.initialized y.cls).before a0 Z = true)
    (eT : T.heap = h)
    (hM : MetFree l y (head1 [Cond.code y bytes maxL none] rm) (fun a' U => a' = (Value.ref a :: argsL).toArray ∧ Z.Warmed39 U.vm ∧ U.heap = h) (fun _ _ _ _ _ => True) (fun _ U o U' => ∃ v L, o = .returned v ∧ Q v U'.heap L ∧ FrameEnd U o U' L rm.cells rm.slots))
    (hg : g.method = m) (hml : g.locals.size = c.maxLocals) (hs : g.stack = argsL.reverse ++ .ref a :: rest) (hd : decode c.code g.pc = .ok (.invokespecial index, 3)) (hlen : ∀ sig, parseMethodDescriptor y.desc = some sig → argsL.length = sig.parameters.length)
    {W : Nat} {c1 s1 : Nat} (hn : y.name = "<init>" := by rfl) (h1 : cells + rm.cells = c1 := by rfl) (h2 : slots + rm.slots = s1 := by rfl) (hW : 2 * g.monitorRoom + (rest.map fun v => v.category).sum ≤ W := by show 2 * 0 + _ ≤ _; exact Nat.le_of_eq rfl) (hf : rm.frames + 1 ≤ R.frames := by decide) (hl : W + (maxL + 11) + rm.locals ≤ R.locals := by decide) (hc : c1 ≤ R.cells := by decide) (hsl : s1 ≤ R.slots := by decide) (hy : y.cls ≠ "java/lang/invoke/MethodHandle" ∧ y.cls ≠ "java/lang/invoke/VarHandle" := by decide) :
    ∃ v T' L, Stand p l e R s m args below meth c T' (locs ++ L) c1 s1 ∧ Q v T'.heap L ∧ ∀ target, Steps p.tables e below (T'.setTop { g with pc := g.pc + 3, stack := v.toList ++ rest }) target → Steps p.tables e below (T.setTop g) target := by
  subst h1 h2
  have hZT : Z.Warmed39 T.vm := wtrans hZ X.warmed
  obtain ⟨oz, mz, nz, -⟩ := Cond.instanceMethod_spec w4
  have r1 : (Cond.methodRef own index y).before a0 (Z.setVm T.vm) = true := Cond.methodRef_warmed39 hZT nz hy w1
  have fT : (Z.setVm T.vm).vm.findClass own = some m.cls := by show T.vm.findClass own = _; rw [X.warmed.alike.findClass]; exact hown
  obtain ⟨m1, c', hm1, hready, hfind, hnames⟩ := Cond.methodRef_named e fT r1
  obtain ⟨obj, methO, hnO, hmO, hstO, habO⟩ := Cond.instanceMethod_spec (mvT (args := args) hZ w4)
  obtain ⟨methO', cO, hmO', hcO, hbO, hlO, -, hlockO, -, hsigO⟩ := Cond.code_spec hnO (mvT (args := args) hZ wc)
  cases hmO.symm.trans hmO'
  have nT : (Z.setVm T.vm).methodNamed? y = some obj := X.named hnO
  obtain rfl : m1 = obj := (Option.some.inj ((State.methodFound?_of_named nT hy).symm.trans hm1)).symm
  have cT : (Z.setVm T.vm).vm.findClass y.cls = some m1.cls := findClass_of_methodNamed nT
  obtain rfl : c' = m1.cls := (Option.some.inj (cT.symm.trans hfind)).symm
  obtain ⟨kO, hkO, hnameO⟩ := className_of_methodNamed nT
  obtain ⟨hnameMO, hdescO⟩ := name_of_methodNamed hnO hmO
  have hmT : T.vm.method? m1 = some methO := by rw [X.warmed.alike.method?]; exact hmO
  have hfound : lookupSpecial T.vm m1.cls "<init>" methO.desc = .method m1 := by
    rw [X.warmed.alike.lookupSpecial, hdescO, ← hn]; exact lookupSpecial_of_named hnO hmO hstO
  have hstep : ∀ target, (∀ acts, Steps p.tables e below (doInvoke e (T.setTop { g with stack := rest }) acts m1 (.ref a :: argsL).toArray).1 target) → Steps p.tables e below (T.setTop g) target := by
    intro target hrest
    subst hg
    jvm_step X.here [hx, hd, invokespecial.wp_init (e := e) (s := T) (k := kO) (meth := methO) (m := m1) (a := a) (args := argsL) (rest := rest) (f := g) X.here.top hnames hready hkO hmT (by rw [hnameMO]; exact hn) hstO habO hfound (hlen _ hsigO) hs]
    exact hrest
  obtain ⟨v, ⟨T', L', k', n'⟩, X', ⟨L, hQ, l1, y1, z1⟩, st⟩ := backOf (len := 3) (W := W) (p := p) (e := e) (below := below) (args := args) (R := R) hM hZ wc wz hf hl m meth c ⟨T, locs, cells, slots⟩ { g with stack := rest } (.invokespecial index) m1 (.ref a :: argsL).toArray X hg hml hd hW (X.named hnO) ⟨rfl, eT, hc, hsl⟩
  dsimp only [Pt.U, Pt.locs, Pt.cells, Pt.slots] at X' l1 y1 z1 st hQ
  subst l1 y1 z1
  exact ⟨v, T', L, X', hQ, fun t k => (hstep _ fun acts => by rw [doInvoke_state]; exact Steps.refl _).trans (st.trans k)⟩
theorem own_ib {count : Nat} (X : Stand p l e R s m args below meth c T locs cells slots) (hx : p.tables.exec = Jvm.exec) (hZ : Z.Warmed39 s.vm) (hown : s.vm.findClass own = some m.cls)
    (w1 : (Cond.methodLink own index z).before a0 Z = true) (w2 : (Cond.declares z).before a0 Z = true) (w5 : (Cond.interfaceMethod z.cls z.cls z.name z.desc).before args s = true) (w3 : (Cond.selects C z y).before a0 Z = true) (w4 : (Cond.instanceMethod y).before a0 Z = true) (w6 : (Cond.publicMethod y).before a0 Z = true) (w7 : (Cond.unhidden C z.name z.desc).before args s = true) (w8 : (Cond.castable C z.cls).before a0 Z = true) (wc : (Cond.code y bytes maxL ret).before a0 Z = true) (wz : (Cond.initialized y.cls).before a0 Z = true)
    (eT : T.heap = h) (E : Exa Z h a C)
    (hM : MetFree l y (head1 [Cond.code y bytes maxL ret] rm) (fun a' U => a' = (Value.ref a :: argsL).toArray ∧ Z.Warmed39 U.vm ∧ U.heap = h) (fun _ _ _ _ _ => True) (fun _ U o U' => ∃ v L, o = .returned v ∧ Q v U'.heap L ∧ FrameEnd U o U' L rm.cells rm.slots))
    (hg : g.method = m) (hml : g.locals.size = c.maxLocals) (hs : g.stack = argsL.reverse ++ .ref a :: rest) (hd : decode c.code g.pc = .ok (.invokeinterface index count, 5)) (hlen : ∀ sig, parseMethodDescriptor z.desc = some sig → argsL.length = sig.parameters.length)
    {W : Nat} {c1 s1 : Nat} (h1 : cells + rm.cells = c1 := by rfl) (h2 : slots + rm.slots = s1 := by rfl) (hW : 2 * g.monitorRoom + (rest.map fun v => v.category).sum ≤ W := by show 2 * 0 + _ ≤ _; exact Nat.le_of_eq rfl) (hf : rm.frames + 1 ≤ R.frames := by decide) (hl : W + (maxL + 11) + rm.locals ≤ R.locals := by decide) (hc : c1 ≤ R.cells := by decide) (hsl : s1 ≤ R.slots := by decide) (hy : z.cls ≠ "java/lang/invoke/MethodHandle" ∧ z.cls ≠ "java/lang/invoke/VarHandle" := by decide) :
    ∃ v T' L, Stand p l e R s m args below meth c T' (locs ++ L) c1 s1 ∧ Q v T'.heap L ∧ ∀ target, Steps p.tables e below (T'.setTop { g with pc := g.pc + 5, stack := v.toList ++ rest }) target → Steps p.tables e below (T.setTop g) target := by
  subst h1 h2
  obtain ⟨cB, kB, q1, q2, q3⟩ := isOf hZ eT E
  obtain ⟨v, _, ⟨T', L', k', n'⟩, -, X', ⟨L, hQ, l1, y1, z1⟩, st⟩ := X.interfaceBack hx (xi := z) (y := y) hown (mvT hZ w1) (mvT hZ w2) w5 (mvT hZ w3) (mvT hZ w4) (mvT hZ w6) w7 (mvT hZ w8) hy (backOf (W := W) hM hZ wc wz hf hl) q1 q2 q3 hg hml (Steps.refl _) hlen hs hW hd (fun _ _ => ⟨rfl, eT, hc, hsl⟩)
  dsimp only [Pt.U, Pt.locs, Pt.cells, Pt.slots] at X' l1 y1 z1 st hQ
  subst l1 y1 z1
  exact ⟨v, T', L, X', hQ, fun t k => st.trans k⟩
end Calls
theorem own_oz {Z : State} {n0 : Nat} {h : Heap} (O : Old Z n0 h) : n0 ≤ h.size := by
  rw [← O.1]; exact O.2.1
theorem own_lsw {tb : Tables} [Ours tb] {e : Env} {below : List Frame} {T target : State} {m : MethodId} {c : Code} {g : JFrame} (h : At T m c below) (hx : tb.exec = Jvm.exec) (hg : g.method = m) {dflt : Int} {prs : Array (Int × Int)} {len : Nat} {o : Int} {pc0 pc' : Nat} (hpc : g.pc = pc0) (hd : decode c.code g.pc = .ok (.lookupswitch dflt prs, len)) {i : Int32} {rest : List Value} (hs : g.stack = .int i :: rest)
    (hsort : (prs.toList.zip (prs.toList.drop 1)).all (fun (a, next) => a.1 < next.1) = true) (hoff : lookupswitch.offset prs.toList dflt i.toInt = o) (ho : 0 ≤ (pc0 : Int) + o) (hp : ((pc0 : Int) + o).toNat = pc')
    (hr : Steps tb e below (T.setTop { g with pc := pc', stack := rest }) target) : Steps tb e below (T.setTop g) target := by
  subst hg hpc hp
  jvm_step h [h.top, hx, hd, hs, hoff, ho, lookupswitch.wp_chain]
  exact ⟨by simpa using hsort, hr⟩
section Nums
variable {x k : Int32} {n : Int}
theorem own_lt1 (hk : k.toInt = n) (h : x < k) : x.toInt < n := by rw [← hk]; exact Int32.lt_iff_toInt_lt.mp h
theorem own_lt2 (hk : k.toInt = n) (h : k < x) : n < x.toInt := by rw [← hk]; exact Int32.lt_iff_toInt_lt.mp h
theorem own_nlt1 (hk : k.toInt = n) (h : ¬ x < k) : n ≤ x.toInt := by rw [Int32.lt_iff_toInt_lt, hk] at h; omega
theorem own_nlt2 (hk : k.toInt = n) (h : ¬ k < x) : x.toInt ≤ n := by rw [Int32.lt_iff_toInt_lt, hk] at h; omega
theorem own_eq (hk : k.toInt = n) (h : x = k) : x.toInt = n := by rw [← hk, h]
theorem own_neq (hk : k.toInt = n) (h : ¬ x = k) : x.toInt ≠ n := fun q => h (Int32.toInt_inj.mp (by rw [hk, q]))
theorem own_glt1 (hk : k.toInt = n) (h : x.toInt < n) : x < k := Int32.lt_iff_toInt_lt.mpr (by rw [hk]; exact h)
theorem own_glt2 (hk : k.toInt = n) (h : n < x.toInt) : k < x := Int32.lt_iff_toInt_lt.mpr (by rw [hk]; exact h)
theorem own_gnlt1 (hk : k.toInt = n) (h : n ≤ x.toInt) : ¬ x < k := fun q => by have := own_lt1 hk q; omega
theorem own_gnlt2 (hk : k.toInt = n) (h : x.toInt ≤ n) : ¬ k < x := fun q => by have := own_lt2 hk q; omega
theorem own_geq (hk : k.toInt = n) (h : x.toInt = n) : x = k := Int32.toInt_inj.mp (by rw [hk, h])
theorem own_gneq (hk : k.toInt = n) (h : x.toInt ≠ n) : ¬ x = k := fun q => h (own_eq hk q)
theorem own_and (hk : k.toInt = n) (h0 : 0 ≤ n) : 0 ≤ (x &&& k).toInt ∧ (x &&& k).toInt ≤ n := by have := c_and x k (by rw [hk]; exact h0); rw [hk] at this; exact this
theorem own_and2 (hk : k.toInt = n) (h0 : 0 ≤ n) : 0 ≤ (k &&& x).toInt ∧ (k &&& x).toInt ≤ n := by have := c_and' k x (by rw [hk]; exact h0); rw [hk] at this; exact this
theorem own_rem (hk : k.toInt = n) (h0 : 0 < n) (hx : 0 ≤ x.toInt) : 0 ≤ (x % k).toInt ∧ (x % k).toInt < n ∧ (x % k).toInt ≤ x.toInt := by
  have := (c_iremV x k).1 hx (by rw [hk]; exact h0); rw [hk] at this; exact ⟨this.1, this.2.1, this.2.2.1⟩
theorem own_add {lo hi : Int} (hk : k.toInt = n) (hx : lo ≤ x.toInt ∧ x.toInt ≤ hi) (h1 : -2147483648 ≤ lo + n) (h2 : hi + n < 2147483648) : lo + n ≤ (x + k).toInt ∧ (x + k).toInt ≤ hi + n := by
  have := c_iadd x k; have := rng32 (x + k); rw [hk] at *; omega
theorem own_add2 {lo hi : Int} (hk : k.toInt = n) (hx : lo ≤ x.toInt ∧ x.toInt ≤ hi) (h1 : -2147483648 ≤ lo + n) (h2 : hi + n < 2147483648) : lo + n ≤ (k + x).toInt ∧ (k + x).toInt ≤ hi + n := by
  have := c_iadd k x; have := rng32 (k + x); rw [hk] at *; omega
end Nums
theorem own_len {Z : State} {args : Array Value} {t : Term} {a : Addr} {c : Cell} {ty : FieldType} {n : Int32} (A : Arr Z Z.heap a c ty) (ev : t.eval args Z none [] Z = some (.ref a)) (h : (Term.length t).eval args Z none [] Z = some (.int n)) : c.slots.size < 2 ^ 31 ∧ c.slots.size.toInt32 = n := by
  have q := A.fin (Vm.Alike.refl _)
  by_cases z : c.slots.size < 2 ^ 31
  · rw [len_f ev q z] at h; exact ⟨z, Value.int.inj (Option.some.inj h)⟩
  · simp [Term.eval, ev, q, z] at h
theorem own_selp {s : State} {args : Array Value} {y z : MethodName} {C : String} (w : (Cond.selects C z z).before args s = true) (hc : z.cls = y.cls) (hp : s.PrivateAt y) (hi : (Cond.instanceMethod y).before args s = true) (hy : y.cls ≠ "java/lang/invoke/MethodHandle" ∧ y.cls ≠ "java/lang/invoke/VarHandle") : (Cond.selects y.cls y y).before args s = true := by
  obtain ⟨c2, r2, m2, -, -, q3, -, kP, hkP, hkPi⟩ := Cond.selects_spec w
  exact selects_self_of_private (by rw [← hc]; exact findClass_of_methodNamed q3) hkP hkPi hp hi hy
theorem own_max64 (x : Int64) : ¬ (9223372036854775807 : Int64) < x := fun h => by have := rng64 x; rw [Int64.lt_iff_toInt_lt, show (9223372036854775807 : Int64).toInt = 9223372036854775807 by decide] at h; omega
theorem own_min64 (x : Int64) : ¬ x < (-9223372036854775808 : Int64) := fun h => by have := rng64 x; rw [Int64.lt_iff_toInt_lt, show (-9223372036854775808 : Int64).toInt = -9223372036854775808 by decide] at h; omega
theorem own_root {Z : State} {a0 : Array Value} {O K : String} {n : Nat} (w : (Cond.noSuperclass O).before a0 Z = true) (wk : (Cond.instantiable K n).before a0 Z = true) (hn : O ≠ K) : NS Z O K := by
  obtain ⟨c, k, h1, h2, h3, -, -⟩ := Cond.noSuperclass_spec w
  obtain ⟨t, kt, g1, -⟩ := Cond.instantiable_spec wk
  have ne := ids_ne h1 g1 hn
  refine ⟨c, t, h1, g1, fun fuel => ?_⟩
  cases fuel with
  | zero => rfl
  | succ f => simp [Vm.isSubclassAux, ne, h2, h3]
theorem own_no {Z : State} {a0 : Array Value} {C S K : String} {n : Nat} (w : (Cond.superclass C S).before a0 Z = true) (wk : (Cond.instantiable K n).before a0 Z = true) (q : NS Z C K) (hn : C ≠ K) : ∃ c t, Z.vm.findClass C = some c ∧ Z.vm.findClass K = some t ∧ Z.vm.assignable c t = false := by
  obtain ⟨c, t, h0, g0, n3⟩ := q
  obtain ⟨p, k, kp, h1, h2, h3, h4, h5, -, h7⟩ := Cond.superclass_spec h0 w
  obtain ⟨t', k', g1, g2, g3, g4, -⟩ := Cond.instantiable_spec wk
  cases g0.symm.trans g1
  have ne := ids_ne h0 g0 hn
  have g5 : k'.isInterface = false := by simp only [Bool.or_eq_false_iff] at g4; exact g4.1
  refine ⟨c, t, h0, g0, ?_⟩
  show Z.vm.assignableAux (255 + 1) c t = false
  simp [Vm.assignableAux, ne, h2, g2, h5, g3, g5, Vm.isSubclass, n3]
theorem own_sub {x k : Int32} {n lo hi : Int} (hk : k.toInt = n) (hx : lo ≤ x.toInt ∧ x.toInt ≤ hi) (h1 : -2147483648 ≤ lo - n) (h2 : hi - n < 2147483648) : lo - n ≤ (x - k).toInt ∧ (x - k).toInt ≤ hi - n := by
  have := c_isub x k; have := rng32 (x - k); rw [hk] at *; omega
theorem own_dbl {x : Int32} {lo hi : Int} (hx : lo ≤ x.toInt ∧ x.toInt ≤ hi) (h1 : -1073741824 ≤ lo) (h2 : hi < 1073741824) : 2 * lo ≤ ((2 : Int32) * x).toInt ∧ ((2 : Int32) * x).toInt ≤ 2 * hi := by
  have := c_imul 2 x; have := rng32 (2 * x); rw [show (2 : Int32).toInt = 2 by decide] at *; omega
theorem own_nz {x : Int32} (h : 0 ≤ x.toInt ∧ x.toInt ≤ 1) : nar .boolean x = x := by
  have q : x = 0 ∨ x = 1 := by
    rcases (by omega : x.toInt = 0 ∨ x.toInt = 1) with q | q
    · exact Or.inl (own_geq (by decide) q)
    · exact Or.inr (own_geq (by decide) q)
  rcases q with rfl | rfl <;> decide
theorem own_fz {x : Int32} (h : 0 ≤ x.toInt ∧ x.toInt ≤ 1) : fits .boolean (.int x) = true := by
  have q : x = 0 ∨ x = 1 := by
    rcases (by omega : x.toInt = 0 ∨ x.toInt = 1) with q | q
    · exact Or.inl (own_geq (by decide) q)
    · exact Or.inr (own_geq (by decide) q)
  rcases q with rfl | rfl <;> decide
theorem own_nb8 (x : Int32) : nar .byte (x.toInt8.toInt32) = x.toInt8.toInt32 := by
  show (x.toInt8.toInt32).toInt8.toInt32 = x.toInt8.toInt32
  simp
theorem own_ldcF {p : Program} {l : Launch} {e : Env} {R : Room} {s : State} {m : MethodId} {args : Array Value} {below : List Frame} {meth : Method} {c : Code} {T : State} {locs : List Loc} {cells slots : Nat} {Z : State} {a0 : Array Value} {own : String} {index : Nat} {b : UInt32} {g : JFrame}
    (X : Stand p l e R s m args below meth c T locs cells slots) (hx : p.tables.exec = Jvm.exec) (hZ : Z.Warmed39 s.vm) (hown : s.vm.findClass own = some m.cls) (w : (Cond.constantFloat own index b).before a0 Z = true) (hg : g.method = m) (hd : decode c.code g.pc = .ok (.ldc index, 2)) :
    ∀ target, Steps p.tables e below (T.setTop { g with pc := g.pc + 2, stack := .float b :: g.stack }) target → Steps p.tables e below (T.setTop g) target := by
  obtain ⟨k, cf, h1, h2, h3⟩ := Cond.constantFloat_spec hown (mvT (args := args) hZ w)
  exact X.ldcFloat hx h1 h2 h3 hg hd
theorem own_eqR {Z : State} {args : Array Value} {a b : Term} {idx : List Nat} {w : Addr} (hb : b.eval args Z none idx Z = some (.ref w)) (h : (Cond.eq a b).value args Z none Z idx = some true) : a.eval args Z none idx Z = some (.ref w) := by
  simp only [Cond.value, hb] at h
  cases ht : a.eval args Z none idx Z with
  | none => simp [ht] at h
  | some x => cases x <;> simp [ht] at h ⊢; exact h
section Y
variable {p : Program} {l : Launch} {e : Env} {R : Room} {s : State} {m : MethodId} {args : Array Value} {below : List Frame} {meth : Method} {c : Code} {T : State} {locs : List Loc} {cells slots : Nat} {Z : State} {a0 : Array Value} {h : Heap} {code : ByteArray} {pc : Nat} {L : Array Slot} {S : List Value} {t : State}
theorem yg (X : Stand p l e R s m args below meth c T locs cells slots) (hx : p.tables.exec = Jvm.exec) (hZ : Z.Warmed39 s.vm) {own R0 n d : String} {index : Nat} (hown : s.vm.findClass own = some m.cls) (hby : c.code = code) (w : (Cond.fieldLink own index R0 n d).before a0 Z = true) (eT : T.heap = h) {a : Addr} {v : Value} (F : Fld Z h a R0 n d v) (pc : Nat) (L : Array Slot) (rest : List Value) (hd : decode code pc = .ok (.getfield index, 3)) :
    ∃ T', Stand p l e R s m args below meth c T' locs cells slots ∧ T'.heap = h ∧ ∀ t, Steps p.tables e below (T'.setTop (mkF m (pc + 3) L (v :: rest))) t → Steps p.tables e below (T.setTop (mkF m pc L (.ref a :: rest))) t :=
  getF X hx hZ hown (host := "") (Or.inl w) Via.refl eT F (g := mkF m pc L (.ref a :: rest)) rfl rfl (hb hby hd)
theorem yag (X : Stand p l e R s m args below meth c T locs cells slots) (hx : p.tables.exec = Jvm.exec) (hZ : Z.Warmed39 s.vm) {own R0 n d : String} {index : Nat} (hown : s.vm.findClass own = some m.cls) (hby : c.code = code) (w : (Cond.fieldLink own index R0 n d).before a0 Z = true) (eT : T.heap = h) {a : Addr} {v : Value} (F : Fld Z h a R0 n d v) (pc : Nat) (L : Array Slot) (rest : List Value) {k : Fin 4} (hd0 : decode code pc = .ok (.aload_n k, 1)) (hd : decode code (pc + 1) = .ok (.getfield index, 3)) (hl : L[k.val]? = some (.val (.ref a))) :
    ∃ T', Stand p l e R s m args below meth c T' locs cells slots ∧ T'.heap = h ∧ ∀ t, Steps p.tables e below (T'.setTop (mkF m (pc + 1 + 3) L (v :: rest))) t → Steps p.tables e below (T.setTop (mkF m pc L rest)) t := by
  obtain ⟨T', X', e', st⟩ := yg X hx hZ hown hby w eT F (pc + 1) L rest hd
  exact ⟨T', X', e', fun t k => XS.aloadN X.here hx rfl (hb hby hd0) hl rfl (st t k)⟩
theorem yp (X : Stand p l e R s m args below meth c T locs cells slots) (hx : p.tables.exec = Jvm.exec) (hZ : Z.Warmed39 s.vm) {own R0 n d C : String} {index kk : Nat} {ty : FieldType} (hown : s.vm.findClass own = some m.cls) (hby : c.code = code) (w : (Cond.fieldLink own index R0 n d).before a0 Z = true) (eT : T.heap = h) {a : Addr} {v old : Value} (F : Fld Z h a R0 n d old) (E : Exa Z h a C) (Ly : (Cond.lays C R0 n d).before a0 Z = true) (wi : (Cond.instantiable C kk).before a0 Z = true)
    (hty : parseFieldDescriptor d = some ty) (hn : narrow ty v = v) (hf : fits ty v = true) (pc : Nat) (L : Array Slot) (rest : List Value) (hd : decode code pc = .ok (.putfield index, 3)) :
    ∃ T' h', Stand p l e R s m args below meth c T' (locs ++ [⟨a, RoadKit.slotOf Z R0 n d⟩]) cells slots ∧ T'.heap = h' ∧ Wr h h' a (RoadKit.slotOf Z R0 n d) v ∧ ∀ t, Steps p.tables e below (T'.setTop (mkF m (pc + 3) L rest)) t → Steps p.tables e below (T.setTop (mkF m pc L (v :: .ref a :: rest))) t :=
  putF X hx hZ hown (host := "") (Or.inl w) Via.refl eT F E (Or.inl Ly) wi hty hn hf (g := mkF m pc L (v :: .ref a :: rest)) rfl rfl (hb hby hd)
theorem yan (X : Stand p l e R s m args below meth c T locs cells slots) (hx : p.tables.exec = Jvm.exec) (hby : c.code = code) {k : Fin 4} {v : Value} (hd : decode code pc = .ok (.aload_n k, 1)) (hl : L[k.val]? = some (.val v)) (hv : v.isRef = true) (hr : Steps p.tables e below (T.setTop (mkF m (pc + 1) L (v :: S))) t) : Steps p.tables e below (T.setTop (mkF m pc L S)) t := XS.aloadN X.here hx rfl (hb hby hd) hl hv hr
theorem yal (X : Stand p l e R s m args below meth c T locs cells slots) (hx : p.tables.exec = Jvm.exec) (hby : c.code = code) {k : Nat} {v : Value} (hd : decode code pc = .ok (.aload k, 2)) (hl : L[k]? = some (.val v)) (hv : v.isRef = true) (hr : Steps p.tables e below (T.setTop (mkF m (pc + 2) L (v :: S))) t) : Steps p.tables e below (T.setTop (mkF m pc L S)) t := XS.aload X.here hx rfl (hb hby hd) hl hv hr
theorem yin (X : Stand p l e R s m args below meth c T locs cells slots) (hx : p.tables.exec = Jvm.exec) (hby : c.code = code) {k : Fin 4} {v : Int32} (hd : decode code pc = .ok (.iload_n k, 1)) (hl : L[k.val]? = some (.val (.int v))) (hr : Steps p.tables e below (T.setTop (mkF m (pc + 1) L (.int v :: S))) t) : Steps p.tables e below (T.setTop (mkF m pc L S)) t := XS.iloadN X.here hx rfl (hb hby hd) hl hr
theorem yil (X : Stand p l e R s m args below meth c T locs cells slots) (hx : p.tables.exec = Jvm.exec) (hby : c.code = code) {k : Nat} {v : Int32} (hd : decode code pc = .ok (.iload k, 2)) (hl : L[k]? = some (.val (.int v))) (hr : Steps p.tables e below (T.setTop (mkF m (pc + 2) L (.int v :: S))) t) : Steps p.tables e below (T.setTop (mkF m pc L S)) t := XS.iload X.here hx rfl (hb hby hd) hl hr
theorem yad (X : Stand p l e R s m args below meth c T locs cells slots) (hx : p.tables.exec = Jvm.exec) (hby : c.code = code) {x y : Int32} (hd : decode code pc = .ok (.iadd, 1)) (hr : Steps p.tables e below (T.setTop (mkF m (pc + 1) L (.int (x + y) :: S))) t) : Steps p.tables e below (T.setTop (mkF m pc L (.int y :: .int x :: S))) t := XS.iadd X.here hx rfl (hb hby hd) rfl hr
theorem ysu (X : Stand p l e R s m args below meth c T locs cells slots) (hx : p.tables.exec = Jvm.exec) (hby : c.code = code) {x y : Int32} (hd : decode code pc = .ok (.isub, 1)) (hr : Steps p.tables e below (T.setTop (mkF m (pc + 1) L (.int (x - y) :: S))) t) : Steps p.tables e below (T.setTop (mkF m pc L (.int y :: .int x :: S))) t := XS.isub X.here hx rfl (hb hby hd) rfl hr
theorem yis (X : Stand p l e R s m args below meth c T locs cells slots) (hx : p.tables.exec = Jvm.exec) (hby : c.code = code) {k : Nat} {x : Int32} {l' : Array Slot} (hd : decode code pc = .ok (.istore k, 2)) (hl : storeLocals L k (.int x) = some l') (hr : Steps p.tables e below (T.setTop (mkF m (pc + 2) l' S)) t) : Steps p.tables e below (T.setTop (mkF m pc L (.int x :: S))) t := XS.istore X.here hx rfl (hb hby hd) rfl hl hr
theorem yit (X : Stand p l e R s m args below meth c T locs cells slots) (hx : p.tables.exec = Jvm.exec) (hby : c.code = code) {k : Fin 4} {x : Int32} {l' : Array Slot} (hd : decode code pc = .ok (.istore_n k, 1)) (hl : storeLocals L k.val (.int x) = some l') (hr : Steps p.tables e below (T.setTop (mkF m (pc + 1) l' S)) t) : Steps p.tables e below (T.setTop (mkF m pc L (.int x :: S))) t := XS.istoreN X.here hx rfl (hb hby hd) rfl hl hr
theorem ygo (X : Stand p l e R s m args below meth c T locs cells slots) (hx : p.tables.exec = Jvm.exec) (hby : c.code = code) {o : Int} (pc0 pc' : Nat) (hpc : pc = pc0) (hd : decode code pc = .ok (.goto o, 3)) (ho : 0 ≤ (pc0 : Int) + o ∧ ((pc0 : Int) + o).toNat = pc') (hr : Steps p.tables e below (T.setTop (mkF m pc' L S)) t) : Steps p.tables e below (T.setTop (mkF m pc L S)) t := XS.goto X.here hx rfl (pc0 := pc0) (pc' := pc') hpc (hb hby hd) ho.1 ho.2 hr
theorem yye (X : Stand p l e R s m args below meth c T locs cells slots) (hx : p.tables.exec = Jvm.exec) (hby : c.code = code) {cd : ClassFile.Cond} {x y : Int32} {o : Int} (pc0 pc' : Nat) (hpc : pc = pc0) (hd : decode code pc = .ok (.if_icmp cd o, 3)) (hc : if_icmp.holds cd x y = true) (ho : 0 ≤ (pc0 : Int) + o ∧ ((pc0 : Int) + o).toNat = pc') (hr : Steps p.tables e below (T.setTop (mkF m pc' L S)) t) : Steps p.tables e below (T.setTop (mkF m pc L (.int y :: .int x :: S))) t := XS.icmpYes X.here hx rfl (pc0 := pc0) (pc' := pc') hpc (hb hby hd) rfl hc ho.1 ho.2 hr
theorem yno (X : Stand p l e R s m args below meth c T locs cells slots) (hx : p.tables.exec = Jvm.exec) (hby : c.code = code) {cd : ClassFile.Cond} {o : Int} {x y : Int32} (hd : decode code pc = .ok (.if_icmp cd o, 3)) (hc : if_icmp.holds cd x y = false) (hr : Steps p.tables e below (T.setTop (mkF m (pc + 3) L S)) t) : Steps p.tables e below (T.setTop (mkF m pc L (.int y :: .int x :: S))) t := XS.icmpNo X.here hx rfl (hb hby hd) rfl hc hr
theorem yic (X : Stand p l e R s m args below meth c T locs cells slots) (hx : p.tables.exec = Jvm.exec) (hby : c.code = code) {i : Int} (hd : decode code pc = .ok (.iconst i, 1)) (hr : Steps p.tables e below (T.setTop (mkF m (pc + 1) L (.int (Int32.ofInt i) :: S))) t) : Steps p.tables e below (T.setTop (mkF m pc L S)) t := XS.iconst X.here hx rfl (hb hby hd) hr
theorem yfn (X : Stand p l e R s m args below meth c T locs cells slots) (hx : p.tables.exec = Jvm.exec) (hby : c.code = code) {cd : ClassFile.Cond} {o : Int} {x : Int32} (hd : decode code pc = .ok (.ifCond cd o, 3)) (hc : ifCond.holds cd x = false) (hr : Steps p.tables e below (T.setTop (mkF m (pc + 3) L S)) t) : Steps p.tables e below (T.setTop (mkF m pc L (.int x :: S))) t := XS.ifNo X.here hx rfl (hb hby hd) rfl hc hr
theorem yv {n : Nat} {own C : String} {index : Nat} {y : MethodName} {bytes : ByteArray} {maxL : Nat} {ret : Option FieldType} {rm : Room} {a : Addr} {Q : Option Value → Heap → List Loc → Prop}
    (X : Stand p l e R s m args below meth c T locs cells slots) (hx : p.tables.exec = Jvm.exec) (hZ : Z.Warmed39 s.vm) (hown : s.vm.findClass own = some m.cls) (hby : c.code = code) (hml : c.maxLocals = n)
    (w1 : (Cond.methodLink own index y).before a0 Z = true) (w2 : (Cond.declares y).before a0 Z = true) (w3 : (Cond.selects C y y).before a0 Z = true) (w4 : (Cond.instanceMethod y).before a0 Z = true) (wc : (Cond.code y bytes maxL ret).before a0 Z = true) (wz : (Cond.initialized y.cls).before a0 Z = true)
    (eT : T.heap = h) (E : Exa Z h a C) (argsL rest : List Value)
    (hM : MetFree l y (head1 [Cond.code y bytes maxL ret] rm) (fun a' U => a' = (Value.ref a :: argsL).toArray ∧ Z.Warmed39 U.vm ∧ U.heap = h) (fun _ _ _ _ _ => True) (fun _ U o U' => ∃ v L, o = .returned v ∧ Q v U'.heap L ∧ FrameEnd U o U' L rm.cells rm.slots))
    (pc : Nat) (L : Array Slot) (hL : L.size = n) (hd : decode code pc = .ok (.invokevirtual index, 3)) (hlen : ∀ sig, parseMethodDescriptor y.desc = some sig → argsL.length = sig.parameters.length)
    (W c1 s1 : Nat) (h1 : cells + rm.cells = c1 := by rfl) (h2 : slots + rm.slots = s1 := by rfl) (hW : (rest.map fun v => v.category).sum ≤ W := by exact Nat.le_of_eq rfl) (hf : rm.frames + 1 ≤ R.frames := by decide) (hl : W + (maxL + 11) + rm.locals ≤ R.locals := by decide) (hc : c1 ≤ R.cells := by decide) (hsl : s1 ≤ R.slots := by decide) (hy : y.cls ≠ "java/lang/invoke/MethodHandle" ∧ y.cls ≠ "java/lang/invoke/VarHandle" := by decide) :
    ∃ v T' L', Stand p l e R s m args below meth c T' (locs ++ L') c1 s1 ∧ Q v T'.heap L' ∧ ∀ t, Steps p.tables e below (T'.setTop (mkF m (pc + 3) L (v.toList ++ rest))) t → Steps p.tables e below (T.setTop (mkF m pc L (argsL.reverse ++ .ref a :: rest))) t :=
  own_vb X hx hZ hown w1 w2 w3 w4 wc wz eT E hM (g := mkF m pc L (argsL.reverse ++ .ref a :: rest)) rfl (hL.trans hml.symm) rfl (hb hby hd) hlen (W := W) h1 h2 (by show 2 * 0 + _ ≤ _; omega) hf hl hc hsl hy
end Y
abbrev Go (p : Program) (e : Env) (below : List Frame) (T : State) (f : JFrame) (E : State) : Prop := ∀ t, Steps p.tables e below (T.setTop f) t → Steps p.tables e below E t
abbrev MF (l : Launch) (x : MethodName) (code : ByteArray) (n : Nat) (r : Option FieldType) (ws : List Jvm.Cond) (R : Room) (A : Array Value) (Z : State) (h0 : Heap) (Q : Option Value → Heap → List Loc → Prop) : Prop :=
  MetFree l x (head1 (Jvm.Cond.code x code n r :: ws) R) (fun a U => a = A ∧ Z.Warmed39 U.vm ∧ U.heap = h0) (fun _ _ _ _ _ => True) (fun _ U o U' => ∃ v L, o = .returned v ∧ Q v U'.heap L ∧ FrameEnd U o U' L R.cells R.slots)
abbrev HW (a0 : Array Value) (Z : State) : Prop := ∀ d ∈ tables_1, d.before a0 Z = true

abbrev yn0 : MethodName := ⟨"com/example/horn1/horn1/engine/Clause", "<init>", "([Lcom/example/horn1/horn1/engine/Template;[Lcom/example/horn1/horn1/engine/Template;[Lcom/example/horn1/horn1/engine/Predicate;Lcom/example/horn1/horn1/engine/Template;I)V"⟩
abbrev yn1 : MethodName := ⟨"com/example/horn1/horn1/engine/ClauseList", "<init>", "()V"⟩
abbrev yn2 : MethodName := ⟨"com/example/horn1/horn1/engine/ClauseList", "removeAll", "(J)V"⟩
abbrev yn3 : MethodName := ⟨"com/example/horn1/horn1/engine/ClauseList", "size", "()I"⟩
abbrev yn4 : MethodName := ⟨"com/example/horn1/horn1/engine/ClauseList", "first", "()I"⟩
abbrev yn5 : MethodName := ⟨"com/example/horn1/horn1/engine/ClauseList", "end", "()I"⟩
abbrev yn6 : MethodName := ⟨"com/example/horn1/horn1/engine/ClauseList", "slots", "()[Lcom/example/horn1/horn1/engine/Clause;"⟩
abbrev yn7 : MethodName := ⟨"com/example/horn1/horn1/engine/Clause", "isLive", "()Z"⟩
abbrev yn8 : MethodName := ⟨"com/example/horn1/horn1/engine/Clause", "isVisibleAt", "(J)Z"⟩
abbrev yn9 : MethodName := ⟨"com/example/horn1/horn1/engine/ClauseListRemoveAllPinLaw", "markedAs", "(Lcom/example/horn1/horn1/engine/Clause;JJ)Z"⟩
abbrev yn10 : MethodName := ⟨"java/lang/Math", "max", "(II)I"⟩
abbrev yn11 : MethodName := ⟨"com/example/horn1/horn1/engine/ClauseList", "move", "()V"⟩
abbrev yn12 : MethodName := ⟨"com/example/horn1/horn1/engine/ClauseList", "addLast", "(Lcom/example/horn1/horn1/engine/Clause;)V"⟩
abbrev yn13 : MethodName := ⟨"com/example/horn1/horn1/engine/ClauseList", "addFirst", "(Lcom/example/horn1/horn1/engine/Clause;)V"⟩
abbrev yn14 : MethodName := ⟨"com/example/horn1/horn1/engine/Clause", "remove", "(J)V"⟩
abbrev yn15 : MethodName := ⟨"com/example/horn1/horn1/engine/ClauseList", "remove", "(Lcom/example/horn1/horn1/engine/Clause;J)V"⟩
def GW (Z : State) (w1 : Addr) (kw1 : ClassId) : Prop :=
  (Sta Z Z.heap "com/example/horn1/horn1/engine/ClauseList" "NONE" "[Lcom/example/horn1/horn1/engine/Clause;" (.ref w1))
  ∧ (Arv Z Z.heap w1 kw1 (.object "com/example/horn1/horn1/engine/Clause") (0 : Int32) [] .null)
def Q0 (n0 : Nat) (v : Option Value) (h : Heap) (L : List Loc) : Prop := v = some (.int (1 : Int32)) ∧ Fr n0 L
theorem w_5 {a0 : Array Value} {Z : State} (hw : ∀ d ∈ tables_1, d.before a0 Z = true) : (Jvm.Cond.initialized "com/example/horn1/horn1/engine/Clause").before a0 Z = true := own_w hw 5 rfl
theorem w_14 {a0 : Array Value} {Z : State} (hw : ∀ d ∈ tables_1, d.before a0 Z = true) : (Jvm.Cond.lays "com/example/horn1/horn1/engine/Clause" "com/example/horn1/horn1/engine/Clause" "removed" "J").before a0 Z = true := own_w hw 14 rfl
theorem w_32 {a0 : Array Value} {Z : State} (hw : ∀ d ∈ tables_1, d.before a0 Z = true) : (Jvm.Cond.instantiable "com/example/horn1/horn1/engine/ClauseList" (6 : Nat)).before a0 Z = true := own_w hw 32 rfl
theorem w_33 {a0 : Array Value} {Z : State} (hw : ∀ d ∈ tables_1, d.before a0 Z = true) : (Jvm.Cond.initialized "com/example/horn1/horn1/engine/ClauseList").before a0 Z = true := own_w hw 33 rfl
theorem w_40 {a0 : Array Value} {Z : State} (hw : ∀ d ∈ tables_1, d.before a0 Z = true) : (Jvm.Cond.fieldLink "com/example/horn1/horn1/engine/ClauseList" (13 : Nat) "com/example/horn1/horn1/engine/ClauseList" "slots" "[Lcom/example/horn1/horn1/engine/Clause;").before a0 Z = true := own_w hw 40 rfl
theorem w_41 {a0 : Array Value} {Z : State} (hw : ∀ d ∈ tables_1, d.before a0 Z = true) : (Jvm.Cond.lays "com/example/horn1/horn1/engine/ClauseList" "com/example/horn1/horn1/engine/ClauseList" "slots" "[Lcom/example/horn1/horn1/engine/Clause;").before a0 Z = true := own_w hw 41 rfl
theorem w_43 {a0 : Array Value} {Z : State} (hw : ∀ d ∈ tables_1, d.before a0 Z = true) : (Jvm.Cond.declares ({ cls := "com/example/horn1/horn1/engine/ClauseList", name := "removeAll", desc := "(J)V" } : Jvm.MethodName)).before a0 Z = true := own_w hw 43 rfl
theorem w_44 {a0 : Array Value} {Z : State} (hw : ∀ d ∈ tables_1, d.before a0 Z = true) : (Jvm.Cond.instanceMethod ({ cls := "com/example/horn1/horn1/engine/ClauseList", name := "removeAll", desc := "(J)V" } : Jvm.MethodName)).before a0 Z = true := own_w hw 44 rfl
theorem w_47 {a0 : Array Value} {Z : State} (hw : ∀ d ∈ tables_1, d.before a0 Z = true) : (Jvm.Cond.fieldLink "com/example/horn1/horn1/engine/ClauseList" (16 : Nat) "com/example/horn1/horn1/engine/ClauseList" "first" "I").before a0 Z = true := own_w hw 47 rfl
theorem w_48 {a0 : Array Value} {Z : State} (hw : ∀ d ∈ tables_1, d.before a0 Z = true) : (Jvm.Cond.lays "com/example/horn1/horn1/engine/ClauseList" "com/example/horn1/horn1/engine/ClauseList" "first" "I").before a0 Z = true := own_w hw 48 rfl
theorem w_49 {a0 : Array Value} {Z : State} (hw : ∀ d ∈ tables_1, d.before a0 Z = true) : (Jvm.Cond.fieldLink "com/example/horn1/horn1/engine/ClauseList" (20 : Nat) "com/example/horn1/horn1/engine/ClauseList" "end" "I").before a0 Z = true := own_w hw 49 rfl
theorem w_50 {a0 : Array Value} {Z : State} (hw : ∀ d ∈ tables_1, d.before a0 Z = true) : (Jvm.Cond.lays "com/example/horn1/horn1/engine/ClauseList" "com/example/horn1/horn1/engine/ClauseList" "end" "I").before a0 Z = true := own_w hw 50 rfl
theorem w_51 {a0 : Array Value} {Z : State} (hw : ∀ d ∈ tables_1, d.before a0 Z = true) : (Jvm.Cond.fieldLink "com/example/horn1/horn1/engine/ClauseList" (33 : Nat) "com/example/horn1/horn1/engine/ClauseList" "low" "I").before a0 Z = true := own_w hw 51 rfl
theorem w_52 {a0 : Array Value} {Z : State} (hw : ∀ d ∈ tables_1, d.before a0 Z = true) : (Jvm.Cond.lays "com/example/horn1/horn1/engine/ClauseList" "com/example/horn1/horn1/engine/ClauseList" "low" "I").before a0 Z = true := own_w hw 52 rfl
theorem w_53 {a0 : Array Value} {Z : State} (hw : ∀ d ∈ tables_1, d.before a0 Z = true) : (Jvm.Cond.fieldLink "com/example/horn1/horn1/engine/ClauseList" (23 : Nat) "com/example/horn1/horn1/engine/ClauseList" "removed" "I").before a0 Z = true := own_w hw 53 rfl
theorem w_54 {a0 : Array Value} {Z : State} (hw : ∀ d ∈ tables_1, d.before a0 Z = true) : (Jvm.Cond.lays "com/example/horn1/horn1/engine/ClauseList" "com/example/horn1/horn1/engine/ClauseList" "removed" "I").before a0 Z = true := own_w hw 54 rfl
theorem w_56 {a0 : Array Value} {Z : State} (hw : ∀ d ∈ tables_1, d.before a0 Z = true) : (Jvm.Cond.lays "com/example/horn1/horn1/engine/ClauseList" "com/example/horn1/horn1/engine/ClauseList" "addsFirst" "Z").before a0 Z = true := own_w hw 56 rfl
theorem w_58 {a0 : Array Value} {Z : State} (hw : ∀ d ∈ tables_1, d.before a0 Z = true) : (Jvm.Cond.declares ({ cls := "com/example/horn1/horn1/engine/ClauseList", name := "size", desc := "()I" } : Jvm.MethodName)).before a0 Z = true := own_w hw 58 rfl
theorem w_59 {a0 : Array Value} {Z : State} (hw : ∀ d ∈ tables_1, d.before a0 Z = true) : (Jvm.Cond.instanceMethod ({ cls := "com/example/horn1/horn1/engine/ClauseList", name := "size", desc := "()I" } : Jvm.MethodName)).before a0 Z = true := own_w hw 59 rfl
theorem w_82 {a0 : Array Value} {Z : State} (hw : ∀ d ∈ tables_1, d.before a0 Z = true) : (Jvm.Cond.declares ({ cls := "com/example/horn1/horn1/engine/Clause", name := "isLive", desc := "()Z" } : Jvm.MethodName)).before a0 Z = true := own_w hw 82 rfl
theorem w_83 {a0 : Array Value} {Z : State} (hw : ∀ d ∈ tables_1, d.before a0 Z = true) : (Jvm.Cond.instanceMethod ({ cls := "com/example/horn1/horn1/engine/Clause", name := "isLive", desc := "()Z" } : Jvm.MethodName)).before a0 Z = true := own_w hw 83 rfl
theorem w_84 {a0 : Array Value} {Z : State} (hw : ∀ d ∈ tables_1, d.before a0 Z = true) : (Jvm.Cond.selects "com/example/horn1/horn1/engine/Clause" ({ cls := "com/example/horn1/horn1/engine/Clause", name := "isLive", desc := "()Z" } : Jvm.MethodName) ({ cls := "com/example/horn1/horn1/engine/Clause", name := "isLive", desc := "()Z" } : Jvm.MethodName)).before a0 Z = true := own_w hw 84 rfl
theorem w_85 {a0 : Array Value} {Z : State} (hw : ∀ d ∈ tables_1, d.before a0 Z = true) : (Jvm.Cond.code ({ cls := "com/example/horn1/horn1/engine/Clause", name := "isLive", desc := "()Z" } : Jvm.MethodName) prog_40_method_7_code (1 : Nat) (Option.some Jvm.ClassFile.FieldType.boolean)).before a0 Z = true := own_w hw 85 rfl
theorem w_103 {a0 : Array Value} {Z : State} (hw : ∀ d ∈ tables_1, d.before a0 Z = true) : (Jvm.Cond.initialized "java/lang/Math").before a0 Z = true := own_w hw 103 rfl
theorem w_113 {a0 : Array Value} {Z : State} (hw : ∀ d ∈ tables_1, d.before a0 Z = true) : (Jvm.Cond.methodLink "com/example/horn1/horn1/engine/ClauseList" (42 : Nat) ({ cls := "com/example/horn1/horn1/engine/Clause", name := "isLive", desc := "()Z" } : Jvm.MethodName)).before a0 Z = true := own_w hw 113 rfl
theorem w_114 {a0 : Array Value} {Z : State} (hw : ∀ d ∈ tables_1, d.before a0 Z = true) : (Jvm.Cond.methodLink "com/example/horn1/horn1/engine/ClauseList" (36 : Nat) ({ cls := "com/example/horn1/horn1/engine/Clause", name := "remove", desc := "(J)V" } : Jvm.MethodName)).before a0 Z = true := own_w hw 114 rfl
theorem w_115 {a0 : Array Value} {Z : State} (hw : ∀ d ∈ tables_1, d.before a0 Z = true) : (Jvm.Cond.declares ({ cls := "com/example/horn1/horn1/engine/Clause", name := "remove", desc := "(J)V" } : Jvm.MethodName)).before a0 Z = true := own_w hw 115 rfl
theorem w_116 {a0 : Array Value} {Z : State} (hw : ∀ d ∈ tables_1, d.before a0 Z = true) : (Jvm.Cond.instanceMethod ({ cls := "com/example/horn1/horn1/engine/Clause", name := "remove", desc := "(J)V" } : Jvm.MethodName)).before a0 Z = true := own_w hw 116 rfl
theorem w_118 {a0 : Array Value} {Z : State} (hw : ∀ d ∈ tables_1, d.before a0 Z = true) : (Jvm.Cond.code ({ cls := "com/example/horn1/horn1/engine/Clause", name := "remove", desc := "(J)V" } : Jvm.MethodName) prog_40_method_9_code (3 : Nat) (Option.none : Option Jvm.ClassFile.FieldType)).before a0 Z = true := own_w hw 118 rfl
abbrev cn0 : String := "Lcom/example/horn1/horn1/engine/Template;"
abbrev cn1 : String := "Lcom/example/horn1/horn1/term/Atom;"
abbrev cn2 : String := "Lcom/example/horn1/horn1/term/Term;"
abbrev cn3 : String := "[Lcom/example/horn1/horn1/engine/Clause;"
abbrev cn4 : String := "[Lcom/example/horn1/horn1/engine/Predicate;"
abbrev cn5 : String := "[Lcom/example/horn1/horn1/engine/Template;"
abbrev cn6 : String := "com/example/horn1/horn1/engine/Clause"
abbrev cn7 : String := "com/example/horn1/horn1/engine/ClauseList"
abbrev cn8 : String := "com/example/horn1/horn1/engine/ClauseListRemoveAllPinLaw"
abbrev cn9 : String := "com/example/horn1/horn1/engine/Predicate"
abbrev cn10 : String := "com/example/horn1/horn1/engine/Template"
abbrev cn11 : String := "com/example/horn1/horn1/term/Atom"
abbrev cn12 : String := "com/example/horn1/horn1/term/Term"
abbrev kd0 := prog_40_method_1_code
abbrev kd1 := prog_41_method_1_code
abbrev kd2 := prog_41_method_9_code
abbrev kd3 := prog_41_method_5_code
abbrev kd4 := prog_41_method_3_code
abbrev kd5 := prog_41_method_4_code
abbrev kd6 := prog_41_method_2_code
abbrev kd7 := method_3_code
abbrev kd8 := prog_40_method_7_code
abbrev kd9 := prog_40_method_8_code
abbrev kd10 := prog_41_method_6_code
abbrev kd11 := prog_41_method_10_code
abbrev kd12 := jdk_29_method_65_code
abbrev kd13 := prog_41_method_7_code
abbrev kd14 := prog_40_method_9_code
abbrev kd15 := prog_41_method_8_code
theorem d0_0 : decode kd0 0 = .ok (.aload_n 0, 1) := by decide +kernel
theorem d0_1 : decode kd0 1 = .ok (.invokespecial 3, 3) := by decide +kernel
theorem d0_4 : decode kd0 4 = .ok (.aload_n 0, 1) := by decide +kernel
theorem d0_5 : decode kd0 5 = .ok (.ldc2_w 11, 3) := by decide +kernel
theorem d0_8 : decode kd0 8 = .ok (.putfield 13, 3) := by decide +kernel
theorem d0_11 : decode kd0 11 = .ok (.aload_n 0, 1) := by decide +kernel
theorem d0_12 : decode kd0 12 = .ok (.aload_n 1, 1) := by decide +kernel
theorem d0_13 : decode kd0 13 = .ok (.putfield 17, 3) := by decide +kernel
theorem sn0 {a0 : Array Value} {Z : State} (hw : HW a0 Z) : RoadKit.slotOf Z cn6 "head" cn5 ≠ RoadKit.slotOf Z cn6 "removed" "J" := slot_ne (Or.inr (own_w hw 16 rfl)) (Or.inl (w_14 hw)) (by decide) (t := (.array (.object cn10))) (t' := .long) (by decide) (by decide)
theorem d0_16 : decode kd0 16 = .ok (.aload_n 0, 1) := by decide +kernel
theorem d0_17 : decode kd0 17 = .ok (.aload_n 2, 1) := by decide +kernel
theorem d0_18 : decode kd0 18 = .ok (.putfield 21, 3) := by decide +kernel
theorem sn1 {a0 : Array Value} {Z : State} (hw : HW a0 Z) : RoadKit.slotOf Z cn6 "goals" cn5 ≠ RoadKit.slotOf Z cn6 "removed" "J" := slot_ne (Or.inr (own_w hw 18 rfl)) (Or.inl (w_14 hw)) (by decide) (t := (.array (.object cn10))) (t' := .long) (by decide) (by decide)
theorem sn2 {a0 : Array Value} {Z : State} (hw : HW a0 Z) : RoadKit.slotOf Z cn6 "goals" cn5 ≠ RoadKit.slotOf Z cn6 "head" cn5 := slot_ne (Or.inr (own_w hw 18 rfl)) (Or.inr (own_w hw 16 rfl)) (by decide) (t := (.array (.object cn10))) (t' := (.array (.object cn10))) (by decide) (by decide)
theorem d0_21 : decode kd0 21 = .ok (.aload_n 0, 1) := by decide +kernel
theorem d0_22 : decode kd0 22 = .ok (.aload_n 3, 1) := by decide +kernel
theorem d0_23 : decode kd0 23 = .ok (.putfield 24, 3) := by decide +kernel
theorem sn3 {a0 : Array Value} {Z : State} (hw : HW a0 Z) : RoadKit.slotOf Z cn6 "goalPredicates" cn4 ≠ RoadKit.slotOf Z cn6 "removed" "J" := slot_ne (Or.inr (own_w hw 20 rfl)) (Or.inl (w_14 hw)) (by decide) (t := (.array (.object cn9))) (t' := .long) (by decide) (by decide)
theorem sn4 {a0 : Array Value} {Z : State} (hw : HW a0 Z) : RoadKit.slotOf Z cn6 "goalPredicates" cn4 ≠ RoadKit.slotOf Z cn6 "head" cn5 := slot_ne (Or.inr (own_w hw 20 rfl)) (Or.inr (own_w hw 16 rfl)) (by decide) (t := (.array (.object cn9))) (t' := (.array (.object cn10))) (by decide) (by decide)
theorem sn5 {a0 : Array Value} {Z : State} (hw : HW a0 Z) : RoadKit.slotOf Z cn6 "goalPredicates" cn4 ≠ RoadKit.slotOf Z cn6 "goals" cn5 := slot_ne (Or.inr (own_w hw 20 rfl)) (Or.inr (own_w hw 18 rfl)) (by decide) (t := (.array (.object cn9))) (t' := (.array (.object cn10))) (by decide) (by decide)
theorem d0_26 : decode kd0 26 = .ok (.aload_n 0, 1) := by decide +kernel
theorem d0_27 : decode kd0 27 = .ok (.aload 4, 2) := by decide +kernel
theorem d0_29 : decode kd0 29 = .ok (.putfield 28, 3) := by decide +kernel
theorem sn6 {a0 : Array Value} {Z : State} (hw : HW a0 Z) : RoadKit.slotOf Z cn6 "body" cn0 ≠ RoadKit.slotOf Z cn6 "removed" "J" := slot_ne (Or.inr (own_w hw 22 rfl)) (Or.inl (w_14 hw)) (by decide) (t := (.object cn10)) (t' := .long) (by decide) (by decide)
theorem sn7 {a0 : Array Value} {Z : State} (hw : HW a0 Z) : RoadKit.slotOf Z cn6 "body" cn0 ≠ RoadKit.slotOf Z cn6 "head" cn5 := slot_ne (Or.inr (own_w hw 22 rfl)) (Or.inr (own_w hw 16 rfl)) (by decide) (t := (.object cn10)) (t' := (.array (.object cn10))) (by decide) (by decide)
theorem sn8 {a0 : Array Value} {Z : State} (hw : HW a0 Z) : RoadKit.slotOf Z cn6 "body" cn0 ≠ RoadKit.slotOf Z cn6 "goals" cn5 := slot_ne (Or.inr (own_w hw 22 rfl)) (Or.inr (own_w hw 18 rfl)) (by decide) (t := (.object cn10)) (t' := (.array (.object cn10))) (by decide) (by decide)
theorem sn9 {a0 : Array Value} {Z : State} (hw : HW a0 Z) : RoadKit.slotOf Z cn6 "body" cn0 ≠ RoadKit.slotOf Z cn6 "goalPredicates" cn4 := slot_ne (Or.inr (own_w hw 22 rfl)) (Or.inr (own_w hw 20 rfl)) (by decide) (t := (.object cn10)) (t' := (.array (.object cn9))) (by decide) (by decide)
theorem d0_32 : decode kd0 32 = .ok (.aload_n 0, 1) := by decide +kernel
theorem d0_33 : decode kd0 33 = .ok (.iload 5, 2) := by decide +kernel
theorem d0_35 : decode kd0 35 = .ok (.putfield 32, 3) := by decide +kernel
theorem sn10 {a0 : Array Value} {Z : State} (hw : HW a0 Z) : RoadKit.slotOf Z cn6 "variables" "I" ≠ RoadKit.slotOf Z cn6 "removed" "J" := slot_ne (Or.inr (own_w hw 24 rfl)) (Or.inl (w_14 hw)) (by decide) (t := .int) (t' := .long) (by decide) (by decide)
theorem sn11 {a0 : Array Value} {Z : State} (hw : HW a0 Z) : RoadKit.slotOf Z cn6 "variables" "I" ≠ RoadKit.slotOf Z cn6 "head" cn5 := slot_ne (Or.inr (own_w hw 24 rfl)) (Or.inr (own_w hw 16 rfl)) (by decide) (t := .int) (t' := (.array (.object cn10))) (by decide) (by decide)
theorem sn12 {a0 : Array Value} {Z : State} (hw : HW a0 Z) : RoadKit.slotOf Z cn6 "variables" "I" ≠ RoadKit.slotOf Z cn6 "goals" cn5 := slot_ne (Or.inr (own_w hw 24 rfl)) (Or.inr (own_w hw 18 rfl)) (by decide) (t := .int) (t' := (.array (.object cn10))) (by decide) (by decide)
theorem sn13 {a0 : Array Value} {Z : State} (hw : HW a0 Z) : RoadKit.slotOf Z cn6 "variables" "I" ≠ RoadKit.slotOf Z cn6 "goalPredicates" cn4 := slot_ne (Or.inr (own_w hw 24 rfl)) (Or.inr (own_w hw 20 rfl)) (by decide) (t := .int) (t' := (.array (.object cn9))) (by decide) (by decide)
theorem sn14 {a0 : Array Value} {Z : State} (hw : HW a0 Z) : RoadKit.slotOf Z cn6 "variables" "I" ≠ RoadKit.slotOf Z cn6 "body" cn0 := slot_ne (Or.inr (own_w hw 24 rfl)) (Or.inr (own_w hw 22 rfl)) (by decide) (t := .int) (t' := (.object cn10)) (by decide) (by decide)
theorem d0_38 : decode kd0 38 = .ok (.aload_n 1, 1) := by decide +kernel
theorem d0_39 : decode kd0 39 = .ok (.arraylength, 1) := by decide +kernel
theorem d0_40 : decode kd0 40 = .ok (.ifCond .le 9, 3) := by decide +kernel
theorem d0_49 : decode kd0 49 = .ok (.aconst_null, 1) := by decide +kernel
theorem d0_50 : decode kd0 50 = .ok (.astore 6, 2) := by decide +kernel
theorem d0_52 : decode kd0 52 = .ok (.aload 6, 2) := by decide +kernel
theorem d0_54 : decode kd0 54 = .ok (.instanceof 36, 3) := by decide +kernel
theorem d0_57 : decode kd0 57 = .ok (.ifCond .eq 18, 3) := by decide +kernel
theorem d0_75 : decode kd0 75 = .ok (.aconst_null, 1) := by decide +kernel
theorem d0_76 : decode kd0 76 = .ok (.astore 7, 2) := by decide +kernel
theorem d0_78 : decode kd0 78 = .ok (.aload 7, 2) := by decide +kernel
theorem d0_80 : decode kd0 80 = .ok (.instanceof 42, 3) := by decide +kernel
theorem d0_83 : decode kd0 83 = .ok (.ifCond .eq 36, 3) := by decide +kernel
theorem d0_119 : decode kd0 119 = .ok (.aload 6, 2) := by decide +kernel
theorem d0_121 : decode kd0 121 = .ok (.instanceof 62, 3) := by decide +kernel
theorem d0_124 : decode kd0 124 = .ok (.ifCond .eq 37, 3) := by decide +kernel
theorem d0_161 : decode kd0 161 = .ok (.aload_n 0, 1) := by decide +kernel
theorem d0_162 : decode kd0 162 = .ok (.aload 7, 2) := by decide +kernel
theorem d0_164 : decode kd0 164 = .ok (.putfield 44, 3) := by decide +kernel
theorem sn15 {a0 : Array Value} {Z : State} (hw : HW a0 Z) : RoadKit.slotOf Z cn6 "keyConstant" cn2 ≠ RoadKit.slotOf Z cn6 "removed" "J" := slot_ne (Or.inr (own_w hw 26 rfl)) (Or.inl (w_14 hw)) (by decide) (t := (.object cn12)) (t' := .long) (by decide) (by decide)
theorem sn16 {a0 : Array Value} {Z : State} (hw : HW a0 Z) : RoadKit.slotOf Z cn6 "keyConstant" cn2 ≠ RoadKit.slotOf Z cn6 "head" cn5 := slot_ne (Or.inr (own_w hw 26 rfl)) (Or.inr (own_w hw 16 rfl)) (by decide) (t := (.object cn12)) (t' := (.array (.object cn10))) (by decide) (by decide)
theorem sn17 {a0 : Array Value} {Z : State} (hw : HW a0 Z) : RoadKit.slotOf Z cn6 "keyConstant" cn2 ≠ RoadKit.slotOf Z cn6 "goals" cn5 := slot_ne (Or.inr (own_w hw 26 rfl)) (Or.inr (own_w hw 18 rfl)) (by decide) (t := (.object cn12)) (t' := (.array (.object cn10))) (by decide) (by decide)
theorem sn18 {a0 : Array Value} {Z : State} (hw : HW a0 Z) : RoadKit.slotOf Z cn6 "keyConstant" cn2 ≠ RoadKit.slotOf Z cn6 "goalPredicates" cn4 := slot_ne (Or.inr (own_w hw 26 rfl)) (Or.inr (own_w hw 20 rfl)) (by decide) (t := (.object cn12)) (t' := (.array (.object cn9))) (by decide) (by decide)
theorem sn19 {a0 : Array Value} {Z : State} (hw : HW a0 Z) : RoadKit.slotOf Z cn6 "keyConstant" cn2 ≠ RoadKit.slotOf Z cn6 "body" cn0 := slot_ne (Or.inr (own_w hw 26 rfl)) (Or.inr (own_w hw 22 rfl)) (by decide) (t := (.object cn12)) (t' := (.object cn10)) (by decide) (by decide)
theorem sn20 {a0 : Array Value} {Z : State} (hw : HW a0 Z) : RoadKit.slotOf Z cn6 "keyConstant" cn2 ≠ RoadKit.slotOf Z cn6 "variables" "I" := slot_ne (Or.inr (own_w hw 26 rfl)) (Or.inr (own_w hw 24 rfl)) (by decide) (t := (.object cn12)) (t' := .int) (by decide) (by decide)
theorem d0_167 : decode kd0 167 = .ok (.aload_n 0, 1) := by decide +kernel
theorem d0_168 : decode kd0 168 = .ok (.aconst_null, 1) := by decide +kernel
theorem d0_169 : decode kd0 169 = .ok (.putfield 51, 3) := by decide +kernel
theorem sn21 {a0 : Array Value} {Z : State} (hw : HW a0 Z) : RoadKit.slotOf Z cn6 "keyName" cn1 ≠ RoadKit.slotOf Z cn6 "removed" "J" := slot_ne (Or.inr (own_w hw 28 rfl)) (Or.inl (w_14 hw)) (by decide) (t := (.object cn11)) (t' := .long) (by decide) (by decide)
theorem sn22 {a0 : Array Value} {Z : State} (hw : HW a0 Z) : RoadKit.slotOf Z cn6 "keyName" cn1 ≠ RoadKit.slotOf Z cn6 "head" cn5 := slot_ne (Or.inr (own_w hw 28 rfl)) (Or.inr (own_w hw 16 rfl)) (by decide) (t := (.object cn11)) (t' := (.array (.object cn10))) (by decide) (by decide)
theorem sn23 {a0 : Array Value} {Z : State} (hw : HW a0 Z) : RoadKit.slotOf Z cn6 "keyName" cn1 ≠ RoadKit.slotOf Z cn6 "goals" cn5 := slot_ne (Or.inr (own_w hw 28 rfl)) (Or.inr (own_w hw 18 rfl)) (by decide) (t := (.object cn11)) (t' := (.array (.object cn10))) (by decide) (by decide)
theorem sn24 {a0 : Array Value} {Z : State} (hw : HW a0 Z) : RoadKit.slotOf Z cn6 "keyName" cn1 ≠ RoadKit.slotOf Z cn6 "goalPredicates" cn4 := slot_ne (Or.inr (own_w hw 28 rfl)) (Or.inr (own_w hw 20 rfl)) (by decide) (t := (.object cn11)) (t' := (.array (.object cn9))) (by decide) (by decide)
theorem sn25 {a0 : Array Value} {Z : State} (hw : HW a0 Z) : RoadKit.slotOf Z cn6 "keyName" cn1 ≠ RoadKit.slotOf Z cn6 "body" cn0 := slot_ne (Or.inr (own_w hw 28 rfl)) (Or.inr (own_w hw 22 rfl)) (by decide) (t := (.object cn11)) (t' := (.object cn10)) (by decide) (by decide)
theorem sn26 {a0 : Array Value} {Z : State} (hw : HW a0 Z) : RoadKit.slotOf Z cn6 "keyName" cn1 ≠ RoadKit.slotOf Z cn6 "variables" "I" := slot_ne (Or.inr (own_w hw 28 rfl)) (Or.inr (own_w hw 24 rfl)) (by decide) (t := (.object cn11)) (t' := .int) (by decide) (by decide)
theorem sn27 {a0 : Array Value} {Z : State} (hw : HW a0 Z) : RoadKit.slotOf Z cn6 "keyName" cn1 ≠ RoadKit.slotOf Z cn6 "keyConstant" cn2 := slot_ne (Or.inr (own_w hw 28 rfl)) (Or.inr (own_w hw 26 rfl)) (by decide) (t := (.object cn11)) (t' := (.object cn12)) (by decide) (by decide)
theorem d0_172 : decode kd0 172 = .ok (.aload_n 0, 1) := by decide +kernel
theorem d0_173 : decode kd0 173 = .ok (.iconst 0, 1) := by decide +kernel
theorem d0_174 : decode kd0 174 = .ok (.putfield 59, 3) := by decide +kernel
theorem sn28 {a0 : Array Value} {Z : State} (hw : HW a0 Z) : RoadKit.slotOf Z cn6 "keyArity" "I" ≠ RoadKit.slotOf Z cn6 "removed" "J" := slot_ne (Or.inr (own_w hw 30 rfl)) (Or.inl (w_14 hw)) (by decide) (t := .int) (t' := .long) (by decide) (by decide)
theorem sn29 {a0 : Array Value} {Z : State} (hw : HW a0 Z) : RoadKit.slotOf Z cn6 "keyArity" "I" ≠ RoadKit.slotOf Z cn6 "head" cn5 := slot_ne (Or.inr (own_w hw 30 rfl)) (Or.inr (own_w hw 16 rfl)) (by decide) (t := .int) (t' := (.array (.object cn10))) (by decide) (by decide)
theorem sn30 {a0 : Array Value} {Z : State} (hw : HW a0 Z) : RoadKit.slotOf Z cn6 "keyArity" "I" ≠ RoadKit.slotOf Z cn6 "goals" cn5 := slot_ne (Or.inr (own_w hw 30 rfl)) (Or.inr (own_w hw 18 rfl)) (by decide) (t := .int) (t' := (.array (.object cn10))) (by decide) (by decide)
theorem sn31 {a0 : Array Value} {Z : State} (hw : HW a0 Z) : RoadKit.slotOf Z cn6 "keyArity" "I" ≠ RoadKit.slotOf Z cn6 "goalPredicates" cn4 := slot_ne (Or.inr (own_w hw 30 rfl)) (Or.inr (own_w hw 20 rfl)) (by decide) (t := .int) (t' := (.array (.object cn9))) (by decide) (by decide)
theorem sn32 {a0 : Array Value} {Z : State} (hw : HW a0 Z) : RoadKit.slotOf Z cn6 "keyArity" "I" ≠ RoadKit.slotOf Z cn6 "body" cn0 := slot_ne (Or.inr (own_w hw 30 rfl)) (Or.inr (own_w hw 22 rfl)) (by decide) (t := .int) (t' := (.object cn10)) (by decide) (by decide)
theorem sn33 {a0 : Array Value} {Z : State} (hw : HW a0 Z) : RoadKit.slotOf Z cn6 "keyArity" "I" ≠ RoadKit.slotOf Z cn6 "variables" "I" := slot_ne (Or.inr (own_w hw 30 rfl)) (Or.inr (own_w hw 24 rfl)) (by decide) (t := .int) (t' := .int) (by decide) (by decide)
theorem sn34 {a0 : Array Value} {Z : State} (hw : HW a0 Z) : RoadKit.slotOf Z cn6 "keyArity" "I" ≠ RoadKit.slotOf Z cn6 "keyConstant" cn2 := slot_ne (Or.inr (own_w hw 30 rfl)) (Or.inr (own_w hw 26 rfl)) (by decide) (t := .int) (t' := (.object cn12)) (by decide) (by decide)
theorem sn35 {a0 : Array Value} {Z : State} (hw : HW a0 Z) : RoadKit.slotOf Z cn6 "keyArity" "I" ≠ RoadKit.slotOf Z cn6 "keyName" cn1 := slot_ne (Or.inr (own_w hw 30 rfl)) (Or.inr (own_w hw 28 rfl)) (by decide) (t := .int) (t' := (.object cn11)) (by decide) (by decide)
theorem d0_177 : decode kd0 177 = .ok (.return_, 1) := by decide +kernel
theorem sn36 {a0 : Array Value} {Z : State} (hw : HW a0 Z) : RoadKit.slotOf Z cn6 "removed" "J" ≠ RoadKit.slotOf Z cn6 "head" cn5 := slot_ne (Or.inl (w_14 hw)) (Or.inr (own_w hw 16 rfl)) (by decide) (t := .long) (t' := (.array (.object cn10))) (by decide) (by decide)
theorem sn37 {a0 : Array Value} {Z : State} (hw : HW a0 Z) : RoadKit.slotOf Z cn6 "removed" "J" ≠ RoadKit.slotOf Z cn6 "goals" cn5 := slot_ne (Or.inl (w_14 hw)) (Or.inr (own_w hw 18 rfl)) (by decide) (t := .long) (t' := (.array (.object cn10))) (by decide) (by decide)
theorem sn38 {a0 : Array Value} {Z : State} (hw : HW a0 Z) : RoadKit.slotOf Z cn6 "removed" "J" ≠ RoadKit.slotOf Z cn6 "goalPredicates" cn4 := slot_ne (Or.inl (w_14 hw)) (Or.inr (own_w hw 20 rfl)) (by decide) (t := .long) (t' := (.array (.object cn9))) (by decide) (by decide)
theorem sn39 {a0 : Array Value} {Z : State} (hw : HW a0 Z) : RoadKit.slotOf Z cn6 "removed" "J" ≠ RoadKit.slotOf Z cn6 "body" cn0 := slot_ne (Or.inl (w_14 hw)) (Or.inr (own_w hw 22 rfl)) (by decide) (t := .long) (t' := (.object cn10)) (by decide) (by decide)
theorem sn40 {a0 : Array Value} {Z : State} (hw : HW a0 Z) : RoadKit.slotOf Z cn6 "removed" "J" ≠ RoadKit.slotOf Z cn6 "variables" "I" := slot_ne (Or.inl (w_14 hw)) (Or.inr (own_w hw 24 rfl)) (by decide) (t := .long) (t' := .int) (by decide) (by decide)
theorem sn41 {a0 : Array Value} {Z : State} (hw : HW a0 Z) : RoadKit.slotOf Z cn6 "removed" "J" ≠ RoadKit.slotOf Z cn6 "keyConstant" cn2 := slot_ne (Or.inl (w_14 hw)) (Or.inr (own_w hw 26 rfl)) (by decide) (t := .long) (t' := (.object cn12)) (by decide) (by decide)
theorem sn42 {a0 : Array Value} {Z : State} (hw : HW a0 Z) : RoadKit.slotOf Z cn6 "removed" "J" ≠ RoadKit.slotOf Z cn6 "keyName" cn1 := slot_ne (Or.inl (w_14 hw)) (Or.inr (own_w hw 28 rfl)) (by decide) (t := .long) (t' := (.object cn11)) (by decide) (by decide)
theorem sn43 {a0 : Array Value} {Z : State} (hw : HW a0 Z) : RoadKit.slotOf Z cn6 "removed" "J" ≠ RoadKit.slotOf Z cn6 "keyArity" "I" := slot_ne (Or.inl (w_14 hw)) (Or.inr (own_w hw 30 rfl)) (by decide) (t := .long) (t' := .int) (by decide) (by decide)
theorem pn0 : plainName "com/example/horn1/horn1/engine/Clause" = true := by first | (simp [plainName, overriddenIn]; done) | decide +kernel
def l91_0 (o1 o2 : Addr) : Array Slot := #[.val (.ref o1), .val (.ref o2), .val .null, .val .null, .val .null, .val (.int 0), .val .null, .val .null, .unset, .unset]
def l91_1 (o1 o2 : Addr) : Array Slot := #[.val (.ref o1), .val (.ref o2), .val .null, .val .null, .val .null, .val (.int 0), .val .null, .unset, .unset, .unset]
def l91_2 (o1 o2 : Addr) : Array Slot := #[.val (.ref o1), .val (.ref o2), .val .null, .val .null, .val .null, .val (.int 0), .unset, .unset, .unset, .unset]
theorem ef1 (m : MethodId) (x0 x1 : Addr) (x5 : Int32) : entryFrame m #[(.ref x0), (.ref x1), .null, .null, .null, (.int x5)] 10 = mkF m 0 #[.val (.ref x0), .val (.ref x1), .val .null, .val .null, .val .null, .val (.int x5), .unset, .unset, .unset, .unset] [] := by first | (simp [entryFrame, mkF, argsToLocals, Value.category]; done) | rfl
def Q1 (Z : State) (o1 o2 : Addr) (kc3 : ClassId) (h0 : Heap) (n0 : Nat) (v : Option Value) (h : Heap) (L : List Loc) : Prop :=
  (v = none ∧ Fr n0 L ∧ Keep h0 h [o1] ∧ (Exa Z h o1 cn6) ∧ (Fld Z h o1 cn6 "removed" "J" (.long 9223372036854775807)))
set_option maxRecDepth 65536 in
set_option maxHeartbeats 40000000 in
theorem rm1 (l : Launch) (Z : State) (a0 : Array Value) (hw : HW a0 Z) (ws : List Jvm.Cond) (o1 o2 : Addr) (kc3 : ClassId) (h0 : Heap) (n0 : Nat) (O0 : Old Z n0 h0) (g_o1 : n0 ≤ o1) (g_o2 : n0 ≤ o2) (Ov_kc3 : Ovr Z kc3 cn10) (P0 : Exa Z h0 o1 cn6) (P1 : Fld Z h0 o1 cn6 "body" cn0 .null) (P2 : Fld Z h0 o1 cn6 "goalPredicates" cn4 .null) (P3 : Fld Z h0 o1 cn6 "goals" cn5 .null) (P4 : Fld Z h0 o1 cn6 "head" cn5 .null) (P5 : Fld Z h0 o1 cn6 "keyArity" "I" (.int 0)) (P6 : Fld Z h0 o1 cn6 "keyConstant" cn2 .null) (P7 : Fld Z h0 o1 cn6 "keyName" cn1 .null) (P8 : Fld Z h0 o1 cn6 "removed" "J" (.long 0)) (P9 : Fld Z h0 o1 cn6 "variables" "I" (.int 0)) (P10 : Arv Z h0 o2 kc3 (.object cn10) (0 : Int32) [] .null) (P11 : Exa Z h0 o2 cn5) :
    MF l yn0 prog_40_method_1_code 10 none ws ({ frames := 1, cells := 0, slots := 0, locals := 12 } : Room) #[(.ref o1), (.ref o2), .null, .null, .null, (.int 0)] Z h0 (Q1 Z o1 o2 kc3 h0 n0) := by
 refine MetFree.of_bodySF (plainFor_of_name pn0) hisR ?_
 intro p e s m args below meth c s₁ Bd hml hP hK
 obtain ⟨rfl, hZ, hh⟩ := hP
 obtain ⟨hx, hby, hown, hret, hlk, X0, e0, N0⟩ := own_bd Bd hh n0
 have hnm := (name_of_methodNamed Bd.named Bd.method).1
 have pre0 := own_ct s₁ (p := p) (e := e) (below := below) (ef1 m o1 o2 (0 : Int32))
 obtain ⟨T1, X1, e1, st1⟩ := initO X0 hx hZ hown (own_w hw 9 rfl) (own_w hw 10 rfl) (own_w hw 11 rfl) e0 (g := (mkF m 1 (l91_2 o1 o2) [(.ref o1)])) rfl (by rw [hml]; rfl) rfl (hb hby d0_1) (by decide) (W := 0) (by show 2 * 0 + _ ≤ _; exact Nat.le_of_eq rfl) (by decide)
 obtain ⟨T2, h2, X2, e2, W2, st2⟩ := yp X1 hx hZ hown hby (own_w hw 13 rfl) e1 P8 P0 (w_14 hw) (own_w hw 4 rfl) (ty := .long) (v := (.long 9223372036854775807)) (by decide) rfl rfl 8 (l91_2 o1 o2) [] d0_8
 have N2 := Fr.snoc X2 N0 g_o1
 have Fw2 := P8.same W2
 have f3 := (P4.other W2 (Or.inr (sn0 hw)))
 have f4 := (P0.wr W2)
 obtain ⟨T5, h5, X5, e5, W5, st5⟩ := putF X2 hx hZ hown (host := "") (Or.inl (own_w hw 15 rfl)) Via.refl e2 f3 f4 (Or.inr ⟨(own_w hw 16 rfl), rfl, hnm⟩) (own_w hw 4 rfl) (ty := (.array (.object cn10))) (by decide) rfl rfl (g := (mkF m 13 (l91_2 o1 o2) [(.ref o2), (.ref o1)])) rfl rfl (hb hby d0_13)
 have N5 := Fr.snoc X5 N2 g_o1
 have f6 := ((P3.other W2 (Or.inr (sn1 hw))).other W5 (Or.inr (sn2 hw)))
 have f7 := (f4.wr W5)
 obtain ⟨T8, h8, X8, e8, W8, st8⟩ := putF X5 hx hZ hown (host := "") (Or.inl (own_w hw 17 rfl)) Via.refl e5 f6 f7 (Or.inr ⟨(own_w hw 18 rfl), rfl, hnm⟩) (own_w hw 4 rfl) (ty := (.array (.object cn10))) (by decide) rfl rfl (g := (mkF m 18 (l91_2 o1 o2) [.null, (.ref o1)])) rfl rfl (hb hby d0_18)
 have N8 := Fr.snoc X8 N5 g_o1
 have f9 := (((P2.other W2 (Or.inr (sn3 hw))).other W5 (Or.inr (sn4 hw))).other W8 (Or.inr (sn5 hw)))
 have f10 := (f7.wr W8)
 obtain ⟨T11, h11, X11, e11, W11, st11⟩ := putF X8 hx hZ hown (host := "") (Or.inl (own_w hw 19 rfl)) Via.refl e8 f9 f10 (Or.inr ⟨(own_w hw 20 rfl), rfl, hnm⟩) (own_w hw 4 rfl) (ty := (.array (.object cn9))) (by decide) rfl rfl (g := (mkF m 23 (l91_2 o1 o2) [.null, (.ref o1)])) rfl rfl (hb hby d0_23)
 have N11 := Fr.snoc X11 N8 g_o1
 have f12 := ((((P1.other W2 (Or.inr (sn6 hw))).other W5 (Or.inr (sn7 hw))).other W8 (Or.inr (sn8 hw))).other W11 (Or.inr (sn9 hw)))
 have f13 := (f10.wr W11)
 obtain ⟨T14, h14, X14, e14, W14, st14⟩ := putF X11 hx hZ hown (host := "") (Or.inl (own_w hw 21 rfl)) Via.refl e11 f12 f13 (Or.inr ⟨(own_w hw 22 rfl), rfl, hnm⟩) (own_w hw 4 rfl) (ty := (.object cn10)) (by decide) rfl rfl (g := (mkF m 29 (l91_2 o1 o2) [.null, (.ref o1)])) rfl rfl (hb hby d0_29)
 have N14 := Fr.snoc X14 N11 g_o1
 have f15 := (((((P9.other W2 (Or.inr (sn10 hw))).other W5 (Or.inr (sn11 hw))).other W8 (Or.inr (sn12 hw))).other W11 (Or.inr (sn13 hw))).other W14 (Or.inr (sn14 hw)))
 have f16 := (f13.wr W14)
 obtain ⟨T17, h17, X17, e17, W17, st17⟩ := putF X14 hx hZ hown (host := "") (Or.inl (own_w hw 23 rfl)) Via.refl e14 f15 f16 (Or.inr ⟨(own_w hw 24 rfl), rfl, hnm⟩) (own_w hw 4 rfl) (ty := .int) (by decide) rfl rfl (g := (mkF m 35 (l91_2 o1 o2) [(.int 0), (.ref o1)])) rfl rfl (hb hby d0_35)
 have N17 := Fr.snoc X17 N14 g_o1
 have f18 := ((((((P11.wr W2).wr W5).wr W8).wr W11).wr W14).wr W17)
 have f19 := (f16.wr W17)
 have ne20 : o2 ≠ o1 := ne_exa f18 f19 (by decide)
 have f21 := ((((((P10.other W2 ne20).other W5 ne20).other W8 ne20).other W11 ne20).other W14 ne20).other W17 ne20)
 obtain ⟨cl22, Ar22, qa22, Sa22, Na22, Ha22, Ga22⟩ := id (f21)
 have f23 := ((((((P6.other W2 (Or.inr (sn15 hw))).other W5 (Or.inr (sn16 hw))).other W8 (Or.inr (sn17 hw))).other W11 (Or.inr (sn18 hw))).other W14 (Or.inr (sn19 hw))).other W17 (Or.inr (sn20 hw)))
 obtain ⟨T24, h24, X24, e24, W24, st24⟩ := putF X17 hx hZ hown (host := "") (Or.inl (own_w hw 25 rfl)) Via.refl e17 f23 f19 (Or.inr ⟨(own_w hw 26 rfl), rfl, hnm⟩) (own_w hw 4 rfl) (ty := (.object cn12)) (by decide) rfl rfl (g := (mkF m 164 (l91_0 o1 o2) [.null, (.ref o1)])) rfl rfl (hb hby d0_164)
 have N24 := Fr.snoc X24 N17 g_o1
 have f25 := (((((((P7.other W2 (Or.inr (sn21 hw))).other W5 (Or.inr (sn22 hw))).other W8 (Or.inr (sn23 hw))).other W11 (Or.inr (sn24 hw))).other W14 (Or.inr (sn25 hw))).other W17 (Or.inr (sn26 hw))).other W24 (Or.inr (sn27 hw)))
 have f26 := (f19.wr W24)
 obtain ⟨T27, h27, X27, e27, W27, st27⟩ := putF X24 hx hZ hown (host := "") (Or.inl (own_w hw 27 rfl)) Via.refl e24 f25 f26 (Or.inr ⟨(own_w hw 28 rfl), rfl, hnm⟩) (own_w hw 4 rfl) (ty := (.object cn11)) (by decide) rfl rfl (g := (mkF m 169 (l91_0 o1 o2) [.null, (.ref o1)])) rfl rfl (hb hby d0_169)
 have N27 := Fr.snoc X27 N24 g_o1
 have f28 := ((((((((P5.other W2 (Or.inr (sn28 hw))).other W5 (Or.inr (sn29 hw))).other W8 (Or.inr (sn30 hw))).other W11 (Or.inr (sn31 hw))).other W14 (Or.inr (sn32 hw))).other W17 (Or.inr (sn33 hw))).other W24 (Or.inr (sn34 hw))).other W27 (Or.inr (sn35 hw)))
 have f29 := (f26.wr W27)
 obtain ⟨T30, h30, X30, e30, W30, st30⟩ := putF X27 hx hZ hown (host := "") (Or.inl (own_w hw 29 rfl)) Via.refl e27 f28 f29 (Or.inr ⟨(own_w hw 30 rfl), rfl, hnm⟩) (own_w hw 4 rfl) (ty := .int) (by decide) rfl rfl (g := (mkF m 174 (l91_0 o1 o2) [(.int 0), (.ref o1)])) rfl rfl (hb hby d0_174)
 have N30 := Fr.snoc X30 N27 g_o1
 obtain ⟨fs, hr, hrun, hended, hW, hsame⟩ := X30.leave (v := none) (fun _ => rfl)
 have KL : Keep h0 h30 [o1] := ((((((((((Keep.refl h0 [o1]).wr W2 (Or.inl (List.mem_of_getElem? (i := 0) rfl))).wr W5 (Or.inl (List.mem_of_getElem? (i := 0) rfl))).wr W8 (Or.inl (List.mem_of_getElem? (i := 0) rfl))).wr W11 (Or.inl (List.mem_of_getElem? (i := 0) rfl))).wr W14 (Or.inl (List.mem_of_getElem? (i := 0) rfl))).wr W17 (Or.inl (List.mem_of_getElem? (i := 0) rfl))).wr W24 (Or.inl (List.mem_of_getElem? (i := 0) rfl))).wr W27 (Or.inl (List.mem_of_getElem? (i := 0) rfl))).wr W30 (Or.inl (List.mem_of_getElem? (i := 0) rfl)))
 have f31 := (f29.wr W30)
 have f32 := ((((((((Fw2.other W5 (Or.inr (sn36 hw))).other W8 (Or.inr (sn37 hw))).other W11 (Or.inr (sn38 hw))).other W14 (Or.inr (sn39 hw))).other W17 (Or.inr (sn40 hw))).other W24 (Or.inr (sn41 hw))).other W27 (Or.inr (sn42 hw))).other W30 (Or.inr (sn43 hw)))
 refine ⟨_, _, pre0 _ ?_, hrun, hended, _, _, rfl, ?_, ⟨_, rfl⟩, hW, hsame.mono (by decide) (by decide)⟩
 ·
  refine yan X0 hx hby d0_0 rfl rfl ?_
  refine st1 _ ?_
  refine yan X1 hx hby d0_4 rfl rfl ?_
  refine X1.ldc2Long hx hown (mvT hZ (own_w hw 12 rfl)) (g := (mkF m 5 (l91_2 o1 o2) [(.ref o1)])) rfl (hb hby d0_5) _ ?_
  refine st2 _ ?_
  refine yan X2 hx hby d0_11 rfl rfl ?_
  refine yan X2 hx hby d0_12 rfl rfl ?_
  refine st5 _ ?_
  refine yan X5 hx hby d0_16 rfl rfl ?_
  refine yan X5 hx hby d0_17 rfl rfl ?_
  refine st8 _ ?_
  refine yan X8 hx hby d0_21 rfl rfl ?_
  refine yan X8 hx hby d0_22 rfl rfl ?_
  refine st11 _ ?_
  refine yan X11 hx hby d0_26 rfl rfl ?_
  refine yal X11 hx hby d0_27 rfl rfl ?_
  refine st14 _ ?_
  refine yan X14 hx hby d0_32 rfl rfl ?_
  refine yil X14 hx hby d0_33 rfl ?_
  refine st17 _ ?_
  refine yan X17 hx hby d0_38 rfl rfl ?_
  refine X17.arraylength hx (by rw [e17]; exact Ar22.1) (State.isArrayOf_alike hZ.alike Ar22.2.1) (g := (mkF m 39 (l91_2 o1 o2) [(.ref o2)])) rfl rfl (hb hby d0_39) _ ?_
  rw [len_of Sa22 Na22]
  refine XS.ifYes X17.here hx rfl (pc0 := 40) (pc' := 49) rfl (hb hby d0_40) rfl ((if0 _ _).trans (flt (by decide : ¬ ((0 : Int32) < (0 : Int32)))).2.2.2) (by decide) (by decide) ?_
  refine XS.aconstNull X17.here hx rfl (hb hby d0_49) ?_
  refine XS.astore X17.here hx rfl (hb hby d0_50) rfl rfl (l' := (l91_1 o1 o2)) rfl ?_
  refine yal X17 hx hby d0_52 rfl rfl ?_
  refine X17.instanceofNull hx (g := (mkF m 54 (l91_1 o1 o2) [.null])) rfl rfl (hb hby d0_54) _ ?_
  refine XS.ifYes X17.here hx rfl (pc0 := 57) (pc' := 75) rfl (hb hby d0_57) rfl ((if0 _ _).trans (teq (by decide : (0 : Int32) = (0 : Int32))).1) (by decide) (by decide) ?_
  refine XS.aconstNull X17.here hx rfl (hb hby d0_75) ?_
  refine XS.astore X17.here hx rfl (hb hby d0_76) rfl rfl (l' := (l91_0 o1 o2)) rfl ?_
  refine yal X17 hx hby d0_78 rfl rfl ?_
  refine X17.instanceofNull hx (g := (mkF m 80 (l91_0 o1 o2) [.null])) rfl rfl (hb hby d0_80) _ ?_
  refine XS.ifYes X17.here hx rfl (pc0 := 83) (pc' := 119) rfl (hb hby d0_83) rfl ((if0 _ _).trans (teq (by decide : (0 : Int32) = (0 : Int32))).1) (by decide) (by decide) ?_
  refine yal X17 hx hby d0_119 rfl rfl ?_
  refine X17.instanceofNull hx (g := (mkF m 121 (l91_0 o1 o2) [.null])) rfl rfl (hb hby d0_121) _ ?_
  refine XS.ifYes X17.here hx rfl (pc0 := 124) (pc' := 161) rfl (hb hby d0_124) rfl ((if0 _ _).trans (teq (by decide : (0 : Int32) = (0 : Int32))).1) (by decide) (by decide) ?_
  refine yan X17 hx hby d0_161 rfl rfl ?_
  refine yal X17 hx hby d0_162 rfl rfl ?_
  refine st24 _ ?_
  refine yan X24 hx hby d0_167 rfl rfl ?_
  show Steps p.tables e below (T24.setTop (mkF m 168 (l91_0 o1 o2) [(.ref o1)])) _
  refine XS.aconstNull X24.here hx rfl (hb hby d0_168) ?_
  refine st27 _ ?_
  refine yan X27 hx hby d0_172 rfl rfl ?_
  refine yic X27 hx hby d0_173 ?_
  refine st30 _ ?_
  show Steps p.tables e below (T30.setTop (mkF m 177 (l91_0 o1 o2) [])) _
  exact X30.returnOut hx hret (hb hby d0_177) hr
 ·
  show Q1 Z o1 o2 kc3 h0 n0 _ T30.heap _
  rw [e30]
  exact ⟨rfl, N30, KL, f31, f32⟩
theorem pd0 : parseMethodDescriptor "([Lcom/example/horn1/horn1/engine/Template;[Lcom/example/horn1/horn1/engine/Template;[Lcom/example/horn1/horn1/engine/Predicate;Lcom/example/horn1/horn1/engine/Template;I)V" = some ⟨[(.array (.object "com/example/horn1/horn1/engine/Template")), (.array (.object "com/example/horn1/horn1/engine/Template")), (.array (.object "com/example/horn1/horn1/engine/Predicate")), (.object "com/example/horn1/horn1/engine/Template"), .int], none⟩ := by decide +kernel
theorem d1_0 : decode kd1 0 = .ok (.aload_n 0, 1) := by decide +kernel
theorem d1_1 : decode kd1 1 = .ok (.invokespecial 1, 3) := by decide +kernel
theorem d1_4 : decode kd1 4 = .ok (.aload_n 0, 1) := by decide +kernel
theorem d1_5 : decode kd1 5 = .ok (.getstatic 7, 3) := by decide +kernel
theorem d1_8 : decode kd1 8 = .ok (.putfield 13, 3) := by decide +kernel
theorem d1_11 : decode kd1 11 = .ok (.return_, 1) := by decide +kernel
theorem sn44 {a0 : Array Value} {Z : State} (hw : HW a0 Z) : RoadKit.slotOf Z cn7 "addsFirst" "Z" ≠ RoadKit.slotOf Z cn7 "slots" cn3 := slot_ne (Or.inl (w_56 hw)) (Or.inl (w_41 hw)) (by decide) (t := .boolean) (t' := (.array (.object cn6))) (by decide) (by decide)
theorem sn45 {a0 : Array Value} {Z : State} (hw : HW a0 Z) : RoadKit.slotOf Z cn7 "end" "I" ≠ RoadKit.slotOf Z cn7 "slots" cn3 := slot_ne (Or.inl (w_50 hw)) (Or.inl (w_41 hw)) (by decide) (t := .int) (t' := (.array (.object cn6))) (by decide) (by decide)
theorem sn46 {a0 : Array Value} {Z : State} (hw : HW a0 Z) : RoadKit.slotOf Z cn7 "first" "I" ≠ RoadKit.slotOf Z cn7 "slots" cn3 := slot_ne (Or.inl (w_48 hw)) (Or.inl (w_41 hw)) (by decide) (t := .int) (t' := (.array (.object cn6))) (by decide) (by decide)
theorem sn47 {a0 : Array Value} {Z : State} (hw : HW a0 Z) : RoadKit.slotOf Z cn7 "low" "I" ≠ RoadKit.slotOf Z cn7 "slots" cn3 := slot_ne (Or.inl (w_52 hw)) (Or.inl (w_41 hw)) (by decide) (t := .int) (t' := (.array (.object cn6))) (by decide) (by decide)
theorem sn48 {a0 : Array Value} {Z : State} (hw : HW a0 Z) : RoadKit.slotOf Z cn7 "removed" "I" ≠ RoadKit.slotOf Z cn7 "slots" cn3 := slot_ne (Or.inl (w_54 hw)) (Or.inl (w_41 hw)) (by decide) (t := .int) (t' := (.array (.object cn6))) (by decide) (by decide)
theorem pn1 : plainName "com/example/horn1/horn1/engine/ClauseList" = true := by first | (simp [plainName, overriddenIn]; done) | decide +kernel
theorem ef2 (m : MethodId) (x0 : Addr) : entryFrame m #[(.ref x0)] 1 = mkF m 0 #[.val (.ref x0)] [] := by first | (simp [entryFrame, mkF, argsToLocals, Value.category]; done) | rfl
def Q2 (Z : State) (w1 : Addr) (kw1 : ClassId) (o1 : Addr) (h0 : Heap) (n0 : Nat) (v : Option Value) (h : Heap) (L : List Loc) : Prop :=
  (v = none ∧ Fr n0 L ∧ Keep h0 h [o1] ∧ (Exa Z h o1 cn7) ∧ (Fld Z h o1 cn7 "addsFirst" "Z" (.int 0)) ∧ (Fld Z h o1 cn7 "end" "I" (.int 0)) ∧ (Fld Z h o1 cn7 "first" "I" (.int 0)) ∧ (Fld Z h o1 cn7 "low" "I" (.int 0)) ∧ (Fld Z h o1 cn7 "removed" "I" (.int 0)) ∧ (Fld Z h o1 cn7 "slots" cn3 (.ref w1)))
set_option maxRecDepth 65536 in
set_option maxHeartbeats 40000000 in
theorem rm2 (l : Launch) (Z : State) (a0 : Array Value) (hw : HW a0 Z) (w1 : Addr) (kw1 : ClassId) (G : GW Z w1 kw1) (ws : List Jvm.Cond) (o1 : Addr) (h0 : Heap) (n0 : Nat) (O0 : Old Z n0 h0) (g_o1 : n0 ≤ o1) (P0 : Exa Z h0 o1 cn7) (P1 : Fld Z h0 o1 cn7 "addsFirst" "Z" (.int 0)) (P2 : Fld Z h0 o1 cn7 "end" "I" (.int 0)) (P3 : Fld Z h0 o1 cn7 "first" "I" (.int 0)) (P4 : Fld Z h0 o1 cn7 "low" "I" (.int 0)) (P5 : Fld Z h0 o1 cn7 "removed" "I" (.int 0)) (P6 : Fld Z h0 o1 cn7 "slots" cn3 .null) :
    MF l yn1 prog_41_method_1_code 1 none ws ({ frames := 1, cells := 0, slots := 0, locals := 12 } : Room) #[(.ref o1)] Z h0 (Q2 Z w1 kw1 o1 h0 n0) := by
 obtain ⟨S_w1, A_w1⟩ := id G
 refine MetFree.of_bodySF (plainFor_of_name pn1) hisR ?_
 intro p e s m args below meth c s₁ Bd hml hP hK
 obtain ⟨rfl, hZ, hh⟩ := hP
 obtain ⟨hx, hby, hown, hret, hlk, X0, e0, N0⟩ := own_bd Bd hh n0
 have pre0 := own_ct s₁ (p := p) (e := e) (below := below) (ef2 m o1)
 obtain ⟨T1, X1, e1, st1⟩ := initO X0 hx hZ hown (own_w hw 37 rfl) (own_w hw 10 rfl) (own_w hw 11 rfl) e0 (g := (mkF m 1 #[.val (.ref o1)] [(.ref o1)])) rfl (by rw [hml]; rfl) rfl (hb hby d1_1) (by decide) (W := 0) (by show 2 * 0 + _ ≤ _; exact Nat.le_of_eq rfl) (by decide)
 obtain ⟨T2, X2, e2, st2⟩ := getS2 X1 hx hZ hown (host := "") (Or.inl (own_w hw 38 rfl)) Via.refl e1 (S_w1.ext O0.2) (g := (mkF m 5 #[.val (.ref o1)] [(.ref o1)])) rfl (hb hby d1_5)
 obtain ⟨T3, h3, X3, e3, W3, st3⟩ := yp X2 hx hZ hown hby (w_40 hw) e2 P6 P0 (w_41 hw) (w_32 hw) (ty := (.array (.object cn6))) (v := (.ref w1)) (by decide) rfl rfl 8 #[.val (.ref o1)] [] d1_8
 have N3 := Fr.snoc X3 N0 g_o1
 have Fw3 := P6.same W3
 obtain ⟨fs, hr, hrun, hended, hW, hsame⟩ := X3.leave (v := none) (fun _ => rfl)
 have KL : Keep h0 h3 [o1] := ((Keep.refl h0 [o1]).wr W3 (Or.inl (List.mem_of_getElem? (i := 0) rfl)))
 have f4 := (P0.wr W3)
 have f5 := (P1.other W3 (Or.inr (sn44 hw)))
 have f6 := (P2.other W3 (Or.inr (sn45 hw)))
 have f7 := (P3.other W3 (Or.inr (sn46 hw)))
 have f8 := (P4.other W3 (Or.inr (sn47 hw)))
 have f9 := (P5.other W3 (Or.inr (sn48 hw)))
 refine ⟨_, _, pre0 _ ?_, hrun, hended, _, _, rfl, ?_, ⟨_, rfl⟩, hW, hsame.mono (by decide) (by decide)⟩
 ·
  refine yan X0 hx hby d1_0 rfl rfl ?_
  refine st1 _ ?_
  refine yan X1 hx hby d1_4 rfl rfl ?_
  refine st2 _ ?_
  refine st3 _ ?_
  show Steps p.tables e below (T3.setTop (mkF m 11 #[.val (.ref o1)] [])) _
  exact X3.returnOut hx hret (hb hby d1_11) hr
 ·
  show Q2 Z w1 kw1 o1 h0 n0 _ T3.heap _
  rw [e3]
  exact ⟨rfl, N3, KL, f4, f5, f6, f7, f8, f9, Fw3⟩
theorem pd1 : parseMethodDescriptor "()V" = some ⟨[], none⟩ := by decide +kernel
theorem d2_0 : decode kd2 0 = .ok (.aload_n 0, 1) := by decide +kernel
theorem d2_1 : decode kd2 1 = .ok (.getfield 16, 3) := by decide +kernel
theorem d2_4 : decode kd2 4 = .ok (.istore_n 3, 1) := by decide +kernel
theorem d2_5 : decode kd2 5 = .ok (.iload_n 3, 1) := by decide +kernel
theorem d2_6 : decode kd2 6 = .ok (.aload_n 0, 1) := by decide +kernel
theorem d2_7 : decode kd2 7 = .ok (.getfield 20, 3) := by decide +kernel
theorem d2_10 : decode kd2 10 = .ok (.if_icmp .ge 31, 3) := by decide +kernel
theorem d2_41 : decode kd2 41 = .ok (.aload_n 0, 1) := by decide +kernel
theorem d2_42 : decode kd2 42 = .ok (.getstatic 7, 3) := by decide +kernel
theorem d2_45 : decode kd2 45 = .ok (.putfield 13, 3) := by decide +kernel
theorem d2_48 : decode kd2 48 = .ok (.aload_n 0, 1) := by decide +kernel
theorem d2_49 : decode kd2 49 = .ok (.iconst 0, 1) := by decide +kernel
theorem d2_50 : decode kd2 50 = .ok (.putfield 33, 3) := by decide +kernel
theorem d2_53 : decode kd2 53 = .ok (.aload_n 0, 1) := by decide +kernel
theorem d2_54 : decode kd2 54 = .ok (.iconst 0, 1) := by decide +kernel
theorem d2_55 : decode kd2 55 = .ok (.putfield 16, 3) := by decide +kernel
theorem sn49 {a0 : Array Value} {Z : State} (hw : HW a0 Z) : RoadKit.slotOf Z cn7 "first" "I" ≠ RoadKit.slotOf Z cn7 "low" "I" := slot_ne (Or.inl (w_48 hw)) (Or.inl (w_52 hw)) (by decide) (t := .int) (t' := .int) (by decide) (by decide)
theorem d2_58 : decode kd2 58 = .ok (.aload_n 0, 1) := by decide +kernel
theorem d2_59 : decode kd2 59 = .ok (.iconst 0, 1) := by decide +kernel
theorem d2_60 : decode kd2 60 = .ok (.putfield 20, 3) := by decide +kernel
theorem sn50 {a0 : Array Value} {Z : State} (hw : HW a0 Z) : RoadKit.slotOf Z cn7 "end" "I" ≠ RoadKit.slotOf Z cn7 "low" "I" := slot_ne (Or.inl (w_50 hw)) (Or.inl (w_52 hw)) (by decide) (t := .int) (t' := .int) (by decide) (by decide)
theorem sn51 {a0 : Array Value} {Z : State} (hw : HW a0 Z) : RoadKit.slotOf Z cn7 "end" "I" ≠ RoadKit.slotOf Z cn7 "first" "I" := slot_ne (Or.inl (w_50 hw)) (Or.inl (w_48 hw)) (by decide) (t := .int) (t' := .int) (by decide) (by decide)
theorem d2_63 : decode kd2 63 = .ok (.aload_n 0, 1) := by decide +kernel
theorem d2_64 : decode kd2 64 = .ok (.iconst 0, 1) := by decide +kernel
theorem d2_65 : decode kd2 65 = .ok (.putfield 23, 3) := by decide +kernel
theorem sn52 {a0 : Array Value} {Z : State} (hw : HW a0 Z) : RoadKit.slotOf Z cn7 "removed" "I" ≠ RoadKit.slotOf Z cn7 "low" "I" := slot_ne (Or.inl (w_54 hw)) (Or.inl (w_52 hw)) (by decide) (t := .int) (t' := .int) (by decide) (by decide)
theorem sn53 {a0 : Array Value} {Z : State} (hw : HW a0 Z) : RoadKit.slotOf Z cn7 "removed" "I" ≠ RoadKit.slotOf Z cn7 "first" "I" := slot_ne (Or.inl (w_54 hw)) (Or.inl (w_48 hw)) (by decide) (t := .int) (t' := .int) (by decide) (by decide)
theorem sn54 {a0 : Array Value} {Z : State} (hw : HW a0 Z) : RoadKit.slotOf Z cn7 "removed" "I" ≠ RoadKit.slotOf Z cn7 "end" "I" := slot_ne (Or.inl (w_54 hw)) (Or.inl (w_50 hw)) (by decide) (t := .int) (t' := .int) (by decide) (by decide)
theorem d2_68 : decode kd2 68 = .ok (.aload_n 0, 1) := by decide +kernel
theorem d2_69 : decode kd2 69 = .ok (.iconst 0, 1) := by decide +kernel
theorem d2_70 : decode kd2 70 = .ok (.putfield 29, 3) := by decide +kernel
theorem sn55 {a0 : Array Value} {Z : State} (hw : HW a0 Z) : RoadKit.slotOf Z cn7 "addsFirst" "Z" ≠ RoadKit.slotOf Z cn7 "low" "I" := slot_ne (Or.inl (w_56 hw)) (Or.inl (w_52 hw)) (by decide) (t := .boolean) (t' := .int) (by decide) (by decide)
theorem sn56 {a0 : Array Value} {Z : State} (hw : HW a0 Z) : RoadKit.slotOf Z cn7 "addsFirst" "Z" ≠ RoadKit.slotOf Z cn7 "first" "I" := slot_ne (Or.inl (w_56 hw)) (Or.inl (w_48 hw)) (by decide) (t := .boolean) (t' := .int) (by decide) (by decide)
theorem sn57 {a0 : Array Value} {Z : State} (hw : HW a0 Z) : RoadKit.slotOf Z cn7 "addsFirst" "Z" ≠ RoadKit.slotOf Z cn7 "end" "I" := slot_ne (Or.inl (w_56 hw)) (Or.inl (w_50 hw)) (by decide) (t := .boolean) (t' := .int) (by decide) (by decide)
theorem sn58 {a0 : Array Value} {Z : State} (hw : HW a0 Z) : RoadKit.slotOf Z cn7 "addsFirst" "Z" ≠ RoadKit.slotOf Z cn7 "removed" "I" := slot_ne (Or.inl (w_56 hw)) (Or.inl (w_54 hw)) (by decide) (t := .boolean) (t' := .int) (by decide) (by decide)
theorem d2_73 : decode kd2 73 = .ok (.return_, 1) := by decide +kernel
theorem sn59 {a0 : Array Value} {Z : State} (hw : HW a0 Z) : RoadKit.slotOf Z cn7 "end" "I" ≠ RoadKit.slotOf Z cn7 "removed" "I" := slot_ne (Or.inl (w_50 hw)) (Or.inl (w_54 hw)) (by decide) (t := .int) (t' := .int) (by decide) (by decide)
theorem sn60 {a0 : Array Value} {Z : State} (hw : HW a0 Z) : RoadKit.slotOf Z cn7 "end" "I" ≠ RoadKit.slotOf Z cn7 "addsFirst" "Z" := slot_ne (Or.inl (w_50 hw)) (Or.inl (w_56 hw)) (by decide) (t := .int) (t' := .boolean) (by decide) (by decide)
theorem sn61 {a0 : Array Value} {Z : State} (hw : HW a0 Z) : RoadKit.slotOf Z cn7 "first" "I" ≠ RoadKit.slotOf Z cn7 "end" "I" := slot_ne (Or.inl (w_48 hw)) (Or.inl (w_50 hw)) (by decide) (t := .int) (t' := .int) (by decide) (by decide)
theorem sn62 {a0 : Array Value} {Z : State} (hw : HW a0 Z) : RoadKit.slotOf Z cn7 "first" "I" ≠ RoadKit.slotOf Z cn7 "removed" "I" := slot_ne (Or.inl (w_48 hw)) (Or.inl (w_54 hw)) (by decide) (t := .int) (t' := .int) (by decide) (by decide)
theorem sn63 {a0 : Array Value} {Z : State} (hw : HW a0 Z) : RoadKit.slotOf Z cn7 "first" "I" ≠ RoadKit.slotOf Z cn7 "addsFirst" "Z" := slot_ne (Or.inl (w_48 hw)) (Or.inl (w_56 hw)) (by decide) (t := .int) (t' := .boolean) (by decide) (by decide)
theorem sn64 {a0 : Array Value} {Z : State} (hw : HW a0 Z) : RoadKit.slotOf Z cn7 "low" "I" ≠ RoadKit.slotOf Z cn7 "first" "I" := slot_ne (Or.inl (w_52 hw)) (Or.inl (w_48 hw)) (by decide) (t := .int) (t' := .int) (by decide) (by decide)
theorem sn65 {a0 : Array Value} {Z : State} (hw : HW a0 Z) : RoadKit.slotOf Z cn7 "low" "I" ≠ RoadKit.slotOf Z cn7 "end" "I" := slot_ne (Or.inl (w_52 hw)) (Or.inl (w_50 hw)) (by decide) (t := .int) (t' := .int) (by decide) (by decide)
theorem sn66 {a0 : Array Value} {Z : State} (hw : HW a0 Z) : RoadKit.slotOf Z cn7 "low" "I" ≠ RoadKit.slotOf Z cn7 "removed" "I" := slot_ne (Or.inl (w_52 hw)) (Or.inl (w_54 hw)) (by decide) (t := .int) (t' := .int) (by decide) (by decide)
theorem sn67 {a0 : Array Value} {Z : State} (hw : HW a0 Z) : RoadKit.slotOf Z cn7 "low" "I" ≠ RoadKit.slotOf Z cn7 "addsFirst" "Z" := slot_ne (Or.inl (w_52 hw)) (Or.inl (w_56 hw)) (by decide) (t := .int) (t' := .boolean) (by decide) (by decide)
theorem sn68 {a0 : Array Value} {Z : State} (hw : HW a0 Z) : RoadKit.slotOf Z cn7 "removed" "I" ≠ RoadKit.slotOf Z cn7 "addsFirst" "Z" := slot_ne (Or.inl (w_54 hw)) (Or.inl (w_56 hw)) (by decide) (t := .int) (t' := .boolean) (by decide) (by decide)
theorem sn69 {a0 : Array Value} {Z : State} (hw : HW a0 Z) : RoadKit.slotOf Z cn7 "slots" cn3 ≠ RoadKit.slotOf Z cn7 "low" "I" := slot_ne (Or.inl (w_41 hw)) (Or.inl (w_52 hw)) (by decide) (t := (.array (.object cn6))) (t' := .int) (by decide) (by decide)
theorem sn70 {a0 : Array Value} {Z : State} (hw : HW a0 Z) : RoadKit.slotOf Z cn7 "slots" cn3 ≠ RoadKit.slotOf Z cn7 "first" "I" := slot_ne (Or.inl (w_41 hw)) (Or.inl (w_48 hw)) (by decide) (t := (.array (.object cn6))) (t' := .int) (by decide) (by decide)
theorem sn71 {a0 : Array Value} {Z : State} (hw : HW a0 Z) : RoadKit.slotOf Z cn7 "slots" cn3 ≠ RoadKit.slotOf Z cn7 "end" "I" := slot_ne (Or.inl (w_41 hw)) (Or.inl (w_50 hw)) (by decide) (t := (.array (.object cn6))) (t' := .int) (by decide) (by decide)
theorem sn72 {a0 : Array Value} {Z : State} (hw : HW a0 Z) : RoadKit.slotOf Z cn7 "slots" cn3 ≠ RoadKit.slotOf Z cn7 "removed" "I" := slot_ne (Or.inl (w_41 hw)) (Or.inl (w_54 hw)) (by decide) (t := (.array (.object cn6))) (t' := .int) (by decide) (by decide)
theorem sn73 {a0 : Array Value} {Z : State} (hw : HW a0 Z) : RoadKit.slotOf Z cn7 "slots" cn3 ≠ RoadKit.slotOf Z cn7 "addsFirst" "Z" := slot_ne (Or.inl (w_41 hw)) (Or.inl (w_56 hw)) (by decide) (t := (.array (.object cn6))) (t' := .boolean) (by decide) (by decide)
def l158_0 (o1 : Addr) (q2 : Int64) (p3 : Int32) : Array Slot := #[.val (.ref o1), .val (.long q2), .second, .val (.int p3)]
theorem ef3 (m : MethodId) (x0 : Addr) (x1 : Int64) : entryFrame m #[(.ref x0), (.long x1)] 4 = mkF m 0 #[.val (.ref x0), .val (.long x1), .second, .unset] [] := by first | (simp [entryFrame, mkF, argsToLocals, Value.category]; done) | rfl
def Q3 (Z : State) (w1 : Addr) (kw1 : ClassId) (o1 : Addr) (p3 : Int32) (q2 : Int64) (h0 : Heap) (n0 : Nat) (v : Option Value) (h : Heap) (L : List Loc) : Prop :=
  (v = none ∧ Fr n0 L ∧ Keep h0 h [o1] ∧ (Exa Z h o1 cn7) ∧ (Fld Z h o1 cn7 "addsFirst" "Z" (.int 0)) ∧ (Fld Z h o1 cn7 "end" "I" (.int 0)) ∧ (Fld Z h o1 cn7 "first" "I" (.int 0)) ∧ (Fld Z h o1 cn7 "low" "I" (.int 0)) ∧ (Fld Z h o1 cn7 "removed" "I" (.int 0)) ∧ (Fld Z h o1 cn7 "slots" cn3 (.ref w1)))
set_option maxRecDepth 65536 in
set_option maxHeartbeats 40000000 in
theorem rm3 (l : Launch) (Z : State) (a0 : Array Value) (hw : HW a0 Z) (w1 : Addr) (kw1 : ClassId) (G : GW Z w1 kw1) (ws : List Jvm.Cond) (o1 : Addr) (p3 : Int32) (q2 : Int64) (h0 : Heap) (n0 : Nat) (O0 : Old Z n0 h0) (g_o1 : n0 ≤ o1) (P0 : Exa Z h0 o1 cn7) (P1 : Fld Z h0 o1 cn7 "addsFirst" "Z" (.int p3)) (P2 : Fld Z h0 o1 cn7 "end" "I" (.int p3)) (P3 : Fld Z h0 o1 cn7 "first" "I" (.int p3)) (P4 : Fld Z h0 o1 cn7 "low" "I" (.int p3)) (P5 : Fld Z h0 o1 cn7 "removed" "I" (.int p3)) (P6 : Fld Z h0 o1 cn7 "slots" cn3 (.ref w1)) :
    MF l yn2 prog_41_method_9_code 4 none ws ({ frames := 0, cells := 0, slots := 0, locals := 0 } : Room) #[(.ref o1), (.long q2)] Z h0 (Q3 Z w1 kw1 o1 p3 q2 h0 n0) := by
 obtain ⟨S_w1, A_w1⟩ := id G
 refine MetFree.of_bodySF (plainFor_of_name pn1) hisR ?_
 intro p e s m args below meth c s₁ Bd hml hP hK
 obtain ⟨rfl, hZ, hh⟩ := hP
 obtain ⟨hx, hby, hown, hret, hlk, X0, e0, N0⟩ := own_bd Bd hh n0
 have pre0 := own_ct s₁ (p := p) (e := e) (below := below) (ef3 m o1 q2)
 obtain ⟨T1, X1, e1, st1⟩ := yag X0 hx hZ hown hby (w_47 hw) e0 P3 0 #[.val (.ref o1), .val (.long q2), .second, .unset] [] d2_0 d2_1 rfl
 obtain ⟨T2, X2, e2, st2⟩ := yag X1 hx hZ hown hby (w_49 hw) e1 P2 6 (l158_0 o1 q2 p3) [(.int p3)] d2_6 d2_7 rfl
 obtain ⟨T3, X3, e3, st3⟩ := getS2 X2 hx hZ hown (host := "") (Or.inl (own_w hw 38 rfl)) Via.refl e2 (S_w1.ext O0.2) (g := (mkF m 42 (l158_0 o1 q2 p3) [(.ref o1)])) rfl (hb hby d2_42)
 obtain ⟨T4, h4, X4, e4, W4, st4⟩ := yp X3 hx hZ hown hby (w_40 hw) e3 P6 P0 (w_41 hw) (w_32 hw) (ty := (.array (.object cn6))) (v := (.ref w1)) (by decide) rfl rfl 45 (l158_0 o1 q2 p3) [] d2_45
 have N4 := Fr.snoc X4 N0 g_o1
 have Fw4 := P6.same W4
 have f5 := (P4.other W4 (Or.inr (sn47 hw)))
 have f6 := (P0.wr W4)
 obtain ⟨T7, h7, X7, e7, W7, st7⟩ := yp X4 hx hZ hown hby (w_51 hw) e4 f5 f6 (w_52 hw) (w_32 hw) (ty := .int) (v := (.int 0)) (by decide) rfl rfl 50 (l158_0 o1 q2 p3) [] d2_50
 have N7 := Fr.snoc X7 N4 g_o1
 have Fw7 := f5.same W7
 have f8 := ((P3.other W4 (Or.inr (sn46 hw))).other W7 (Or.inr (sn49 hw)))
 have f9 := (f6.wr W7)
 obtain ⟨T10, h10, X10, e10, W10, st10⟩ := yp X7 hx hZ hown hby (w_47 hw) e7 f8 f9 (w_48 hw) (w_32 hw) (ty := .int) (v := (.int 0)) (by decide) rfl rfl 55 (l158_0 o1 q2 p3) [] d2_55
 have N10 := Fr.snoc X10 N7 g_o1
 have Fw10 := f8.same W10
 have f11 := (((P2.other W4 (Or.inr (sn45 hw))).other W7 (Or.inr (sn50 hw))).other W10 (Or.inr (sn51 hw)))
 have f12 := (f9.wr W10)
 obtain ⟨T13, h13, X13, e13, W13, st13⟩ := yp X10 hx hZ hown hby (w_49 hw) e10 f11 f12 (w_50 hw) (w_32 hw) (ty := .int) (v := (.int 0)) (by decide) rfl rfl 60 (l158_0 o1 q2 p3) [] d2_60
 have N13 := Fr.snoc X13 N10 g_o1
 have Fw13 := f11.same W13
 have f14 := ((((P5.other W4 (Or.inr (sn48 hw))).other W7 (Or.inr (sn52 hw))).other W10 (Or.inr (sn53 hw))).other W13 (Or.inr (sn54 hw)))
 have f15 := (f12.wr W13)
 obtain ⟨T16, h16, X16, e16, W16, st16⟩ := yp X13 hx hZ hown hby (w_53 hw) e13 f14 f15 (w_54 hw) (w_32 hw) (ty := .int) (v := (.int 0)) (by decide) rfl rfl 65 (l158_0 o1 q2 p3) [] d2_65
 have N16 := Fr.snoc X16 N13 g_o1
 have Fw16 := f14.same W16
 have f17 := (((((P1.other W4 (Or.inr (sn44 hw))).other W7 (Or.inr (sn55 hw))).other W10 (Or.inr (sn56 hw))).other W13 (Or.inr (sn57 hw))).other W16 (Or.inr (sn58 hw)))
 have f18 := (f15.wr W16)
 obtain ⟨T19, h19, X19, e19, W19, st19⟩ := putFN X16 hx hZ hown (own_w hw 55 rfl) Via.refl e16 f17 f18 (Or.inl (w_56 hw)) (w_32 hw) (ty := .boolean) (v' := (.int 0)) (by decide) rfl (by decide) (g := (mkF m 70 (l158_0 o1 q2 p3) [(.int 0), (.ref o1)])) rfl rfl (hb hby d2_70)
 have N19 := Fr.snoc X19 N16 g_o1
 have Fw19 := f17.same W19
 obtain ⟨fs, hr, hrun, hended, hW, hsame⟩ := X19.leave (v := none) (fun _ => rfl)
 have KL : Keep h0 h19 [o1] := (((((((Keep.refl h0 [o1]).wr W4 (Or.inl (List.mem_of_getElem? (i := 0) rfl))).wr W7 (Or.inl (List.mem_of_getElem? (i := 0) rfl))).wr W10 (Or.inl (List.mem_of_getElem? (i := 0) rfl))).wr W13 (Or.inl (List.mem_of_getElem? (i := 0) rfl))).wr W16 (Or.inl (List.mem_of_getElem? (i := 0) rfl))).wr W19 (Or.inl (List.mem_of_getElem? (i := 0) rfl)))
 have f20 := (f18.wr W19)
 have f21 := ((Fw13.other W16 (Or.inr (sn59 hw))).other W19 (Or.inr (sn60 hw)))
 have f22 := (((Fw10.other W13 (Or.inr (sn61 hw))).other W16 (Or.inr (sn62 hw))).other W19 (Or.inr (sn63 hw)))
 have f23 := ((((Fw7.other W10 (Or.inr (sn64 hw))).other W13 (Or.inr (sn65 hw))).other W16 (Or.inr (sn66 hw))).other W19 (Or.inr (sn67 hw)))
 have f24 := (Fw16.other W19 (Or.inr (sn68 hw)))
 have f25 := (((((Fw4.other W7 (Or.inr (sn69 hw))).other W10 (Or.inr (sn70 hw))).other W13 (Or.inr (sn71 hw))).other W16 (Or.inr (sn72 hw))).other W19 (Or.inr (sn73 hw)))
 refine ⟨_, _, pre0 _ ?_, hrun, hended, _, _, rfl, ?_, ⟨_, rfl⟩, hW, hsame.mono (by decide) (by decide)⟩
 ·
  refine st1 _ ?_
  refine yit X1 hx hby d2_4 (l' := (l158_0 o1 q2 p3)) rfl ?_
  refine yin X1 hx hby d2_5 rfl ?_
  refine st2 _ ?_
  refine yye X2 hx hby 10 41 rfl d2_10 (flt (Int32.lt_irrefl : ¬ (p3 < p3))).2.1 (by decide) ?_
  refine yan X2 hx hby d2_41 rfl rfl ?_
  refine st3 _ ?_
  refine st4 _ ?_
  refine yan X4 hx hby d2_48 rfl rfl ?_
  refine yic X4 hx hby d2_49 ?_
  refine st7 _ ?_
  refine yan X7 hx hby d2_53 rfl rfl ?_
  refine yic X7 hx hby d2_54 ?_
  refine st10 _ ?_
  refine yan X10 hx hby d2_58 rfl rfl ?_
  refine yic X10 hx hby d2_59 ?_
  refine st13 _ ?_
  refine yan X13 hx hby d2_63 rfl rfl ?_
  refine yic X13 hx hby d2_64 ?_
  refine st16 _ ?_
  refine yan X16 hx hby d2_68 rfl rfl ?_
  refine yic X16 hx hby d2_69 ?_
  refine st19 _ ?_
  show Steps p.tables e below (T19.setTop (mkF m 73 (l158_0 o1 q2 p3) [])) _
  exact X19.returnOut hx hret (hb hby d2_73) hr
 ·
  show Q3 Z w1 kw1 o1 p3 q2 h0 n0 _ T19.heap _
  rw [e19]
  exact ⟨rfl, N19, KL, f20, Fw19, f21, f22, f23, f24, f25⟩
theorem pd2 : parseMethodDescriptor "(J)V" = some ⟨[.long], none⟩ := by decide +kernel
theorem d3_0 : decode kd3 0 = .ok (.aload_n 0, 1) := by decide +kernel
theorem d3_1 : decode kd3 1 = .ok (.getfield 20, 3) := by decide +kernel
theorem d3_4 : decode kd3 4 = .ok (.aload_n 0, 1) := by decide +kernel
theorem d3_5 : decode kd3 5 = .ok (.getfield 16, 3) := by decide +kernel
theorem d3_8 : decode kd3 8 = .ok (.isub, 1) := by decide +kernel
theorem d3_9 : decode kd3 9 = .ok (.aload_n 0, 1) := by decide +kernel
theorem d3_10 : decode kd3 10 = .ok (.getfield 23, 3) := by decide +kernel
theorem d3_13 : decode kd3 13 = .ok (.isub, 1) := by decide +kernel
theorem d3_14 : decode kd3 14 = .ok (.ireturn, 1) := by decide +kernel
theorem ef4 (m : MethodId) (x0 : Addr) : entryFrame m #[(.ref x0)] 1 = mkF m 0 #[.val (.ref x0)] [] := by first | (simp [entryFrame, mkF, argsToLocals, Value.category]; done) | rfl
def Q4 (Z : State) (o1 : Addr) (p2 p3 p4 : Int32) (h0 : Heap) (n0 : Nat) (v : Option Value) (h : Heap) (L : List Loc) : Prop :=
  (v = some (.int ((p2 - p3) - p4)) ∧ Fr n0 L ∧ h = h0)
set_option maxRecDepth 65536 in
set_option maxHeartbeats 40000000 in
theorem rm4 (l : Launch) (Z : State) (a0 : Array Value) (hw : HW a0 Z) (ws : List Jvm.Cond) (o1 : Addr) (p2 p3 p4 : Int32) (h0 : Heap) (n0 : Nat) (O0 : Old Z n0 h0) (g_o1 : n0 ≤ o1) (P1 : Fld Z h0 o1 cn7 "end" "I" (.int p2)) (P2 : Fld Z h0 o1 cn7 "first" "I" (.int p3)) (P3 : Fld Z h0 o1 cn7 "removed" "I" (.int p4)) :
    MF l yn3 prog_41_method_5_code 1 (some .int) ws ({ frames := 0, cells := 0, slots := 0, locals := 0 } : Room) #[(.ref o1)] Z h0 (Q4 Z o1 p2 p3 p4 h0 n0) := by
 refine MetFree.of_bodySF (plainFor_of_name pn1) hisR ?_
 intro p e s m args below meth c s₁ Bd hml hP hK
 obtain ⟨rfl, hZ, hh⟩ := hP
 obtain ⟨hx, hby, hown, hret, hlk, X0, e0, N0⟩ := own_bd Bd hh n0
 have pre0 := own_ct s₁ (p := p) (e := e) (below := below) (ef4 m o1)
 obtain ⟨T1, X1, e1, st1⟩ := yag X0 hx hZ hown hby (w_49 hw) e0 P1 0 #[.val (.ref o1)] [] d3_0 d3_1 rfl
 obtain ⟨T2, X2, e2, st2⟩ := yag X1 hx hZ hown hby (w_47 hw) e1 P2 4 #[.val (.ref o1)] [(.int p2)] d3_4 d3_5 rfl
 obtain ⟨T3, X3, e3, st3⟩ := yag X2 hx hZ hown hby (w_53 hw) e2 P3 9 #[.val (.ref o1)] [(.int (p2 - p3))] d3_9 d3_10 rfl
 obtain ⟨fs, hr, hrun, hended, hW, hsame⟩ := X3.leave (v := some (.int ((p2 - p3) - p4))) (fun h => by rw [hret] at h; cases h)
 refine ⟨_, _, pre0 _ ?_, hrun, hended, _, _, rfl, ?_, ⟨_, rfl⟩, hW, hsame.mono (by decide) (by decide)⟩
 ·
  refine st1 _ ?_
  refine st2 _ ?_
  refine ysu X2 hx hby d3_8 ?_
  refine st3 _ ?_
  refine ysu X3 hx hby d3_13 ?_
  show Steps p.tables e below (T3.setTop (mkF m 14 #[.val (.ref o1)] [(.int ((p2 - p3) - p4))])) _
  exact retI X3 hx hret (hb hby d3_14) hr
 ·
  show Q4 Z o1 p2 p3 p4 h0 n0 _ T3.heap _
  rw [e3]
  exact ⟨rfl, N0, rfl⟩
theorem pd3 : parseMethodDescriptor "()I" = some ⟨[], some .int⟩ := by decide +kernel
theorem d4_0 : decode kd4 0 = .ok (.aload_n 0, 1) := by decide +kernel
theorem d4_1 : decode kd4 1 = .ok (.getfield 16, 3) := by decide +kernel
theorem d4_4 : decode kd4 4 = .ok (.ireturn, 1) := by decide +kernel
theorem ef5 (m : MethodId) (x0 : Addr) : entryFrame m #[(.ref x0)] 1 = mkF m 0 #[.val (.ref x0)] [] := by first | (simp [entryFrame, mkF, argsToLocals, Value.category]; done) | rfl
def Q5 (Z : State) (o1 : Addr) (p2 : Int32) (h0 : Heap) (n0 : Nat) (v : Option Value) (h : Heap) (L : List Loc) : Prop :=
  (v = some (.int p2) ∧ Fr n0 L ∧ h = h0)
set_option maxRecDepth 65536 in
set_option maxHeartbeats 40000000 in
theorem rm5 (l : Launch) (Z : State) (a0 : Array Value) (hw : HW a0 Z) (ws : List Jvm.Cond) (o1 : Addr) (p2 : Int32) (h0 : Heap) (n0 : Nat) (O0 : Old Z n0 h0) (g_o1 : n0 ≤ o1) (P1 : Fld Z h0 o1 cn7 "first" "I" (.int p2)) :
    MF l yn4 prog_41_method_3_code 1 (some .int) ws ({ frames := 0, cells := 0, slots := 0, locals := 0 } : Room) #[(.ref o1)] Z h0 (Q5 Z o1 p2 h0 n0) := by
 refine MetFree.of_bodySF (plainFor_of_name pn1) hisR ?_
 intro p e s m args below meth c s₁ Bd hml hP hK
 obtain ⟨rfl, hZ, hh⟩ := hP
 obtain ⟨hx, hby, hown, hret, hlk, X0, e0, N0⟩ := own_bd Bd hh n0
 have pre0 := own_ct s₁ (p := p) (e := e) (below := below) (ef5 m o1)
 obtain ⟨T1, X1, e1, st1⟩ := yag X0 hx hZ hown hby (w_47 hw) e0 P1 0 #[.val (.ref o1)] [] d4_0 d4_1 rfl
 obtain ⟨fs, hr, hrun, hended, hW, hsame⟩ := X1.leave (v := some (.int p2)) (fun h => by rw [hret] at h; cases h)
 refine ⟨_, _, pre0 _ ?_, hrun, hended, _, _, rfl, ?_, ⟨_, rfl⟩, hW, hsame.mono (by decide) (by decide)⟩
 ·
  refine st1 _ ?_
  show Steps p.tables e below (T1.setTop (mkF m 4 #[.val (.ref o1)] [(.int p2)])) _
  exact retI X1 hx hret (hb hby d4_4) hr
 ·
  show Q5 Z o1 p2 h0 n0 _ T1.heap _
  rw [e1]
  exact ⟨rfl, N0, rfl⟩
theorem d5_0 : decode kd5 0 = .ok (.aload_n 0, 1) := by decide +kernel
theorem d5_1 : decode kd5 1 = .ok (.getfield 20, 3) := by decide +kernel
theorem d5_4 : decode kd5 4 = .ok (.ireturn, 1) := by decide +kernel
theorem ef6 (m : MethodId) (x0 : Addr) : entryFrame m #[(.ref x0)] 1 = mkF m 0 #[.val (.ref x0)] [] := by first | (simp [entryFrame, mkF, argsToLocals, Value.category]; done) | rfl
def Q6 (Z : State) (o1 : Addr) (p2 : Int32) (h0 : Heap) (n0 : Nat) (v : Option Value) (h : Heap) (L : List Loc) : Prop :=
  (v = some (.int p2) ∧ Fr n0 L ∧ h = h0)
set_option maxRecDepth 65536 in
set_option maxHeartbeats 40000000 in
theorem rm6 (l : Launch) (Z : State) (a0 : Array Value) (hw : HW a0 Z) (ws : List Jvm.Cond) (o1 : Addr) (p2 : Int32) (h0 : Heap) (n0 : Nat) (O0 : Old Z n0 h0) (g_o1 : n0 ≤ o1) (P1 : Fld Z h0 o1 cn7 "end" "I" (.int p2)) :
    MF l yn5 prog_41_method_4_code 1 (some .int) ws ({ frames := 0, cells := 0, slots := 0, locals := 0 } : Room) #[(.ref o1)] Z h0 (Q6 Z o1 p2 h0 n0) := by
 refine MetFree.of_bodySF (plainFor_of_name pn1) hisR ?_
 intro p e s m args below meth c s₁ Bd hml hP hK
 obtain ⟨rfl, hZ, hh⟩ := hP
 obtain ⟨hx, hby, hown, hret, hlk, X0, e0, N0⟩ := own_bd Bd hh n0
 have pre0 := own_ct s₁ (p := p) (e := e) (below := below) (ef6 m o1)
 obtain ⟨T1, X1, e1, st1⟩ := yag X0 hx hZ hown hby (w_49 hw) e0 P1 0 #[.val (.ref o1)] [] d5_0 d5_1 rfl
 obtain ⟨fs, hr, hrun, hended, hW, hsame⟩ := X1.leave (v := some (.int p2)) (fun h => by rw [hret] at h; cases h)
 refine ⟨_, _, pre0 _ ?_, hrun, hended, _, _, rfl, ?_, ⟨_, rfl⟩, hW, hsame.mono (by decide) (by decide)⟩
 ·
  refine st1 _ ?_
  show Steps p.tables e below (T1.setTop (mkF m 4 #[.val (.ref o1)] [(.int p2)])) _
  exact retI X1 hx hret (hb hby d5_4) hr
 ·
  show Q6 Z o1 p2 h0 n0 _ T1.heap _
  rw [e1]
  exact ⟨rfl, N0, rfl⟩
theorem d6_0 : decode kd6 0 = .ok (.aload_n 0, 1) := by decide +kernel
theorem d6_1 : decode kd6 1 = .ok (.getfield 13, 3) := by decide +kernel
theorem d6_4 : decode kd6 4 = .ok (.areturn, 1) := by decide +kernel
theorem ef7 (m : MethodId) (x0 : Addr) : entryFrame m #[(.ref x0)] 1 = mkF m 0 #[.val (.ref x0)] [] := by first | (simp [entryFrame, mkF, argsToLocals, Value.category]; done) | rfl
def Q7 (Z : State) (w1 : Addr) (kw1 : ClassId) (o1 : Addr) (h0 : Heap) (n0 : Nat) (v : Option Value) (h : Heap) (L : List Loc) : Prop :=
  (v = some (.ref w1) ∧ Fr n0 L ∧ h = h0)
set_option maxRecDepth 65536 in
set_option maxHeartbeats 40000000 in
theorem rm7 (l : Launch) (Z : State) (a0 : Array Value) (hw : HW a0 Z) (w1 : Addr) (kw1 : ClassId) (G : GW Z w1 kw1) (ws : List Jvm.Cond) (o1 : Addr) (h0 : Heap) (n0 : Nat) (O0 : Old Z n0 h0) (g_o1 : n0 ≤ o1) (P1 : Fld Z h0 o1 cn7 "slots" cn3 (.ref w1)) :
    MF l yn6 prog_41_method_2_code 1 (some (.array (.object cn6))) ws ({ frames := 0, cells := 0, slots := 0, locals := 0 } : Room) #[(.ref o1)] Z h0 (Q7 Z w1 kw1 o1 h0 n0) := by
 obtain ⟨S_w1, A_w1⟩ := id G
 refine MetFree.of_bodySF (plainFor_of_name pn1) hisR ?_
 intro p e s m args below meth c s₁ Bd hml hP hK
 obtain ⟨rfl, hZ, hh⟩ := hP
 obtain ⟨hx, hby, hown, hret, hlk, X0, e0, N0⟩ := own_bd Bd hh n0
 have pre0 := own_ct s₁ (p := p) (e := e) (below := below) (ef7 m o1)
 obtain ⟨T1, X1, e1, st1⟩ := yag X0 hx hZ hown hby (w_40 hw) e0 P1 0 #[.val (.ref o1)] [] d6_0 d6_1 rfl
 obtain ⟨fs, hr, hrun, hended, hW, hsame⟩ := X1.leave (v := some (.ref w1)) (fun h => by rw [hret] at h; cases h)
 refine ⟨_, _, pre0 _ ?_, hrun, hended, _, _, rfl, ?_, ⟨_, rfl⟩, hW, hsame.mono (by decide) (by decide)⟩
 ·
  refine st1 _ ?_
  show Steps p.tables e below (T1.setTop (mkF m 4 #[.val (.ref o1)] [(.ref w1)])) _
  exact retOut X1 hx hret rfl (Or.inr (Or.inr (Or.inr (Or.inr ⟨rfl, rfl, rfl⟩)))) (hb hby d6_4) hr
 ·
  show Q7 Z w1 kw1 o1 h0 n0 _ T1.heap _
  rw [e1]
  exact ⟨rfl, N0, rfl⟩
theorem pd4 : parseMethodDescriptor "()[Lcom/example/horn1/horn1/engine/Clause;" = some ⟨[], some (.array (.object "com/example/horn1/horn1/engine/Clause"))⟩ := by decide +kernel
theorem d7_0 : decode kd7 0 = .ok (.aload_n 0, 1) := by decide +kernel
theorem d7_1 : decode kd7 1 = .ok (.invokevirtual 58, 3) := by decide +kernel
theorem d8_0 : decode kd8 0 = .ok (.aload_n 0, 1) := by decide +kernel
theorem d8_1 : decode kd8 1 = .ok (.getfield 13, 3) := by decide +kernel
theorem d8_4 : decode kd8 4 = .ok (.ldc2_w 11, 3) := by decide +kernel
theorem d8_7 : decode kd8 7 = .ok (.lcmp, 1) := by decide +kernel
theorem d8_8 : decode kd8 8 = .ok (.ifCond .ne 7, 3) := by decide +kernel
theorem d8_11 : decode kd8 11 = .ok (.iconst 1, 1) := by decide +kernel
theorem d8_12 : decode kd8 12 = .ok (.goto 4, 3) := by decide +kernel
theorem d8_16 : decode kd8 16 = .ok (.ireturn, 1) := by decide +kernel
theorem d8_15 : decode kd8 15 = .ok (.iconst 0, 1) := by decide +kernel
theorem ef8 (m : MethodId) (x0 : Addr) : entryFrame m #[(.ref x0)] 1 = mkF m 0 #[.val (.ref x0)] [] := by first | (simp [entryFrame, mkF, argsToLocals, Value.category]; done) | rfl
def Q8 (Z : State) (o1 : Addr) (q2 : Int64) (h0 : Heap) (n0 : Nat) (v : Option Value) (h : Heap) (L : List Loc) : Prop :=
  ((q2 = (9223372036854775807 : Int64)) ∧ v = some (.int 1) ∧ Fr n0 L ∧ h = h0)
  ∨ ((¬ (q2 = (9223372036854775807 : Int64))) ∧ v = some (.int 0) ∧ Fr n0 L ∧ h = h0)
set_option maxRecDepth 65536 in
set_option maxHeartbeats 40000000 in
theorem rm8 (l : Launch) (Z : State) (a0 : Array Value) (hw : HW a0 Z) (ws : List Jvm.Cond) (o1 : Addr) (q2 : Int64) (h0 : Heap) (n0 : Nat) (O0 : Old Z n0 h0) (g_o1 : n0 ≤ o1) (P1 : Fld Z h0 o1 cn6 "removed" "J" (.long q2)) :
    MF l yn7 prog_40_method_7_code 1 (some .boolean) ws ({ frames := 0, cells := 0, slots := 0, locals := 0 } : Room) #[(.ref o1)] Z h0 (Q8 Z o1 q2 h0 n0) := by
 refine MetFree.of_bodySF (plainFor_of_name pn0) hisR ?_
 intro p e s m args below meth c s₁ Bd hml hP hK
 obtain ⟨rfl, hZ, hh⟩ := hP
 obtain ⟨hx, hby, hown, hret, hlk, X0, e0, N0⟩ := own_bd Bd hh n0
 have pre0 := own_ct s₁ (p := p) (e := e) (below := below) (ef8 m o1)
 revert pre0
 generalize s₁.setTop (entryFrame m #[(.ref o1)] 1) = E0
 intro pre0
 obtain ⟨T1, X1, e1, st1⟩ := yag X0 hx hZ hown hby (own_w hw 13 rfl) e0 P1 0 #[.val (.ref o1)] [] d8_0 d8_1 rfl
 have pre2 : Go p e below T1 (mkF m 8 #[.val (.ref o1)] [(.int (lcmpW q2 (9223372036854775807 : Int64)))]) E0 := fun t k => by
  refine pre0 _ ?_
  refine st1 _ ?_
  refine X1.ldc2Long hx hown (mvT hZ (own_w hw 12 rfl)) (g := (mkF m 4 #[.val (.ref o1)] [(.long q2)])) rfl (hb hby d8_4) _ ?_
  refine XS.lcmp X1.here hx rfl (hb hby d8_7) rfl ?_
  exact k
 by_cases hc3 : q2 = (9223372036854775807 : Int64)
 ·
  have pre4 : Go p e below T1 (mkF m 8 #[.val (.ref o1)] [(.int (lcmpW (9223372036854775807 : Int64) (9223372036854775807 : Int64)))]) E0 := fun t k => pre2 t (by rw [hc3]; exact k)
  obtain ⟨fs, hr, hrun, hended, hW, hsame⟩ := X1.leave (v := some (.int 1)) (fun h => by rw [hret] at h; cases h)
  refine ⟨_, _, pre4 _ ?_, hrun, hended, _, _, rfl, ?_, ⟨_, rfl⟩, hW, hsame.mono (by decide) (by decide)⟩
  ·
   refine yfn X1 hx hby d8_8 ((if0 _ _).trans (teq ((lw_eq _ _).mpr (by decide : (9223372036854775807 : Int64) = (9223372036854775807 : Int64)))).2) ?_
   refine yic X1 hx hby d8_11 ?_
   refine ygo X1 hx hby 12 16 rfl d8_12 (by decide) ?_
   show Steps p.tables e below (T1.setTop (mkF m 16 #[.val (.ref o1)] [(.int 1)])) _
   exact retN X1 hx (t := .boolean) hret (by simp) (hb hby d8_16) hr
  ·
   show Q8 Z o1 q2 h0 n0 _ T1.heap _
   rw [e1]
   exact (Or.inl ⟨hc3, rfl, N0, rfl⟩)
 ·
  obtain ⟨fs, hr, hrun, hended, hW, hsame⟩ := X1.leave (v := some (.int 0)) (fun h => by rw [hret] at h; cases h)
  refine ⟨_, _, pre2 _ ?_, hrun, hended, _, _, rfl, ?_, ⟨_, rfl⟩, hW, hsame.mono (by decide) (by decide)⟩
  ·
   refine XS.ifYes X1.here hx rfl (pc0 := 8) (pc' := 15) rfl (hb hby d8_8) rfl ((if0 _ _).trans (feq (fun q => hc3 ((lw_eq _ _).mp q))).2) (by decide) (by decide) ?_
   refine yic X1 hx hby d8_15 ?_
   show Steps p.tables e below (T1.setTop (mkF m 16 #[.val (.ref o1)] [(.int 0)])) _
   exact retN X1 hx (t := .boolean) hret (by simp) (hb hby d8_16) hr
  ·
   show Q8 Z o1 q2 h0 n0 _ T1.heap _
   rw [e1]
   exact (Or.inr ⟨hc3, rfl, N0, rfl⟩)
theorem pd5 : parseMethodDescriptor "()Z" = some ⟨[], some .boolean⟩ := by decide +kernel
theorem d7_4 : decode kd7 4 = .ok (.lload_n 1, 1) := by decide +kernel
theorem d7_5 : decode kd7 5 = .ok (.ldc2_w 9, 3) := by decide +kernel
theorem d7_8 : decode kd7 8 = .ok (.lcmp, 1) := by decide +kernel
theorem d7_9 : decode kd7 9 = .ok (.ifCond .ne 7, 3) := by decide +kernel
theorem d7_12 : decode kd7 12 = .ok (.iconst 1, 1) := by decide +kernel
theorem d7_13 : decode kd7 13 = .ok (.goto 4, 3) := by decide +kernel
theorem d7_17 : decode kd7 17 = .ok (.if_icmp .ne 26, 3) := by decide +kernel
theorem d7_20 : decode kd7 20 = .ok (.aload_n 0, 1) := by decide +kernel
theorem d7_21 : decode kd7 21 = .ok (.lload_n 3, 1) := by decide +kernel
theorem d7_22 : decode kd7 22 = .ok (.invokevirtual 62, 3) := by decide +kernel
theorem d9_0 : decode kd9 0 = .ok (.aload_n 0, 1) := by decide +kernel
theorem d9_1 : decode kd9 1 = .ok (.getfield 13, 3) := by decide +kernel
theorem d9_4 : decode kd9 4 = .ok (.lload_n 1, 1) := by decide +kernel
theorem d9_5 : decode kd9 5 = .ok (.lcmp, 1) := by decide +kernel
theorem d9_6 : decode kd9 6 = .ok (.ifCond .le 7, 3) := by decide +kernel
theorem d9_9 : decode kd9 9 = .ok (.iconst 1, 1) := by decide +kernel
theorem d9_10 : decode kd9 10 = .ok (.goto 4, 3) := by decide +kernel
theorem d9_14 : decode kd9 14 = .ok (.ireturn, 1) := by decide +kernel
theorem d9_13 : decode kd9 13 = .ok (.iconst 0, 1) := by decide +kernel
def l216_0 (o1 : Addr) (q2 : Int64) : Array Slot := #[.val (.ref o1), .val (.long q2), .second]
theorem ef9 (m : MethodId) (x0 : Addr) (x1 : Int64) : entryFrame m #[(.ref x0), (.long x1)] 3 = mkF m 0 #[.val (.ref x0), .val (.long x1), .second] [] := by first | (simp [entryFrame, mkF, argsToLocals, Value.category]; done) | rfl
def Q9 (Z : State) (o1 : Addr) (q3 q2 : Int64) (h0 : Heap) (n0 : Nat) (v : Option Value) (h : Heap) (L : List Loc) : Prop :=
  ((q2 < q3) ∧ v = some (.int 1) ∧ Fr n0 L ∧ h = h0)
  ∨ ((¬ (q2 < q3)) ∧ v = some (.int 0) ∧ Fr n0 L ∧ h = h0)
set_option maxRecDepth 65536 in
set_option maxHeartbeats 40000000 in
theorem rm9 (l : Launch) (Z : State) (a0 : Array Value) (hw : HW a0 Z) (ws : List Jvm.Cond) (o1 : Addr) (q3 q2 : Int64) (h0 : Heap) (n0 : Nat) (O0 : Old Z n0 h0) (g_o1 : n0 ≤ o1) (P1 : Fld Z h0 o1 cn6 "removed" "J" (.long q3)) :
    MF l yn8 prog_40_method_8_code 3 (some .boolean) ws ({ frames := 0, cells := 0, slots := 0, locals := 0 } : Room) #[(.ref o1), (.long q2)] Z h0 (Q9 Z o1 q3 q2 h0 n0) := by
 refine MetFree.of_bodySF (plainFor_of_name pn0) hisR ?_
 intro p e s m args below meth c s₁ Bd hml hP hK
 obtain ⟨rfl, hZ, hh⟩ := hP
 obtain ⟨hx, hby, hown, hret, hlk, X0, e0, N0⟩ := own_bd Bd hh n0
 have pre0 := own_ct s₁ (p := p) (e := e) (below := below) (ef9 m o1 q2)
 revert pre0
 generalize s₁.setTop (entryFrame m #[(.ref o1), (.long q2)] 3) = E0
 intro pre0
 obtain ⟨T1, X1, e1, st1⟩ := yag X0 hx hZ hown hby (own_w hw 13 rfl) e0 P1 0 (l216_0 o1 q2) [] d9_0 d9_1 rfl
 have pre2 : Go p e below T1 (mkF m 6 (l216_0 o1 q2) [(.int (lcmpW q3 q2))]) E0 := fun t k => by
  refine pre0 _ ?_
  refine st1 _ ?_
  refine XS.lloadN X1.here hx rfl (hb hby d9_4) rfl ?_
  refine XS.lcmp X1.here hx rfl (hb hby d9_5) rfl ?_
  exact k
 by_cases hc3 : q2 < q3
 ·
  obtain ⟨fs, hr, hrun, hended, hW, hsame⟩ := X1.leave (v := some (.int 1)) (fun h => by rw [hret] at h; cases h)
  refine ⟨_, _, pre2 _ ?_, hrun, hended, _, _, rfl, ?_, ⟨_, rfl⟩, hW, hsame.mono (by decide) (by decide)⟩
  ·
   refine yfn X1 hx hby d9_6 ((if0 _ _).trans (tlt ((lw_gt _ _).mpr hc3)).2.2.2) ?_
   refine yic X1 hx hby d9_9 ?_
   refine ygo X1 hx hby 10 14 rfl d9_10 (by decide) ?_
   show Steps p.tables e below (T1.setTop (mkF m 14 (l216_0 o1 q2) [(.int 1)])) _
   exact retN X1 hx (t := .boolean) hret (by simp) (hb hby d9_14) hr
  ·
   show Q9 Z o1 q3 q2 h0 n0 _ T1.heap _
   rw [e1]
   exact (Or.inl ⟨hc3, rfl, N0, rfl⟩)
 ·
  obtain ⟨fs, hr, hrun, hended, hW, hsame⟩ := X1.leave (v := some (.int 0)) (fun h => by rw [hret] at h; cases h)
  refine ⟨_, _, pre2 _ ?_, hrun, hended, _, _, rfl, ?_, ⟨_, rfl⟩, hW, hsame.mono (by decide) (by decide)⟩
  ·
   refine XS.ifYes X1.here hx rfl (pc0 := 6) (pc' := 13) rfl (hb hby d9_6) rfl ((if0 _ _).trans (flt (fun q => hc3 ((lw_gt _ _).mp q))).2.2.2) (by decide) (by decide) ?_
   refine yic X1 hx hby d9_13 ?_
   show Steps p.tables e below (T1.setTop (mkF m 14 (l216_0 o1 q2) [(.int 0)])) _
   exact retN X1 hx (t := .boolean) hret (by simp) (hb hby d9_14) hr
  ·
   show Q9 Z o1 q3 q2 h0 n0 _ T1.heap _
   rw [e1]
   exact (Or.inr ⟨hc3, rfl, N0, rfl⟩)
theorem pd6 : parseMethodDescriptor "(J)Z" = some ⟨[.long], some .boolean⟩ := by decide +kernel
theorem d7_25 : decode kd7 25 = .ok (.lload_n 1, 1) := by decide +kernel
theorem d7_26 : decode kd7 26 = .ok (.lload_n 3, 1) := by decide +kernel
theorem d7_27 : decode kd7 27 = .ok (.lcmp, 1) := by decide +kernel
theorem d7_28 : decode kd7 28 = .ok (.ifCond .le 7, 3) := by decide +kernel
theorem d7_31 : decode kd7 31 = .ok (.iconst 1, 1) := by decide +kernel
theorem d7_32 : decode kd7 32 = .ok (.goto 4, 3) := by decide +kernel
theorem d7_36 : decode kd7 36 = .ok (.if_icmp .ne 7, 3) := by decide +kernel
theorem d7_39 : decode kd7 39 = .ok (.iconst 1, 1) := by decide +kernel
theorem d7_40 : decode kd7 40 = .ok (.goto 4, 3) := by decide +kernel
theorem d7_44 : decode kd7 44 = .ok (.ireturn, 1) := by decide +kernel
theorem d7_35 : decode kd7 35 = .ok (.iconst 0, 1) := by decide +kernel
theorem d7_16 : decode kd7 16 = .ok (.iconst 0, 1) := by decide +kernel
theorem d7_43 : decode kd7 43 = .ok (.iconst 0, 1) := by decide +kernel
theorem pn2 : plainName "com/example/horn1/horn1/engine/ClauseListRemoveAllPinLaw" = true := by first | (simp [plainName, overriddenIn]; done) | decide +kernel
def l232_0 (o1 : Addr) (q3 : Int64) : Array Slot := #[.val (.ref o1), .val (.long 9223372036854775807), .second, .val (.long q3), .second]
def l232_1 (o1 : Addr) (q2 q3 : Int64) : Array Slot := #[.val (.ref o1), .val (.long q2), .second, .val (.long q3), .second]
theorem ef10 (m : MethodId) (x0 : Addr) (x1 x2 : Int64) : entryFrame m #[(.ref x0), (.long x1), (.long x2)] 5 = mkF m 0 #[.val (.ref x0), .val (.long x1), .second, .val (.long x2), .second] [] := by first | (simp [entryFrame, mkF, argsToLocals, Value.category]; done) | rfl
def Q10 (Z : State) (o1 : Addr) (q4 q2 q3 : Int64) (h0 : Heap) (n0 : Nat) (v : Option Value) (h : Heap) (L : List Loc) : Prop :=
  ((q4 = (9223372036854775807 : Int64)) ∧ (q2 = (9223372036854775807 : Int64)) ∧ (q3 < q4) ∧ v = some (.int 1) ∧ Fr n0 L ∧ h = h0)
  ∨ ((q4 = (9223372036854775807 : Int64)) ∧ (q2 = (9223372036854775807 : Int64)) ∧ (¬ (q3 < q4)) ∧ v = some (.int 1) ∧ Fr n0 L ∧ h = h0)
  ∨ ((q4 = (9223372036854775807 : Int64)) ∧ (¬ (q2 = (9223372036854775807 : Int64))) ∧ v = some (.int 0) ∧ Fr n0 L ∧ h = h0)
  ∨ ((¬ (q4 = (9223372036854775807 : Int64))) ∧ (q2 = (9223372036854775807 : Int64)) ∧ v = some (.int 0) ∧ Fr n0 L ∧ h = h0)
  ∨ ((¬ (q4 = (9223372036854775807 : Int64))) ∧ (¬ (q2 = (9223372036854775807 : Int64))) ∧ (q3 < q4) ∧ (q3 < q2) ∧ v = some (.int 1) ∧ Fr n0 L ∧ h = h0)
  ∨ ((¬ (q4 = (9223372036854775807 : Int64))) ∧ (¬ (q2 = (9223372036854775807 : Int64))) ∧ (q3 < q4) ∧ (¬ (q3 < q2)) ∧ v = some (.int 0) ∧ Fr n0 L ∧ h = h0)
  ∨ ((¬ (q4 = (9223372036854775807 : Int64))) ∧ (¬ (q2 = (9223372036854775807 : Int64))) ∧ (¬ (q3 < q4)) ∧ (q3 < q2) ∧ v = some (.int 0) ∧ Fr n0 L ∧ h = h0)
  ∨ ((¬ (q4 = (9223372036854775807 : Int64))) ∧ (¬ (q2 = (9223372036854775807 : Int64))) ∧ (¬ (q3 < q4)) ∧ (¬ (q3 < q2)) ∧ v = some (.int 1) ∧ Fr n0 L ∧ h = h0)
set_option maxRecDepth 65536 in
set_option maxHeartbeats 40000000 in
theorem rm10 (l : Launch) (Z : State) (a0 : Array Value) (hw : HW a0 Z) (ws : List Jvm.Cond) (o1 : Addr) (q4 q2 q3 : Int64) (h0 : Heap) (n0 : Nat) (O0 : Old Z n0 h0) (g_o1 : n0 ≤ o1) (P0 : Exa Z h0 o1 cn6) (P1 : Fld Z h0 o1 cn6 "removed" "J" (.long q4)) :
    MF l yn9 method_3_code 5 (some .boolean) ws ({ frames := 1, cells := 0, slots := 0, locals := 14 } : Room) #[(.ref o1), (.long q2), (.long q3)] Z h0 (Q10 Z o1 q4 q2 q3 h0 n0) := by
 refine MetFree.of_bodySF (plainFor_of_name pn2) hisR ?_
 intro p e s m args below meth c s₁ Bd hml hP hK
 obtain ⟨rfl, hZ, hh⟩ := hP
 obtain ⟨hx, hby, hown, hret, hlk, X0, e0, N0⟩ := own_bd Bd hh n0
 have pre0 := own_ct s₁ (p := p) (e := e) (below := below) (ef10 m o1 q2 q3)
 revert pre0
 generalize s₁.setTop (entryFrame m #[(.ref o1), (.long q2), (.long q3)] 5) = E0
 intro pre0
 obtain ⟨_, T1, L1, X1, hQ1, st1⟩ := yv X0 hx hZ hown hby hml (y := yn7) (own_w hw 81 rfl) (w_82 hw) (w_84 hw) (w_83 hw) (w_85 hw) (w_5 hw) e0 P0 [] [] (rm8 l Z a0 hw [] o1 q4 h0 n0 O0 g_o1 P1) 1 (l232_1 o1 q2 q3) rfl d7_1 (lenOf pd5 rfl) 0 0 0
 have pre2 : Go p e below s₁ (mkF m 1 (l232_1 o1 q2 q3) [(.ref o1)]) E0 := fun t k => by
  refine pre0 _ ?_
  refine yan X0 hx hby d7_0 rfl rfl ?_
  exact k
 rcases hQ1 with ⟨hc3, rfl, Nq4, e5⟩ | ⟨hc6, rfl, Nq7, e8⟩
 ·
  have N1 := Fr.app N0 Nq4
  have pre9 : Go p e below T1 (mkF m 9 (l232_1 o1 q2 q3) [(.int (lcmpW q2 (9223372036854775807 : Int64))), (.int 1)]) E0 := fun t k => by
   refine pre2 _ ?_
   refine st1 _ ?_
   refine XS.lloadN X1.here hx rfl (hb hby d7_4) rfl ?_
   refine X1.ldc2Long hx hown (mvT hZ (own_w hw 0 rfl)) (g := (mkF m 5 (l232_1 o1 q2 q3) [(.long q2), (.int 1)])) rfl (hb hby d7_5) _ ?_
   refine XS.lcmp X1.here hx rfl (hb hby d7_8) rfl ?_
   exact k
  by_cases hc10 : q2 = (9223372036854775807 : Int64)
  ·
   have pre11 : Go p e below T1 (mkF m 9 (l232_0 o1 q3) [(.int (lcmpW (9223372036854775807 : Int64) (9223372036854775807 : Int64))), (.int 1)]) E0 := fun t k => pre9 t (by rw [hc10]; exact k)
   obtain ⟨_, T12, L12, X12, hQ12, st12⟩ := yv X1 hx hZ hown hby hml (y := yn8) (own_w hw 86 rfl) (own_w hw 87 rfl) (own_w hw 89 rfl) (own_w hw 88 rfl) (own_w hw 90 rfl) (w_5 hw) e5 P0 [(.long q3)] [] (rm9 l Z a0 hw [] o1 q4 q3 h0 n0 O0 g_o1 P1) 22 (l232_0 o1 q3) rfl d7_22 (lenOf pd6 rfl) 0 0 0
   have pre13 : Go p e below T1 (mkF m 22 (l232_0 o1 q3) [(.long q3), (.ref o1)]) E0 := fun t k => by
    refine pre11 _ ?_
    refine yfn X1 hx hby d7_9 ((if0 _ _).trans (teq ((lw_eq _ _).mpr (by decide : (9223372036854775807 : Int64) = (9223372036854775807 : Int64)))).2) ?_
    refine yic X1 hx hby d7_12 ?_
    refine ygo X1 hx hby 13 17 rfl d7_13 (by decide) ?_
    refine yno X1 hx hby d7_17 (teq (by decide : (1 : Int32) = (1 : Int32))).2 ?_
    refine yan X1 hx hby d7_20 rfl rfl ?_
    refine XS.lloadN X1.here hx rfl (hb hby d7_21) rfl ?_
    exact k
   rcases hQ12 with ⟨hc14, rfl, Nq15, e16⟩ | ⟨hc17, rfl, Nq18, e19⟩
   ·
    have N12 := Fr.app N1 Nq15
    obtain ⟨fs, hr, hrun, hended, hW, hsame⟩ := X12.leave (v := some (.int 1)) (fun h => by rw [hret] at h; cases h)
    refine ⟨_, _, pre13 _ ?_, hrun, hended, _, _, rfl, ?_, ⟨_, rfl⟩, hW, hsame.mono (by decide) (by decide)⟩
    ·
     refine st12 _ ?_
     refine XS.lloadN X12.here hx rfl (hb hby d7_25) rfl ?_
     refine XS.lloadN X12.here hx rfl (hb hby d7_26) rfl ?_
     refine XS.lcmp X12.here hx rfl (hb hby d7_27) rfl ?_
     refine yfn X12 hx hby d7_28 ((if0 _ _).trans (tlt ((lw_gt _ _).mpr (by rw [← hc3]; exact hc14 : q3 < (9223372036854775807 : Int64)))).2.2.2) ?_
     refine yic X12 hx hby d7_31 ?_
     refine ygo X12 hx hby 32 36 rfl d7_32 (by decide) ?_
     refine yno X12 hx hby d7_36 (teq (by decide : (1 : Int32) = (1 : Int32))).2 ?_
     refine yic X12 hx hby d7_39 ?_
     refine ygo X12 hx hby 40 44 rfl d7_40 (by decide) ?_
     show Steps p.tables e below (T12.setTop (mkF m 44 (l232_0 o1 q3) [(.int 1)])) _
     exact retN X12 hx (t := .boolean) hret (by simp) (hb hby d7_44) hr
    ·
     show Q10 Z o1 q4 q2 q3 h0 n0 _ T12.heap _
     rw [e16]
     exact (Or.inl ⟨hc3, hc10, hc14, rfl, N12, rfl⟩)
   ·
    have N12 := Fr.app N1 Nq18
    obtain ⟨fs, hr, hrun, hended, hW, hsame⟩ := X12.leave (v := some (.int 1)) (fun h => by rw [hret] at h; cases h)
    refine ⟨_, _, pre13 _ ?_, hrun, hended, _, _, rfl, ?_, ⟨_, rfl⟩, hW, hsame.mono (by decide) (by decide)⟩
    ·
     refine st12 _ ?_
     refine XS.lloadN X12.here hx rfl (hb hby d7_25) rfl ?_
     refine XS.lloadN X12.here hx rfl (hb hby d7_26) rfl ?_
     refine XS.lcmp X12.here hx rfl (hb hby d7_27) rfl ?_
     refine XS.ifYes X12.here hx rfl (pc0 := 28) (pc' := 35) rfl (hb hby d7_28) rfl ((if0 _ _).trans (flt (fun q => (by rw [← hc3]; exact hc17 : ¬ (q3 < (9223372036854775807 : Int64))) ((lw_gt _ _).mp q))).2.2.2) (by decide) (by decide) ?_
     refine yic X12 hx hby d7_35 ?_
     refine yno X12 hx hby d7_36 (teq (by decide : (0 : Int32) = (0 : Int32))).2 ?_
     refine yic X12 hx hby d7_39 ?_
     refine ygo X12 hx hby 40 44 rfl d7_40 (by decide) ?_
     show Steps p.tables e below (T12.setTop (mkF m 44 (l232_0 o1 q3) [(.int 1)])) _
     exact retN X12 hx (t := .boolean) hret (by simp) (hb hby d7_44) hr
    ·
     show Q10 Z o1 q4 q2 q3 h0 n0 _ T12.heap _
     rw [e19]
     exact (Or.inr (Or.inl ⟨hc3, hc10, hc17, rfl, N12, rfl⟩))
  ·
   obtain ⟨fs, hr, hrun, hended, hW, hsame⟩ := X1.leave (v := some (.int 0)) (fun h => by rw [hret] at h; cases h)
   refine ⟨_, _, pre9 _ ?_, hrun, hended, _, _, rfl, ?_, ⟨_, rfl⟩, hW, hsame.mono (by decide) (by decide)⟩
   ·
    refine XS.ifYes X1.here hx rfl (pc0 := 9) (pc' := 16) rfl (hb hby d7_9) rfl ((if0 _ _).trans (feq (fun q => hc10 ((lw_eq _ _).mp q))).2) (by decide) (by decide) ?_
    refine yic X1 hx hby d7_16 ?_
    refine yye X1 hx hby 17 43 rfl d7_17 (feq (by decide : ¬ ((1 : Int32) = (0 : Int32)))).2 (by decide) ?_
    refine yic X1 hx hby d7_43 ?_
    show Steps p.tables e below (T1.setTop (mkF m 44 (l232_1 o1 q2 q3) [(.int 0)])) _
    exact retN X1 hx (t := .boolean) hret (by simp) (hb hby d7_44) hr
   ·
    show Q10 Z o1 q4 q2 q3 h0 n0 _ T1.heap _
    rw [e5]
    exact (Or.inr (Or.inr (Or.inl ⟨hc3, hc10, rfl, N1, rfl⟩)))
 ·
  have N1 := Fr.app N0 Nq7
  have pre20 : Go p e below T1 (mkF m 9 (l232_1 o1 q2 q3) [(.int (lcmpW q2 (9223372036854775807 : Int64))), (.int 0)]) E0 := fun t k => by
   refine pre2 _ ?_
   refine st1 _ ?_
   refine XS.lloadN X1.here hx rfl (hb hby d7_4) rfl ?_
   refine X1.ldc2Long hx hown (mvT hZ (own_w hw 0 rfl)) (g := (mkF m 5 (l232_1 o1 q2 q3) [(.long q2), (.int 0)])) rfl (hb hby d7_5) _ ?_
   refine XS.lcmp X1.here hx rfl (hb hby d7_8) rfl ?_
   exact k
  by_cases hc21 : q2 = (9223372036854775807 : Int64)
  ·
   have pre22 : Go p e below T1 (mkF m 9 (l232_0 o1 q3) [(.int (lcmpW (9223372036854775807 : Int64) (9223372036854775807 : Int64))), (.int 0)]) E0 := fun t k => pre20 t (by rw [hc21]; exact k)
   obtain ⟨fs, hr, hrun, hended, hW, hsame⟩ := X1.leave (v := some (.int 0)) (fun h => by rw [hret] at h; cases h)
   refine ⟨_, _, pre22 _ ?_, hrun, hended, _, _, rfl, ?_, ⟨_, rfl⟩, hW, hsame.mono (by decide) (by decide)⟩
   ·
    refine yfn X1 hx hby d7_9 ((if0 _ _).trans (teq ((lw_eq _ _).mpr (by decide : (9223372036854775807 : Int64) = (9223372036854775807 : Int64)))).2) ?_
    refine yic X1 hx hby d7_12 ?_
    refine ygo X1 hx hby 13 17 rfl d7_13 (by decide) ?_
    refine yye X1 hx hby 17 43 rfl d7_17 (feq (by decide : ¬ ((0 : Int32) = (1 : Int32)))).2 (by decide) ?_
    refine yic X1 hx hby d7_43 ?_
    show Steps p.tables e below (T1.setTop (mkF m 44 (l232_0 o1 q3) [(.int 0)])) _
    exact retN X1 hx (t := .boolean) hret (by simp) (hb hby d7_44) hr
   ·
    show Q10 Z o1 q4 q2 q3 h0 n0 _ T1.heap _
    rw [e8]
    exact (Or.inr (Or.inr (Or.inr (Or.inl ⟨hc6, hc21, rfl, N1, rfl⟩))))
  ·
   obtain ⟨_, T23, L23, X23, hQ23, st23⟩ := yv X1 hx hZ hown hby hml (y := yn8) (own_w hw 86 rfl) (own_w hw 87 rfl) (own_w hw 89 rfl) (own_w hw 88 rfl) (own_w hw 90 rfl) (w_5 hw) e8 P0 [(.long q3)] [] (rm9 l Z a0 hw [] o1 q4 q3 h0 n0 O0 g_o1 P1) 22 (l232_1 o1 q2 q3) rfl d7_22 (lenOf pd6 rfl) 0 0 0
   have pre24 : Go p e below T1 (mkF m 22 (l232_1 o1 q2 q3) [(.long q3), (.ref o1)]) E0 := fun t k => by
    refine pre20 _ ?_
    refine XS.ifYes X1.here hx rfl (pc0 := 9) (pc' := 16) rfl (hb hby d7_9) rfl ((if0 _ _).trans (feq (fun q => hc21 ((lw_eq _ _).mp q))).2) (by decide) (by decide) ?_
    refine yic X1 hx hby d7_16 ?_
    refine yno X1 hx hby d7_17 (teq (by decide : (0 : Int32) = (0 : Int32))).2 ?_
    refine yan X1 hx hby d7_20 rfl rfl ?_
    refine XS.lloadN X1.here hx rfl (hb hby d7_21) rfl ?_
    exact k
   rcases hQ23 with ⟨hc25, rfl, Nq26, e27⟩ | ⟨hc28, rfl, Nq29, e30⟩
   ·
    have N23 := Fr.app N1 Nq26
    have pre31 : Go p e below T23 (mkF m 28 (l232_1 o1 q2 q3) [(.int (lcmpW q2 q3)), (.int 1)]) E0 := fun t k => by
     refine pre24 _ ?_
     refine st23 _ ?_
     refine XS.lloadN X23.here hx rfl (hb hby d7_25) rfl ?_
     refine XS.lloadN X23.here hx rfl (hb hby d7_26) rfl ?_
     refine XS.lcmp X23.here hx rfl (hb hby d7_27) rfl ?_
     exact k
    by_cases hc32 : q3 < q2
    ·
     obtain ⟨fs, hr, hrun, hended, hW, hsame⟩ := X23.leave (v := some (.int 1)) (fun h => by rw [hret] at h; cases h)
     refine ⟨_, _, pre31 _ ?_, hrun, hended, _, _, rfl, ?_, ⟨_, rfl⟩, hW, hsame.mono (by decide) (by decide)⟩
     ·
      refine yfn X23 hx hby d7_28 ((if0 _ _).trans (tlt ((lw_gt _ _).mpr hc32)).2.2.2) ?_
      refine yic X23 hx hby d7_31 ?_
      refine ygo X23 hx hby 32 36 rfl d7_32 (by decide) ?_
      refine yno X23 hx hby d7_36 (teq (by decide : (1 : Int32) = (1 : Int32))).2 ?_
      refine yic X23 hx hby d7_39 ?_
      refine ygo X23 hx hby 40 44 rfl d7_40 (by decide) ?_
      show Steps p.tables e below (T23.setTop (mkF m 44 (l232_1 o1 q2 q3) [(.int 1)])) _
      exact retN X23 hx (t := .boolean) hret (by simp) (hb hby d7_44) hr
     ·
      show Q10 Z o1 q4 q2 q3 h0 n0 _ T23.heap _
      rw [e27]
      exact (Or.inr (Or.inr (Or.inr (Or.inr (Or.inl ⟨hc6, hc21, hc25, hc32, rfl, N23, rfl⟩)))))
    ·
     obtain ⟨fs, hr, hrun, hended, hW, hsame⟩ := X23.leave (v := some (.int 0)) (fun h => by rw [hret] at h; cases h)
     refine ⟨_, _, pre31 _ ?_, hrun, hended, _, _, rfl, ?_, ⟨_, rfl⟩, hW, hsame.mono (by decide) (by decide)⟩
     ·
      refine XS.ifYes X23.here hx rfl (pc0 := 28) (pc' := 35) rfl (hb hby d7_28) rfl ((if0 _ _).trans (flt (fun q => hc32 ((lw_gt _ _).mp q))).2.2.2) (by decide) (by decide) ?_
      refine yic X23 hx hby d7_35 ?_
      refine yye X23 hx hby 36 43 rfl d7_36 (feq (by decide : ¬ ((1 : Int32) = (0 : Int32)))).2 (by decide) ?_
      refine yic X23 hx hby d7_43 ?_
      show Steps p.tables e below (T23.setTop (mkF m 44 (l232_1 o1 q2 q3) [(.int 0)])) _
      exact retN X23 hx (t := .boolean) hret (by simp) (hb hby d7_44) hr
     ·
      show Q10 Z o1 q4 q2 q3 h0 n0 _ T23.heap _
      rw [e27]
      exact (Or.inr (Or.inr (Or.inr (Or.inr (Or.inr (Or.inl ⟨hc6, hc21, hc25, hc32, rfl, N23, rfl⟩))))))
   ·
    have N23 := Fr.app N1 Nq29
    have pre33 : Go p e below T23 (mkF m 28 (l232_1 o1 q2 q3) [(.int (lcmpW q2 q3)), (.int 0)]) E0 := fun t k => by
     refine pre24 _ ?_
     refine st23 _ ?_
     refine XS.lloadN X23.here hx rfl (hb hby d7_25) rfl ?_
     refine XS.lloadN X23.here hx rfl (hb hby d7_26) rfl ?_
     refine XS.lcmp X23.here hx rfl (hb hby d7_27) rfl ?_
     exact k
    by_cases hc34 : q3 < q2
    ·
     obtain ⟨fs, hr, hrun, hended, hW, hsame⟩ := X23.leave (v := some (.int 0)) (fun h => by rw [hret] at h; cases h)
     refine ⟨_, _, pre33 _ ?_, hrun, hended, _, _, rfl, ?_, ⟨_, rfl⟩, hW, hsame.mono (by decide) (by decide)⟩
     ·
      refine yfn X23 hx hby d7_28 ((if0 _ _).trans (tlt ((lw_gt _ _).mpr hc34)).2.2.2) ?_
      refine yic X23 hx hby d7_31 ?_
      refine ygo X23 hx hby 32 36 rfl d7_32 (by decide) ?_
      refine yye X23 hx hby 36 43 rfl d7_36 (feq (by decide : ¬ ((0 : Int32) = (1 : Int32)))).2 (by decide) ?_
      refine yic X23 hx hby d7_43 ?_
      show Steps p.tables e below (T23.setTop (mkF m 44 (l232_1 o1 q2 q3) [(.int 0)])) _
      exact retN X23 hx (t := .boolean) hret (by simp) (hb hby d7_44) hr
     ·
      show Q10 Z o1 q4 q2 q3 h0 n0 _ T23.heap _
      rw [e30]
      exact (Or.inr (Or.inr (Or.inr (Or.inr (Or.inr (Or.inr (Or.inl ⟨hc6, hc21, hc28, hc34, rfl, N23, rfl⟩)))))))
    ·
     obtain ⟨fs, hr, hrun, hended, hW, hsame⟩ := X23.leave (v := some (.int 1)) (fun h => by rw [hret] at h; cases h)
     refine ⟨_, _, pre33 _ ?_, hrun, hended, _, _, rfl, ?_, ⟨_, rfl⟩, hW, hsame.mono (by decide) (by decide)⟩
     ·
      refine XS.ifYes X23.here hx rfl (pc0 := 28) (pc' := 35) rfl (hb hby d7_28) rfl ((if0 _ _).trans (flt (fun q => hc34 ((lw_gt _ _).mp q))).2.2.2) (by decide) (by decide) ?_
      refine yic X23 hx hby d7_35 ?_
      refine yno X23 hx hby d7_36 (teq (by decide : (0 : Int32) = (0 : Int32))).2 ?_
      refine yic X23 hx hby d7_39 ?_
      refine ygo X23 hx hby 40 44 rfl d7_40 (by decide) ?_
      show Steps p.tables e below (T23.setTop (mkF m 44 (l232_1 o1 q2 q3) [(.int 1)])) _
      exact retN X23 hx (t := .boolean) hret (by simp) (hb hby d7_44) hr
     ·
      show Q10 Z o1 q4 q2 q3 h0 n0 _ T23.heap _
      rw [e30]
      exact (Or.inr (Or.inr (Or.inr (Or.inr (Or.inr (Or.inr (Or.inr ⟨hc6, hc21, hc28, hc34, rfl, N23, rfl⟩)))))))
theorem pd7 : parseMethodDescriptor "(Lcom/example/horn1/horn1/engine/Clause;JJ)Z" = some ⟨[(.object "com/example/horn1/horn1/engine/Clause"), .long, .long], some .boolean⟩ := by decide +kernel
theorem d10_0 : decode kd10 0 = .ok (.aload_n 0, 1) := by decide +kernel
theorem d10_1 : decode kd10 1 = .ok (.getfield 20, 3) := by decide +kernel
theorem d10_4 : decode kd10 4 = .ok (.aload_n 0, 1) := by decide +kernel
theorem d10_5 : decode kd10 5 = .ok (.getfield 13, 3) := by decide +kernel
theorem d10_8 : decode kd10 8 = .ok (.arraylength, 1) := by decide +kernel
theorem d10_9 : decode kd10 9 = .ok (.if_icmp .ne 7, 3) := by decide +kernel
theorem d10_12 : decode kd10 12 = .ok (.aload_n 0, 1) := by decide +kernel
theorem d10_13 : decode kd10 13 = .ok (.invokevirtual 26, 3) := by decide +kernel
theorem d11_0 : decode kd11 0 = .ok (.aload_n 0, 1) := by decide +kernel
theorem d11_1 : decode kd11 1 = .ok (.invokevirtual 46, 3) := by decide +kernel
theorem d11_4 : decode kd11 4 = .ok (.istore_n 1, 1) := by decide +kernel
theorem d11_5 : decode kd11 5 = .ok (.iconst 4, 1) := by decide +kernel
theorem d11_6 : decode kd11 6 = .ok (.iload_n 1, 1) := by decide +kernel
theorem d11_7 : decode kd11 7 = .ok (.invokestatic 50, 3) := by decide +kernel
theorem d12_0 : decode kd12 0 = .ok (.iload_n 0, 1) := by decide +kernel
theorem d12_1 : decode kd12 1 = .ok (.iload_n 1, 1) := by decide +kernel
theorem d12_2 : decode kd12 2 = .ok (.if_icmp .lt 7, 3) := by decide +kernel
theorem d12_9 : decode kd12 9 = .ok (.iload_n 1, 1) := by decide +kernel
theorem d12_10 : decode kd12 10 = .ok (.ireturn, 1) := by decide +kernel
theorem d12_5 : decode kd12 5 = .ok (.iload_n 0, 1) := by decide +kernel
theorem d12_6 : decode kd12 6 = .ok (.goto 4, 3) := by decide +kernel
theorem ef11 (m : MethodId) (x0 x1 : Int32) : entryFrame m #[(.int x0), (.int x1)] 2 = mkF m 0 #[.val (.int x0), .val (.int x1)] [] := by first | (simp [entryFrame, mkF, argsToLocals, Value.category]; done) | rfl
def Q11 (Z : State) (p1 p2 : Int32) (h0 : Heap) (n0 : Nat) (v : Option Value) (h : Heap) (L : List Loc) : Prop :=
  ((p1 < p2) ∧ v = some (.int p2) ∧ Fr n0 L ∧ h = h0)
  ∨ ((¬ (p1 < p2)) ∧ v = some (.int p1) ∧ Fr n0 L ∧ h = h0)
set_option maxRecDepth 65536 in
set_option maxHeartbeats 40000000 in
theorem rm11 (l : Launch) (Z : State) (a0 : Array Value) (hw : HW a0 Z) (ws : List Jvm.Cond) (p1 p2 : Int32) (h0 : Heap) (n0 : Nat) (O0 : Old Z n0 h0) :
    MF l yn10 jdk_29_method_65_code 2 (some .int) ws ({ frames := 0, cells := 0, slots := 0, locals := 0 } : Room) #[(.int p1), (.int p2)] Z h0 (Q11 Z p1 p2 h0 n0) := by
 refine MetFree.of_bodySF (Jvm.Free.JP.mathPlain rfl (by decide +kernel)) hisR ?_
 intro p e s m args below meth c s₁ Bd hml hP hK
 obtain ⟨rfl, hZ, hh⟩ := hP
 obtain ⟨hx, hby, hown, hret, hlk, X0, e0, N0⟩ := own_bd Bd hh n0
 have pre0 := own_ct s₁ (p := p) (e := e) (below := below) (ef11 m p1 p2)
 revert pre0
 generalize s₁.setTop (entryFrame m #[(.int p1), (.int p2)] 2) = E0
 intro pre0
 have pre1 : Go p e below s₁ (mkF m 2 #[.val (.int p1), .val (.int p2)] [(.int p2), (.int p1)]) E0 := fun t k => by
  refine pre0 _ ?_
  refine yin X0 hx hby d12_0 rfl ?_
  refine yin X0 hx hby d12_1 rfl ?_
  exact k
 by_cases hc2 : p1 < p2
 ·
  obtain ⟨fs, hr, hrun, hended, hW, hsame⟩ := X0.leave (v := some (.int p2)) (fun h => by rw [hret] at h; cases h)
  refine ⟨_, _, pre1 _ ?_, hrun, hended, _, _, rfl, ?_, ⟨_, rfl⟩, hW, hsame.mono (by decide) (by decide)⟩
  ·
   refine yye X0 hx hby 2 9 rfl d12_2 (tlt hc2).1 (by decide) ?_
   refine yin X0 hx hby d12_9 rfl ?_
   show Steps p.tables e below (s₁.setTop (mkF m 10 #[.val (.int p1), .val (.int p2)] [(.int p2)])) _
   exact retI X0 hx hret (hb hby d12_10) hr
  ·
   show Q11 Z p1 p2 h0 n0 _ s₁.heap _
   rw [e0]
   exact (Or.inl ⟨hc2, rfl, N0, rfl⟩)
 ·
  obtain ⟨fs, hr, hrun, hended, hW, hsame⟩ := X0.leave (v := some (.int p1)) (fun h => by rw [hret] at h; cases h)
  refine ⟨_, _, pre1 _ ?_, hrun, hended, _, _, rfl, ?_, ⟨_, rfl⟩, hW, hsame.mono (by decide) (by decide)⟩
  ·
   refine yno X0 hx hby d12_2 (flt hc2).1 ?_
   refine yin X0 hx hby d12_5 rfl ?_
   refine ygo X0 hx hby 6 10 rfl d12_6 (by decide) ?_
   show Steps p.tables e below (s₁.setTop (mkF m 10 #[.val (.int p1), .val (.int p2)] [(.int p1)])) _
   exact retI X0 hx hret (hb hby d12_10) hr
  ·
   show Q11 Z p1 p2 h0 n0 _ s₁.heap _
   rw [e0]
   exact (Or.inr ⟨hc2, rfl, N0, rfl⟩)
theorem pd8 : parseMethodDescriptor "(II)I" = some ⟨[.int, .int], some .int⟩ := by decide +kernel
theorem d11_10 : decode kd11 10 = .ok (.istore_n 2, 1) := by decide +kernel
theorem d11_11 : decode kd11 11 = .ok (.aload_n 0, 1) := by decide +kernel
theorem d11_12 : decode kd11 12 = .ok (.getfield 29, 3) := by decide +kernel
theorem d11_15 : decode kd11 15 = .ok (.ifCond .eq 7, 3) := by decide +kernel
theorem d11_22 : decode kd11 22 = .ok (.iconst 0, 1) := by decide +kernel
theorem d11_23 : decode kd11 23 = .ok (.istore_n 3, 1) := by decide +kernel
theorem d11_24 : decode kd11 24 = .ok (.iload_n 3, 1) := by decide +kernel
theorem d11_25 : decode kd11 25 = .ok (.iload_n 1, 1) := by decide +kernel
theorem d11_26 : decode kd11 26 = .ok (.iadd, 1) := by decide +kernel
theorem d11_27 : decode kd11 27 = .ok (.iload_n 2, 1) := by decide +kernel
theorem d11_28 : decode kd11 28 = .ok (.iadd, 1) := by decide +kernel
theorem d11_29 : decode kd11 29 = .ok (.anewarray 37, 3) := by decide +kernel
theorem d11_32 : decode kd11 32 = .ok (.astore 4, 2) := by decide +kernel
theorem d11_34 : decode kd11 34 = .ok (.iload_n 3, 1) := by decide +kernel
theorem d11_35 : decode kd11 35 = .ok (.istore 5, 2) := by decide +kernel
theorem d11_37 : decode kd11 37 = .ok (.aload_n 0, 1) := by decide +kernel
theorem d11_38 : decode kd11 38 = .ok (.getfield 16, 3) := by decide +kernel
theorem d11_41 : decode kd11 41 = .ok (.istore 6, 2) := by decide +kernel
theorem d11_43 : decode kd11 43 = .ok (.iload 6, 2) := by decide +kernel
theorem d11_45 : decode kd11 45 = .ok (.aload_n 0, 1) := by decide +kernel
theorem d11_46 : decode kd11 46 = .ok (.getfield 20, 3) := by decide +kernel
theorem d11_49 : decode kd11 49 = .ok (.if_icmp .ge 37, 3) := by decide +kernel
theorem d11_86 : decode kd11 86 = .ok (.aload_n 0, 1) := by decide +kernel
theorem d11_87 : decode kd11 87 = .ok (.aload 4, 2) := by decide +kernel
theorem d11_89 : decode kd11 89 = .ok (.putfield 13, 3) := by decide +kernel
theorem d11_92 : decode kd11 92 = .ok (.aload_n 0, 1) := by decide +kernel
theorem d11_93 : decode kd11 93 = .ok (.iload_n 3, 1) := by decide +kernel
theorem d11_94 : decode kd11 94 = .ok (.putfield 33, 3) := by decide +kernel
theorem d11_97 : decode kd11 97 = .ok (.aload_n 0, 1) := by decide +kernel
theorem d11_98 : decode kd11 98 = .ok (.iload_n 3, 1) := by decide +kernel
theorem d11_99 : decode kd11 99 = .ok (.putfield 16, 3) := by decide +kernel
theorem d11_102 : decode kd11 102 = .ok (.aload_n 0, 1) := by decide +kernel
theorem d11_103 : decode kd11 103 = .ok (.iload 5, 2) := by decide +kernel
theorem d11_105 : decode kd11 105 = .ok (.putfield 20, 3) := by decide +kernel
theorem d11_108 : decode kd11 108 = .ok (.aload_n 0, 1) := by decide +kernel
theorem d11_109 : decode kd11 109 = .ok (.iconst 0, 1) := by decide +kernel
theorem d11_110 : decode kd11 110 = .ok (.putfield 23, 3) := by decide +kernel
theorem d11_113 : decode kd11 113 = .ok (.return_, 1) := by decide +kernel
def l295_0 (o1 b14 : Addr) : Array Slot := #[.val (.ref o1), .val (.int (((0 : Int32) - (0 : Int32)) - (0 : Int32))), .val (.int 4), .val (.int 0), .val (.ref b14), .val (.int 0), .val (.int 0)]
def l295_1 (o1 b14 : Addr) : Array Slot := #[.val (.ref o1), .val (.int (((0 : Int32) - (0 : Int32)) - (0 : Int32))), .val (.int 4), .val (.int 0), .val (.ref b14), .val (.int 0), .unset]
def l295_2 (o1 : Addr) : Array Slot := #[.val (.ref o1), .val (.int (((0 : Int32) - (0 : Int32)) - (0 : Int32))), .val (.int 4), .val (.int 0), .unset, .unset, .unset]
def l295_3 (o1 : Addr) : Array Slot := #[.val (.ref o1), .val (.int (((0 : Int32) - (0 : Int32)) - (0 : Int32))), .val (.int 4), .unset, .unset, .unset, .unset]
def l295_4 (o1 : Addr) : Array Slot := #[.val (.ref o1), .val (.int (((0 : Int32) - (0 : Int32)) - (0 : Int32))), .unset, .unset, .unset, .unset, .unset]
theorem ef12 (m : MethodId) (x0 : Addr) : entryFrame m #[(.ref x0)] 7 = mkF m 0 #[.val (.ref x0), .unset, .unset, .unset, .unset, .unset, .unset] [] := by first | (simp [entryFrame, mkF, argsToLocals, Value.category]; done) | rfl
def Q12 (Z : State) (w1 : Addr) (kw1 : ClassId) (o1 : Addr) (h0 : Heap) (n0 : Nat) (v : Option Value) (h : Heap) (L : List Loc) : Prop :=
  (∃ b14 : Addr, ∃ k14 : ClassId, v = none ∧ Fr n0 L ∧ Keep h0 h [o1] ∧ h0.size ≤ b14 ∧ Ovr Z k14 cn6 ∧ (Exa Z h o1 cn7) ∧ (Fld Z h o1 cn7 "addsFirst" "Z" (.int 0)) ∧ (Fld Z h o1 cn7 "end" "I" (.int 0)) ∧ (Fld Z h o1 cn7 "first" "I" (.int 0)) ∧ (Fld Z h o1 cn7 "low" "I" (.int 0)) ∧ (Fld Z h o1 cn7 "removed" "I" (.int 0)) ∧ (Fld Z h o1 cn7 "slots" cn3 (.ref b14)) ∧ (Arv Z h b14 k14 (.object cn6) (4 : Int32) [.null, .null, .null, .null] .null) ∧ (Exa Z h b14 cn3))
set_option maxRecDepth 65536 in
set_option maxHeartbeats 40000000 in
theorem rm12 (l : Launch) (Z : State) (a0 : Array Value) (hw : HW a0 Z) (w1 : Addr) (kw1 : ClassId) (G : GW Z w1 kw1) (ws : List Jvm.Cond) (o1 : Addr) (h0 : Heap) (n0 : Nat) (O0 : Old Z n0 h0) (g_o1 : n0 ≤ o1) (P0 : Exa Z h0 o1 cn7) (P1 : Fld Z h0 o1 cn7 "addsFirst" "Z" (.int 0)) (P2 : Fld Z h0 o1 cn7 "end" "I" (.int 0)) (P3 : Fld Z h0 o1 cn7 "first" "I" (.int 0)) (P4 : Fld Z h0 o1 cn7 "low" "I" (.int 0)) (P5 : Fld Z h0 o1 cn7 "removed" "I" (.int 0)) (P6 : Fld Z h0 o1 cn7 "slots" cn3 (.ref w1)) :
    MF l yn11 prog_41_method_10_code 7 none ws ({ frames := 1, cells := 1, slots := 4, locals := 13 } : Room) #[(.ref o1)] Z h0 (Q12 Z w1 kw1 o1 h0 n0) := by
 obtain ⟨S_w1, A_w1⟩ := id G
 refine MetFree.of_bodySF (plainFor_of_name pn1) hisR ?_
 intro p e s m args below meth c s₁ Bd hml hP hK
 obtain ⟨rfl, hZ, hh⟩ := hP
 obtain ⟨hx, hby, hown, hret, hlk, X0, e0, N0⟩ := own_bd Bd hh n0
 have pre0 := own_ct s₁ (p := p) (e := e) (below := below) (ef12 m o1)
 revert pre0
 generalize s₁.setTop (entryFrame m #[(.ref o1)] 7) = E0
 intro pre0
 obtain ⟨_, T1, L1, X1, hQ1, st1⟩ := yv X0 hx hZ hown hby hml (y := yn3) (own_w hw 100 rfl) (w_58 hw) (own_w hw 60 rfl) (w_59 hw) (own_w hw 61 rfl) (w_33 hw) e0 P0 [] [] (rm4 l Z a0 hw [] o1 ((0 : Int32)) ((0 : Int32)) ((0 : Int32)) h0 n0 O0 g_o1 P2 P3 P5) 1 #[.val (.ref o1), .unset, .unset, .unset, .unset, .unset, .unset] rfl d11_1 (lenOf pd3 rfl) 0 0 0
 obtain ⟨rfl, Nq2, e3⟩ := hQ1
 have N1 := Fr.app N0 Nq2
 obtain ⟨_, T4, L4, X4, hQ4, st4⟩ := own_cs X1 hx hZ hown (y := yn10) (own_w hw 101 rfl) (own_w hw 102 rfl) (own_w hw 104 rfl) (w_103 hw) e3 (argsL := [(.int 4), (.int (((0 : Int32) - (0 : Int32)) - (0 : Int32)))]) (rest := []) (rm11 l Z a0 hw [] ((4 : Int32)) ((((0 : Int32) - (0 : Int32)) - (0 : Int32))) h0 n0 O0 ) (g := (mkF m 7 (l295_4 o1) [(.int (((0 : Int32) - (0 : Int32)) - (0 : Int32))), (.int 4)])) rfl (by rw [hml]; rfl) rfl (hb hby d11_7) (lenOf pd8 rfl) (W := 0) (c1 := 0) (s1 := 0)
 have pre5 : Go p e below T1 (mkF m 7 (l295_4 o1) [(.int (((0 : Int32) - (0 : Int32)) - (0 : Int32))), (.int 4)]) E0 := fun t k => by
  refine pre0 _ ?_
  refine yan X0 hx hby d11_0 rfl rfl ?_
  refine st1 _ ?_
  refine yit X1 hx hby d11_4 (l' := (l295_4 o1)) rfl ?_
  refine yic X1 hx hby d11_5 ?_
  refine yin X1 hx hby d11_6 rfl ?_
  exact k
 rcases hQ4 with ⟨hc6, rfl, Nq7, e8⟩ | ⟨hc9, rfl, Nq10, e11⟩
 ·
  exact absurd hc6 (own_gnlt2 (n := 4) (k := (4 : Int32)) (by decide) (by have q0 := own_sub (x := ((0 : Int32) - (0 : Int32))) (k := (0 : Int32)) (n := 0) (lo := 0) (hi := 0) (by decide) (by have q0 := own_sub (x := (0 : Int32)) (k := (0 : Int32)) (n := 0) (lo := 0) (hi := 0) (by decide) (by have q0 := (by decide : ((0 : Int32)).toInt = 0); omega) (by decide) (by decide); omega) (by decide) (by decide); omega))
 ·
  have N4 := Fr.app N1 Nq10
  obtain ⟨T12, X12, e12, st12⟩ := yag X4 hx hZ hown hby (own_w hw 55 rfl) e11 P1 11 (l295_3 o1) [] d11_11 d11_12 rfl
  have hq13 : (((0 : Int32) + (((0 : Int32) - (0 : Int32)) - (0 : Int32))) + (4 : Int32)) = (4 : Int32) := (own_geq (n := 4) (k := (4 : Int32)) (by decide) (by have q0 := own_add (x := ((0 : Int32) + (((0 : Int32) - (0 : Int32)) - (0 : Int32)))) (k := (4 : Int32)) (n := 4) (lo := 0) (hi := 0) (by decide) (by have q0 := own_add2 (x := (((0 : Int32) - (0 : Int32)) - (0 : Int32))) (k := (0 : Int32)) (n := 0) (lo := 0) (hi := 0) (by decide) (by have q0 := own_sub (x := ((0 : Int32) - (0 : Int32))) (k := (0 : Int32)) (n := 0) (lo := 0) (hi := 0) (by decide) (by have q0 := own_sub (x := (0 : Int32)) (k := (0 : Int32)) (n := 0) (lo := 0) (hi := 0) (by decide) (by have q0 := (by decide : ((0 : Int32)).toInt = 0); omega) (by decide) (by decide); omega) (by decide) (by decide); omega) (by decide) (by decide); omega) (by decide) (by decide); omega))
  obtain ⟨T14, h14, k14, X14, e14, E14, A14, EX14, OV14, st14⟩ := newRE X12 hx hZ hown (own_w hw 105 rfl) (own_w hw 106 rfl) e12 (g := (mkF m 29 (l295_2 o1) [(.int (((0 : Int32) + (((0 : Int32) - (0 : Int32)) - (0 : Int32))) + (4 : Int32)))])) rfl (hb hby d11_29) rfl (by rw [hq13]; decide) (cap := 4) (by rw [hq13]; decide) (by decide) (by decide) (by decide) (ad := cn3) (by decide)
  obtain ⟨b14, g14⟩ : ∃ z, z = h0.size := ⟨_, rfl⟩
  rw [← g14] at A14 EX14 st14
  rw [hq13] at A14
  have sz_b14 : h0.size ≤ b14 := Nat.le_of_eq g14.symm
  have V14_0 := Arv.new A14 (by decide)
  have V14 : Arv Z h14 b14 k14 (.object cn6) (4 : Int32) [.null, .null, .null, .null] .null := V14_0.pad (pad_rep [] .null 4)
  have f15 := (P3.ext E14)
  obtain ⟨T16, X16, e16, st16⟩ := yag X14 hx hZ hown hby (w_47 hw) e14 f15 37 (l295_1 o1 b14) [] d11_37 d11_38 rfl
  have f17 := (P2.ext E14)
  obtain ⟨T18, X18, e18, st18⟩ := yag X16 hx hZ hown hby (w_49 hw) e16 f17 45 (l295_0 o1 b14) [(.int 0)] d11_45 d11_46 rfl
  have f19 := (P6.ext E14)
  have f20 := (P0.ext E14)
  obtain ⟨T21, h21, X21, e21, W21, st21⟩ := yp X18 hx hZ hown hby (w_40 hw) e18 f19 f20 (w_41 hw) (w_32 hw) (ty := (.array (.object cn6))) (v := (.ref b14)) (by decide) rfl rfl 89 (l295_0 o1 b14) [] d11_89
  have N21 := Fr.snoc X21 N4 g_o1
  have Fw21 := f19.same W21
  have f22 := ((P4.ext E14).other W21 (Or.inr (sn47 hw)))
  have f23 := (f20.wr W21)
  obtain ⟨T24, h24, X24, e24, W24, st24⟩ := yp X21 hx hZ hown hby (w_51 hw) e21 f22 f23 (w_52 hw) (w_32 hw) (ty := .int) (v := (.int 0)) (by decide) rfl rfl 94 (l295_0 o1 b14) [] d11_94
  have N24 := Fr.snoc X24 N21 g_o1
  have Fw24 := f22.same W24
  have f25 := ((f15.other W21 (Or.inr (sn46 hw))).other W24 (Or.inr (sn49 hw)))
  have f26 := (f23.wr W24)
  obtain ⟨T27, h27, X27, e27, W27, st27⟩ := yp X24 hx hZ hown hby (w_47 hw) e24 f25 f26 (w_48 hw) (w_32 hw) (ty := .int) (v := (.int 0)) (by decide) rfl rfl 99 (l295_0 o1 b14) [] d11_99
  have N27 := Fr.snoc X27 N24 g_o1
  have Fw27 := f25.same W27
  have f28 := (((f17.other W21 (Or.inr (sn45 hw))).other W24 (Or.inr (sn50 hw))).other W27 (Or.inr (sn51 hw)))
  have f29 := (f26.wr W27)
  obtain ⟨T30, h30, X30, e30, W30, st30⟩ := yp X27 hx hZ hown hby (w_49 hw) e27 f28 f29 (w_50 hw) (w_32 hw) (ty := .int) (v := (.int 0)) (by decide) rfl rfl 105 (l295_0 o1 b14) [] d11_105
  have N30 := Fr.snoc X30 N27 g_o1
  have Fw30 := f28.same W30
  have f31 := (((((P5.ext E14).other W21 (Or.inr (sn48 hw))).other W24 (Or.inr (sn52 hw))).other W27 (Or.inr (sn53 hw))).other W30 (Or.inr (sn54 hw)))
  have f32 := (f29.wr W30)
  obtain ⟨T33, h33, X33, e33, W33, st33⟩ := yp X30 hx hZ hown hby (w_53 hw) e30 f31 f32 (w_54 hw) (w_32 hw) (ty := .int) (v := (.int 0)) (by decide) rfl rfl 110 (l295_0 o1 b14) [] d11_110
  have N33 := Fr.snoc X33 N30 g_o1
  have Fw33 := f31.same W33
  obtain ⟨fs, hr, hrun, hended, hW, hsame⟩ := X33.leave (v := none) (fun _ => rfl)
  have KL : Keep h0 h33 [o1] := (((((((Keep.refl h0 [o1]).ext E14).wr W21 (Or.inl (List.mem_of_getElem? (i := 0) rfl))).wr W24 (Or.inl (List.mem_of_getElem? (i := 0) rfl))).wr W27 (Or.inl (List.mem_of_getElem? (i := 0) rfl))).wr W30 (Or.inl (List.mem_of_getElem? (i := 0) rfl))).wr W33 (Or.inl (List.mem_of_getElem? (i := 0) rfl)))
  have f34 := (f32.wr W33)
  have f35 := ((((((P1.ext E14).other W21 (Or.inr (sn44 hw))).other W24 (Or.inr (sn55 hw))).other W27 (Or.inr (sn56 hw))).other W30 (Or.inr (sn57 hw))).other W33 (Or.inr (sn58 hw)))
  have f36 := (Fw30.other W33 (Or.inr (sn59 hw)))
  have f37 := ((Fw27.other W30 (Or.inr (sn61 hw))).other W33 (Or.inr (sn62 hw)))
  have f38 := (((Fw24.other W27 (Or.inr (sn64 hw))).other W30 (Or.inr (sn65 hw))).other W33 (Or.inr (sn66 hw)))
  have f39 := ((((Fw21.other W24 (Or.inr (sn69 hw))).other W27 (Or.inr (sn70 hw))).other W30 (Or.inr (sn71 hw))).other W33 (Or.inr (sn72 hw)))
  have lt40 : o1 < h0.size := P0.lt
  have ne41 : o1 ≠ b14 := Nat.ne_of_lt (Nat.lt_of_lt_of_le lt40 sz_b14)
  have f42 := (((((V14.other W21 (Ne.symm ne41)).other W24 (Ne.symm ne41)).other W27 (Ne.symm ne41)).other W30 (Ne.symm ne41)).other W33 (Ne.symm ne41))
  have f43 := (((((EX14.wr W21).wr W24).wr W27).wr W30).wr W33)
  refine ⟨_, _, pre5 _ ?_, hrun, hended, _, _, rfl, ?_, ⟨_, rfl⟩, hW, hsame.mono (by decide) (by decide)⟩
  ·
   refine st4 _ ?_
   refine yit X4 hx hby d11_10 (l' := (l295_3 o1)) rfl ?_
   refine st12 _ ?_
   refine XS.ifYes X12.here hx rfl (pc0 := 15) (pc' := 22) rfl (hb hby d11_15) rfl ((if0 _ _).trans (teq (by decide : (0 : Int32) = (0 : Int32))).1) (by decide) (by decide) ?_
   refine yic X12 hx hby d11_22 ?_
   refine yit X12 hx hby d11_23 (l' := (l295_2 o1)) rfl ?_
   refine yin X12 hx hby d11_24 rfl ?_
   refine yin X12 hx hby d11_25 rfl ?_
   refine yad X12 hx hby d11_26 ?_
   refine yin X12 hx hby d11_27 rfl ?_
   refine yad X12 hx hby d11_28 ?_
   refine st14 _ ?_
   refine XS.astore X14.here hx rfl (hb hby d11_32) rfl rfl (l' := #[.val (.ref o1), .val (.int (((0 : Int32) - (0 : Int32)) - (0 : Int32))), .val (.int 4), .val (.int 0), .val (.ref b14), .unset, .unset]) rfl ?_
   refine yin X14 hx hby d11_34 rfl ?_
   refine yis X14 hx hby d11_35 (l' := (l295_1 o1 b14)) rfl ?_
   refine st16 _ ?_
   refine yis X16 hx hby d11_41 (l' := (l295_0 o1 b14)) rfl ?_
   refine yil X16 hx hby d11_43 rfl ?_
   refine st18 _ ?_
   refine yye X18 hx hby 49 86 rfl d11_49 (flt (by decide : ¬ ((0 : Int32) < (0 : Int32)))).2.1 (by decide) ?_
   refine yan X18 hx hby d11_86 rfl rfl ?_
   refine yal X18 hx hby d11_87 rfl rfl ?_
   refine st21 _ ?_
   refine yan X21 hx hby d11_92 rfl rfl ?_
   refine yin X21 hx hby d11_93 rfl ?_
   refine st24 _ ?_
   refine yan X24 hx hby d11_97 rfl rfl ?_
   refine yin X24 hx hby d11_98 rfl ?_
   refine st27 _ ?_
   refine yan X27 hx hby d11_102 rfl rfl ?_
   refine yil X27 hx hby d11_103 rfl ?_
   refine st30 _ ?_
   show Steps p.tables e below (T30.setTop (mkF m 108 (l295_0 o1 b14) [])) _
   refine yan X30 hx hby d11_108 rfl rfl ?_
   refine yic X30 hx hby d11_109 ?_
   refine st33 _ ?_
   show Steps p.tables e below (T33.setTop (mkF m 113 (l295_0 o1 b14) [])) _
   exact X33.returnOut hx hret (hb hby d11_113) hr
  ·
   show Q12 Z w1 kw1 o1 h0 n0 _ T33.heap _
   rw [e33]
   exact ⟨b14, k14, rfl, N33, KL, (Nat.le_trans (Nat.le_refl _) sz_b14), OV14, f34, f35, f36, f37, f38, Fw33, f39, f42, f43⟩
theorem d10_16 : decode kd10 16 = .ok (.aload_n 0, 1) := by decide +kernel
theorem d10_17 : decode kd10 17 = .ok (.getfield 13, 3) := by decide +kernel
theorem d10_20 : decode kd10 20 = .ok (.aload_n 0, 1) := by decide +kernel
theorem d10_21 : decode kd10 21 = .ok (.getfield 20, 3) := by decide +kernel
theorem d10_24 : decode kd10 24 = .ok (.aload_n 1, 1) := by decide +kernel
theorem d10_25 : decode kd10 25 = .ok (.aastore, 1) := by decide +kernel
theorem d10_26 : decode kd10 26 = .ok (.aload_n 0, 1) := by decide +kernel
theorem d10_27 : decode kd10 27 = .ok (.dup, 1) := by decide +kernel
theorem d10_28 : decode kd10 28 = .ok (.getfield 20, 3) := by decide +kernel
theorem d10_31 : decode kd10 31 = .ok (.iconst 1, 1) := by decide +kernel
theorem d10_32 : decode kd10 32 = .ok (.iadd, 1) := by decide +kernel
theorem d10_33 : decode kd10 33 = .ok (.putfield 20, 3) := by decide +kernel
theorem d10_36 : decode kd10 36 = .ok (.return_, 1) := by decide +kernel
def l309_0 (o1 o2 : Addr) : Array Slot := #[.val (.ref o1), .val (.ref o2)]
theorem ef13 (m : MethodId) (x0 x1 : Addr) : entryFrame m #[(.ref x0), (.ref x1)] 2 = mkF m 0 #[.val (.ref x0), .val (.ref x1)] [] := by first | (simp [entryFrame, mkF, argsToLocals, Value.category]; done) | rfl
def Q13 (Z : State) (w1 : Addr) (kw1 : ClassId) (o1 o2 : Addr) (h0 : Heap) (n0 : Nat) (v : Option Value) (h : Heap) (L : List Loc) : Prop :=
  (∃ b5 : Addr, ∃ k6 : ClassId, v = none ∧ Fr n0 L ∧ Keep h0 h [o1] ∧ h0.size ≤ b5 ∧ Ovr Z k6 cn6 ∧ (Exa Z h o1 cn7) ∧ (Fld Z h o1 cn7 "addsFirst" "Z" (.int 0)) ∧ (Fld Z h o1 cn7 "end" "I" (.int 1)) ∧ (Fld Z h o1 cn7 "first" "I" (.int 0)) ∧ (Fld Z h o1 cn7 "low" "I" (.int 0)) ∧ (Fld Z h o1 cn7 "removed" "I" (.int 0)) ∧ (Fld Z h o1 cn7 "slots" cn3 (.ref b5)) ∧ (Arv Z h b5 k6 (.object cn6) (4 : Int32) [(.ref o2), .null, .null, .null] .null) ∧ (Exa Z h b5 cn3))
set_option maxRecDepth 65536 in
set_option maxHeartbeats 40000000 in
theorem rm13 (l : Launch) (Z : State) (a0 : Array Value) (hw : HW a0 Z) (w1 : Addr) (kw1 : ClassId) (G : GW Z w1 kw1) (ws : List Jvm.Cond) (o1 o2 : Addr) (h0 : Heap) (n0 : Nat) (O0 : Old Z n0 h0) (g_o1 : n0 ≤ o1) (g_o2 : n0 ≤ o2) (P0 : Exa Z h0 o1 cn7) (P1 : Fld Z h0 o1 cn7 "addsFirst" "Z" (.int 0)) (P2 : Fld Z h0 o1 cn7 "end" "I" (.int 0)) (P3 : Fld Z h0 o1 cn7 "first" "I" (.int 0)) (P4 : Fld Z h0 o1 cn7 "low" "I" (.int 0)) (P5 : Fld Z h0 o1 cn7 "removed" "I" (.int 0)) (P6 : Fld Z h0 o1 cn7 "slots" cn3 (.ref w1)) (P7 : Exa Z h0 o2 cn6) :
    MF l yn12 prog_41_method_6_code 2 none ws ({ frames := 2, cells := 1, slots := 4, locals := 31 } : Room) #[(.ref o1), (.ref o2)] Z h0 (Q13 Z w1 kw1 o1 o2 h0 n0) := by
 obtain ⟨S_w1, A_w1⟩ := id G
 refine MetFree.of_bodySF (plainFor_of_name pn1) hisR ?_
 intro p e s m args below meth c s₁ Bd hml hP hK
 obtain ⟨rfl, hZ, hh⟩ := hP
 obtain ⟨hx, hby, hown, hret, hlk, X0, e0, N0⟩ := own_bd Bd hh n0
 have pre0 := own_ct s₁ (p := p) (e := e) (below := below) (ef13 m o1 o2)
 obtain ⟨T1, X1, e1, st1⟩ := yag X0 hx hZ hown hby (w_49 hw) e0 P2 0 (l309_0 o1 o2) [] d10_0 d10_1 rfl
 obtain ⟨T2, X2, e2, st2⟩ := yag X1 hx hZ hown hby (w_40 hw) e1 P6 4 (l309_0 o1 o2) [(.int 0)] d10_4 d10_5 rfl
 obtain ⟨cl3, Ar3, qa3, Sa3, Na3, Ha3, Ga3⟩ := id ((A_w1.ext O0.2))
 obtain ⟨_, T4, L4, X4, hQ4, st4⟩ := own_pb X2 hx hZ hown (y := yn11) (own_w hw 96 rfl) (own_w hw 97 rfl) (own_selp (mvT hZ (own_w hw 45 rfl)) rfl (Cond.privateMethod_at (mvP hZ (own_w hw 98 rfl) (args := #[]))) (mvT hZ (own_w hw 97 rfl)) (by decide)) (own_w hw 98 rfl) (own_w hw 99 rfl) (w_33 hw) e2 P0 (argsL := []) (rest := []) (rm12 l Z a0 hw w1 kw1 G [] o1 h0 n0 O0 g_o1 P0 P1 P2 P3 P4 P5 P6) (g := (mkF m 13 (l309_0 o1 o2) [(.ref o1)])) rfl (by rw [hml]; rfl) rfl (hb hby d10_13) (lenOf pd1 rfl) (W := 0) (c1 := 1) (s1 := 4)
 obtain ⟨b5, k6, rfl, Nq7, K8, sz_b5, OV9, f10, f11, f12, f13, f14, f15, f16, f17, f18⟩ := hQ4
 have N4 := Fr.app N0 Nq7
 have g_b5 : n0 ≤ b5 := Nat.le_trans (own_oz O0) sz_b5
 obtain ⟨T19, X19, e19, st19⟩ := yag X4 hx hZ hown hby (w_40 hw) rfl f16 16 (l309_0 o1 o2) [] d10_16 d10_17 rfl
 obtain ⟨T20, X20, e20, st20⟩ := yag X19 hx hZ hown hby (w_49 hw) e19 f12 20 (l309_0 o1 o2) [(.ref b5)] d10_20 d10_21 rfl
 obtain ⟨cl21, Ar21, qa21, Sa21, Na21, Ha21, Ga21⟩ := id (f17)
 have hin21 := inb_of (j := (0 : Int32)) Sa21 ⟨by decide, by decide⟩
 have f22 := (P7.keep K8)
 obtain ⟨T23, h23, X23, e23, W23, st23⟩ := stR X20 hx hZ e20 Ar21 (j := (0 : Int32)) hin21 rfl (Sto.ofV Ar21 qa21 OV9 (Ins.self f22)) (g := (mkF m 25 (l309_0 o1 o2) [(.ref o2), (.int 0), (.ref b5)])) rfl rfl (hb hby d10_25)
 have V23 : Arv Z h23 b5 k6 (.object cn6) (4 : Int32) [(.ref o2), .null, .null, .null] .null := Arv.set Ar21 qa21 Sa21 Na21 Ha21 Ga21 rfl W23 0 rfl (Nat.le_of_ble_eq_true rfl)
 have N23 := Fr.snoc X23 N4 g_b5
 have lt24 : o1 < h0.size := P0.lt
 have ne25 : o1 ≠ b5 := Nat.ne_of_lt (Nat.lt_of_lt_of_le lt24 sz_b5)
 have f26 := (f12.other W23 (Or.inl ne25))
 obtain ⟨T27, X27, e27, st27⟩ := yg X23 hx hZ hown hby (w_49 hw) e23 f26 28 (l309_0 o1 o2) [(.ref o1)] d10_28
 have f28 := (f10.wr W23)
 obtain ⟨T29, h29, X29, e29, W29, st29⟩ := yp X27 hx hZ hown hby (w_49 hw) e27 f26 f28 (w_50 hw) (w_32 hw) (ty := .int) (v := (.int 1)) (by decide) rfl rfl 33 (l309_0 o1 o2) [] d10_33
 have N29 := Fr.snoc X29 N23 g_o1
 have Fw29 := f26.same W29
 obtain ⟨fs, hr, hrun, hended, hW, hsame⟩ := X29.leave (v := none) (fun _ => rfl)
 have KL : Keep h0 h29 [o1] := ((((Keep.refl h0 [o1]).trans K8 (allS (Or.inl (List.mem_of_getElem? (i := 0) rfl)) all0)).wr W23 (Or.inr (Nat.le_trans (Nat.le_refl _) sz_b5))).wr W29 (Or.inl (List.mem_of_getElem? (i := 0) rfl)))
 have f30 := (f28.wr W29)
 have f31 := ((f11.other W23 (Or.inl ne25)).other W29 (Or.inr (sn57 hw)))
 have f32 := ((f13.other W23 (Or.inl ne25)).other W29 (Or.inr (sn61 hw)))
 have f33 := ((f14.other W23 (Or.inl ne25)).other W29 (Or.inr (sn65 hw)))
 have f34 := ((f15.other W23 (Or.inl ne25)).other W29 (Or.inr (sn54 hw)))
 have f35 := ((f16.other W23 (Or.inl ne25)).other W29 (Or.inr (sn71 hw)))
 have f36 := (V23.other W29 (Ne.symm ne25))
 have f37 := ((f18.wr W23).wr W29)
 refine ⟨_, _, pre0 _ ?_, hrun, hended, _, _, rfl, ?_, ⟨_, rfl⟩, hW, hsame.mono (by decide) (by decide)⟩
 ·
  refine st1 _ ?_
  refine st2 _ ?_
  refine X2.arraylength hx (by rw [e2]; exact Ar3.1) (State.isArrayOf_alike hZ.alike Ar3.2.1) (g := (mkF m 8 (l309_0 o1 o2) [(.ref w1), (.int 0)])) rfl rfl (hb hby d10_8) _ ?_
  rw [len_of Sa3 Na3]
  refine yno X2 hx hby d10_9 (teq (by decide : (0 : Int32) = (0 : Int32))).2 ?_
  refine yan X2 hx hby d10_12 rfl rfl ?_
  refine st4 _ ?_
  refine st19 _ ?_
  refine st20 _ ?_
  refine yan X20 hx hby d10_24 rfl rfl ?_
  refine st23 _ ?_
  refine yan X23 hx hby d10_26 rfl rfl ?_
  refine XS.dup X23.here hx rfl (hb hby d10_27) rfl rfl ?_
  refine st27 _ ?_
  refine yic X27 hx hby d10_31 ?_
  refine yad X27 hx hby d10_32 ?_
  refine st29 _ ?_
  show Steps p.tables e below (T29.setTop (mkF m 36 (l309_0 o1 o2) [])) _
  exact X29.returnOut hx hret (hb hby d10_36) hr
 ·
  show Q13 Z w1 kw1 o1 o2 h0 n0 _ T29.heap _
  rw [e29]
  exact ⟨b5, k6, rfl, N29, KL, (Nat.le_trans (Nat.le_refl _) sz_b5), OV9, f30, f31, Fw29, f32, f33, f34, f35, f36, f37⟩
theorem pd9 : parseMethodDescriptor "(Lcom/example/horn1/horn1/engine/Clause;)V" = some ⟨[(.object "com/example/horn1/horn1/engine/Clause")], none⟩ := by decide +kernel
theorem ef14 (m : MethodId) (x0 : Addr) : entryFrame m #[(.ref x0)] 1 = mkF m 0 #[.val (.ref x0)] [] := by first | (simp [entryFrame, mkF, argsToLocals, Value.category]; done) | rfl
def Q14 (Z : State) (o1 o2 : Addr) (h0 : Heap) (n0 : Nat) (v : Option Value) (h : Heap) (L : List Loc) : Prop :=
  (v = some (.ref o2) ∧ Fr n0 L ∧ h = h0)
set_option maxRecDepth 65536 in
set_option maxHeartbeats 40000000 in
theorem rm14 (l : Launch) (Z : State) (a0 : Array Value) (hw : HW a0 Z) (ws : List Jvm.Cond) (o1 o2 : Addr) (h0 : Heap) (n0 : Nat) (O0 : Old Z n0 h0) (g_o1 : n0 ≤ o1) (g_o2 : n0 ≤ o2) (P1 : Fld Z h0 o1 cn7 "slots" cn3 (.ref o2)) :
    MF l yn6 prog_41_method_2_code 1 (some (.array (.object cn6))) ws ({ frames := 0, cells := 0, slots := 0, locals := 0 } : Room) #[(.ref o1)] Z h0 (Q14 Z o1 o2 h0 n0) := by
 refine MetFree.of_bodySF (plainFor_of_name pn1) hisR ?_
 intro p e s m args below meth c s₁ Bd hml hP hK
 obtain ⟨rfl, hZ, hh⟩ := hP
 obtain ⟨hx, hby, hown, hret, hlk, X0, e0, N0⟩ := own_bd Bd hh n0
 have pre0 := own_ct s₁ (p := p) (e := e) (below := below) (ef14 m o1)
 obtain ⟨T1, X1, e1, st1⟩ := yag X0 hx hZ hown hby (w_40 hw) e0 P1 0 #[.val (.ref o1)] [] d6_0 d6_1 rfl
 obtain ⟨fs, hr, hrun, hended, hW, hsame⟩ := X1.leave (v := some (.ref o2)) (fun h => by rw [hret] at h; cases h)
 refine ⟨_, _, pre0 _ ?_, hrun, hended, _, _, rfl, ?_, ⟨_, rfl⟩, hW, hsame.mono (by decide) (by decide)⟩
 ·
  refine st1 _ ?_
  show Steps p.tables e below (T1.setTop (mkF m 4 #[.val (.ref o1)] [(.ref o2)])) _
  exact retOut X1 hx hret rfl (Or.inr (Or.inr (Or.inr (Or.inr ⟨rfl, rfl, rfl⟩)))) (hb hby d6_4) hr
 ·
  show Q14 Z o1 o2 h0 n0 _ T1.heap _
  rw [e1]
  exact ⟨rfl, N0, rfl⟩
theorem d13_0 : decode kd13 0 = .ok (.aload_n 0, 1) := by decide +kernel
theorem d13_1 : decode kd13 1 = .ok (.iconst 1, 1) := by decide +kernel
theorem d13_2 : decode kd13 2 = .ok (.putfield 29, 3) := by decide +kernel
theorem d13_5 : decode kd13 5 = .ok (.aload_n 0, 1) := by decide +kernel
theorem d13_6 : decode kd13 6 = .ok (.getfield 33, 3) := by decide +kernel
theorem d13_9 : decode kd13 9 = .ok (.ifCond .ne 7, 3) := by decide +kernel
theorem d13_12 : decode kd13 12 = .ok (.aload_n 0, 1) := by decide +kernel
theorem d13_13 : decode kd13 13 = .ok (.invokevirtual 26, 3) := by decide +kernel
theorem d11_18 : decode kd11 18 = .ok (.iload_n 2, 1) := by decide +kernel
theorem d11_19 : decode kd11 19 = .ok (.goto 4, 3) := by decide +kernel
def l322_0 (o1 b14 : Addr) : Array Slot := #[.val (.ref o1), .val (.int (((0 : Int32) - (0 : Int32)) - (0 : Int32))), .val (.int 4), .val (.int 4), .val (.ref b14), .val (.int 4), .val (.int 0)]
def l322_1 (o1 b14 : Addr) : Array Slot := #[.val (.ref o1), .val (.int (((0 : Int32) - (0 : Int32)) - (0 : Int32))), .val (.int 4), .val (.int 4), .val (.ref b14), .val (.int 4), .unset]
def l322_2 (o1 : Addr) : Array Slot := #[.val (.ref o1), .val (.int (((0 : Int32) - (0 : Int32)) - (0 : Int32))), .val (.int 4), .val (.int 4), .unset, .unset, .unset]
def l322_3 (o1 : Addr) : Array Slot := #[.val (.ref o1), .val (.int (((0 : Int32) - (0 : Int32)) - (0 : Int32))), .val (.int 4), .unset, .unset, .unset, .unset]
def l322_4 (o1 : Addr) : Array Slot := #[.val (.ref o1), .val (.int (((0 : Int32) - (0 : Int32)) - (0 : Int32))), .unset, .unset, .unset, .unset, .unset]
theorem ef15 (m : MethodId) (x0 : Addr) : entryFrame m #[(.ref x0)] 7 = mkF m 0 #[.val (.ref x0), .unset, .unset, .unset, .unset, .unset, .unset] [] := by first | (simp [entryFrame, mkF, argsToLocals, Value.category]; done) | rfl
def Q15 (Z : State) (w1 : Addr) (kw1 : ClassId) (o1 : Addr) (h0 : Heap) (n0 : Nat) (v : Option Value) (h : Heap) (L : List Loc) : Prop :=
  (∃ b14 : Addr, ∃ k14 : ClassId, v = none ∧ Fr n0 L ∧ Keep h0 h [o1] ∧ h0.size ≤ b14 ∧ Ovr Z k14 cn6 ∧ (Exa Z h o1 cn7) ∧ (Fld Z h o1 cn7 "addsFirst" "Z" (.int 1)) ∧ (Fld Z h o1 cn7 "end" "I" (.int 4)) ∧ (Fld Z h o1 cn7 "first" "I" (.int 4)) ∧ (Fld Z h o1 cn7 "low" "I" (.int 4)) ∧ (Fld Z h o1 cn7 "removed" "I" (.int 0)) ∧ (Fld Z h o1 cn7 "slots" cn3 (.ref b14)) ∧ (Arv Z h b14 k14 (.object cn6) (8 : Int32) [.null, .null, .null, .null, .null, .null, .null, .null] .null) ∧ (Exa Z h b14 cn3))
set_option maxRecDepth 65536 in
set_option maxHeartbeats 40000000 in
theorem rm15 (l : Launch) (Z : State) (a0 : Array Value) (hw : HW a0 Z) (w1 : Addr) (kw1 : ClassId) (G : GW Z w1 kw1) (ws : List Jvm.Cond) (o1 : Addr) (h0 : Heap) (n0 : Nat) (O0 : Old Z n0 h0) (g_o1 : n0 ≤ o1) (P0 : Exa Z h0 o1 cn7) (P1 : Fld Z h0 o1 cn7 "addsFirst" "Z" (.int 1)) (P2 : Fld Z h0 o1 cn7 "end" "I" (.int 0)) (P3 : Fld Z h0 o1 cn7 "first" "I" (.int 0)) (P4 : Fld Z h0 o1 cn7 "low" "I" (.int 0)) (P5 : Fld Z h0 o1 cn7 "removed" "I" (.int 0)) (P6 : Fld Z h0 o1 cn7 "slots" cn3 (.ref w1)) :
    MF l yn11 prog_41_method_10_code 7 none ws ({ frames := 1, cells := 1, slots := 8, locals := 13 } : Room) #[(.ref o1)] Z h0 (Q15 Z w1 kw1 o1 h0 n0) := by
 obtain ⟨S_w1, A_w1⟩ := id G
 refine MetFree.of_bodySF (plainFor_of_name pn1) hisR ?_
 intro p e s m args below meth c s₁ Bd hml hP hK
 obtain ⟨rfl, hZ, hh⟩ := hP
 obtain ⟨hx, hby, hown, hret, hlk, X0, e0, N0⟩ := own_bd Bd hh n0
 have pre0 := own_ct s₁ (p := p) (e := e) (below := below) (ef15 m o1)
 revert pre0
 generalize s₁.setTop (entryFrame m #[(.ref o1)] 7) = E0
 intro pre0
 obtain ⟨_, T1, L1, X1, hQ1, st1⟩ := yv X0 hx hZ hown hby hml (y := yn3) (own_w hw 100 rfl) (w_58 hw) (own_w hw 60 rfl) (w_59 hw) (own_w hw 61 rfl) (w_33 hw) e0 P0 [] [] (rm4 l Z a0 hw [] o1 ((0 : Int32)) ((0 : Int32)) ((0 : Int32)) h0 n0 O0 g_o1 P2 P3 P5) 1 #[.val (.ref o1), .unset, .unset, .unset, .unset, .unset, .unset] rfl d11_1 (lenOf pd3 rfl) 0 0 0
 obtain ⟨rfl, Nq2, e3⟩ := hQ1
 have N1 := Fr.app N0 Nq2
 obtain ⟨_, T4, L4, X4, hQ4, st4⟩ := own_cs X1 hx hZ hown (y := yn10) (own_w hw 101 rfl) (own_w hw 102 rfl) (own_w hw 104 rfl) (w_103 hw) e3 (argsL := [(.int 4), (.int (((0 : Int32) - (0 : Int32)) - (0 : Int32)))]) (rest := []) (rm11 l Z a0 hw [] ((4 : Int32)) ((((0 : Int32) - (0 : Int32)) - (0 : Int32))) h0 n0 O0 ) (g := (mkF m 7 (l322_4 o1) [(.int (((0 : Int32) - (0 : Int32)) - (0 : Int32))), (.int 4)])) rfl (by rw [hml]; rfl) rfl (hb hby d11_7) (lenOf pd8 rfl) (W := 0) (c1 := 0) (s1 := 0)
 have pre5 : Go p e below T1 (mkF m 7 (l322_4 o1) [(.int (((0 : Int32) - (0 : Int32)) - (0 : Int32))), (.int 4)]) E0 := fun t k => by
  refine pre0 _ ?_
  refine yan X0 hx hby d11_0 rfl rfl ?_
  refine st1 _ ?_
  refine yit X1 hx hby d11_4 (l' := (l322_4 o1)) rfl ?_
  refine yic X1 hx hby d11_5 ?_
  refine yin X1 hx hby d11_6 rfl ?_
  exact k
 rcases hQ4 with ⟨hc6, rfl, Nq7, e8⟩ | ⟨hc9, rfl, Nq10, e11⟩
 ·
  exact absurd hc6 (own_gnlt2 (n := 4) (k := (4 : Int32)) (by decide) (by have q0 := own_sub (x := ((0 : Int32) - (0 : Int32))) (k := (0 : Int32)) (n := 0) (lo := 0) (hi := 0) (by decide) (by have q0 := own_sub (x := (0 : Int32)) (k := (0 : Int32)) (n := 0) (lo := 0) (hi := 0) (by decide) (by have q0 := (by decide : ((0 : Int32)).toInt = 0); omega) (by decide) (by decide); omega) (by decide) (by decide); omega))
 ·
  have N4 := Fr.app N1 Nq10
  obtain ⟨T12, X12, e12, st12⟩ := yag X4 hx hZ hown hby (own_w hw 55 rfl) e11 P1 11 (l322_3 o1) [] d11_11 d11_12 rfl
  have hq13 : (((4 : Int32) + (((0 : Int32) - (0 : Int32)) - (0 : Int32))) + (4 : Int32)) = (8 : Int32) := (own_geq (n := 8) (k := (8 : Int32)) (by decide) (by have q0 := own_add (x := ((4 : Int32) + (((0 : Int32) - (0 : Int32)) - (0 : Int32)))) (k := (4 : Int32)) (n := 4) (lo := 4) (hi := 4) (by decide) (by have q0 := own_add2 (x := (((0 : Int32) - (0 : Int32)) - (0 : Int32))) (k := (4 : Int32)) (n := 4) (lo := 0) (hi := 0) (by decide) (by have q0 := own_sub (x := ((0 : Int32) - (0 : Int32))) (k := (0 : Int32)) (n := 0) (lo := 0) (hi := 0) (by decide) (by have q0 := own_sub (x := (0 : Int32)) (k := (0 : Int32)) (n := 0) (lo := 0) (hi := 0) (by decide) (by have q0 := (by decide : ((0 : Int32)).toInt = 0); omega) (by decide) (by decide); omega) (by decide) (by decide); omega) (by decide) (by decide); omega) (by decide) (by decide); omega))
  obtain ⟨T14, h14, k14, X14, e14, E14, A14, EX14, OV14, st14⟩ := newRE X12 hx hZ hown (own_w hw 105 rfl) (own_w hw 106 rfl) e12 (g := (mkF m 29 (l322_2 o1) [(.int (((4 : Int32) + (((0 : Int32) - (0 : Int32)) - (0 : Int32))) + (4 : Int32)))])) rfl (hb hby d11_29) rfl (by rw [hq13]; decide) (cap := 8) (by rw [hq13]; decide) (by decide) (by decide) (by decide) (ad := cn3) (by decide)
  obtain ⟨b14, g14⟩ : ∃ z, z = h0.size := ⟨_, rfl⟩
  rw [← g14] at A14 EX14 st14
  rw [hq13] at A14
  have sz_b14 : h0.size ≤ b14 := Nat.le_of_eq g14.symm
  have V14_0 := Arv.new A14 (by decide)
  have V14 : Arv Z h14 b14 k14 (.object cn6) (8 : Int32) [.null, .null, .null, .null, .null, .null, .null, .null] .null := V14_0.pad (pad_rep [] .null 8)
  have f15 := (P3.ext E14)
  obtain ⟨T16, X16, e16, st16⟩ := yag X14 hx hZ hown hby (w_47 hw) e14 f15 37 (l322_1 o1 b14) [] d11_37 d11_38 rfl
  have f17 := (P2.ext E14)
  obtain ⟨T18, X18, e18, st18⟩ := yag X16 hx hZ hown hby (w_49 hw) e16 f17 45 (l322_0 o1 b14) [(.int 0)] d11_45 d11_46 rfl
  have f19 := (P6.ext E14)
  have f20 := (P0.ext E14)
  obtain ⟨T21, h21, X21, e21, W21, st21⟩ := yp X18 hx hZ hown hby (w_40 hw) e18 f19 f20 (w_41 hw) (w_32 hw) (ty := (.array (.object cn6))) (v := (.ref b14)) (by decide) rfl rfl 89 (l322_0 o1 b14) [] d11_89
  have N21 := Fr.snoc X21 N4 g_o1
  have Fw21 := f19.same W21
  have f22 := ((P4.ext E14).other W21 (Or.inr (sn47 hw)))
  have f23 := (f20.wr W21)
  obtain ⟨T24, h24, X24, e24, W24, st24⟩ := yp X21 hx hZ hown hby (w_51 hw) e21 f22 f23 (w_52 hw) (w_32 hw) (ty := .int) (v := (.int 4)) (by decide) rfl rfl 94 (l322_0 o1 b14) [] d11_94
  have N24 := Fr.snoc X24 N21 g_o1
  have Fw24 := f22.same W24
  have f25 := ((f15.other W21 (Or.inr (sn46 hw))).other W24 (Or.inr (sn49 hw)))
  have f26 := (f23.wr W24)
  obtain ⟨T27, h27, X27, e27, W27, st27⟩ := yp X24 hx hZ hown hby (w_47 hw) e24 f25 f26 (w_48 hw) (w_32 hw) (ty := .int) (v := (.int 4)) (by decide) rfl rfl 99 (l322_0 o1 b14) [] d11_99
  have N27 := Fr.snoc X27 N24 g_o1
  have Fw27 := f25.same W27
  have f28 := (((f17.other W21 (Or.inr (sn45 hw))).other W24 (Or.inr (sn50 hw))).other W27 (Or.inr (sn51 hw)))
  have f29 := (f26.wr W27)
  obtain ⟨T30, h30, X30, e30, W30, st30⟩ := yp X27 hx hZ hown hby (w_49 hw) e27 f28 f29 (w_50 hw) (w_32 hw) (ty := .int) (v := (.int 4)) (by decide) rfl rfl 105 (l322_0 o1 b14) [] d11_105
  have N30 := Fr.snoc X30 N27 g_o1
  have Fw30 := f28.same W30
  have f31 := (((((P5.ext E14).other W21 (Or.inr (sn48 hw))).other W24 (Or.inr (sn52 hw))).other W27 (Or.inr (sn53 hw))).other W30 (Or.inr (sn54 hw)))
  have f32 := (f29.wr W30)
  obtain ⟨T33, h33, X33, e33, W33, st33⟩ := yp X30 hx hZ hown hby (w_53 hw) e30 f31 f32 (w_54 hw) (w_32 hw) (ty := .int) (v := (.int 0)) (by decide) rfl rfl 110 (l322_0 o1 b14) [] d11_110
  have N33 := Fr.snoc X33 N30 g_o1
  have Fw33 := f31.same W33
  obtain ⟨fs, hr, hrun, hended, hW, hsame⟩ := X33.leave (v := none) (fun _ => rfl)
  have KL : Keep h0 h33 [o1] := (((((((Keep.refl h0 [o1]).ext E14).wr W21 (Or.inl (List.mem_of_getElem? (i := 0) rfl))).wr W24 (Or.inl (List.mem_of_getElem? (i := 0) rfl))).wr W27 (Or.inl (List.mem_of_getElem? (i := 0) rfl))).wr W30 (Or.inl (List.mem_of_getElem? (i := 0) rfl))).wr W33 (Or.inl (List.mem_of_getElem? (i := 0) rfl)))
  have f34 := (f32.wr W33)
  have f35 := ((((((P1.ext E14).other W21 (Or.inr (sn44 hw))).other W24 (Or.inr (sn55 hw))).other W27 (Or.inr (sn56 hw))).other W30 (Or.inr (sn57 hw))).other W33 (Or.inr (sn58 hw)))
  have f36 := (Fw30.other W33 (Or.inr (sn59 hw)))
  have f37 := ((Fw27.other W30 (Or.inr (sn61 hw))).other W33 (Or.inr (sn62 hw)))
  have f38 := (((Fw24.other W27 (Or.inr (sn64 hw))).other W30 (Or.inr (sn65 hw))).other W33 (Or.inr (sn66 hw)))
  have f39 := ((((Fw21.other W24 (Or.inr (sn69 hw))).other W27 (Or.inr (sn70 hw))).other W30 (Or.inr (sn71 hw))).other W33 (Or.inr (sn72 hw)))
  have lt40 : o1 < h0.size := P0.lt
  have ne41 : o1 ≠ b14 := Nat.ne_of_lt (Nat.lt_of_lt_of_le lt40 sz_b14)
  have f42 := (((((V14.other W21 (Ne.symm ne41)).other W24 (Ne.symm ne41)).other W27 (Ne.symm ne41)).other W30 (Ne.symm ne41)).other W33 (Ne.symm ne41))
  have f43 := (((((EX14.wr W21).wr W24).wr W27).wr W30).wr W33)
  refine ⟨_, _, pre5 _ ?_, hrun, hended, _, _, rfl, ?_, ⟨_, rfl⟩, hW, hsame.mono (by decide) (by decide)⟩
  ·
   refine st4 _ ?_
   refine yit X4 hx hby d11_10 (l' := (l322_3 o1)) rfl ?_
   refine st12 _ ?_
   refine yfn X12 hx hby d11_15 ((if0 _ _).trans (feq (by decide : ¬ ((1 : Int32) = (0 : Int32)))).1) ?_
   refine yin X12 hx hby d11_18 rfl ?_
   refine ygo X12 hx hby 19 23 rfl d11_19 (by decide) ?_
   refine yit X12 hx hby d11_23 (l' := (l322_2 o1)) rfl ?_
   refine yin X12 hx hby d11_24 rfl ?_
   refine yin X12 hx hby d11_25 rfl ?_
   refine yad X12 hx hby d11_26 ?_
   refine yin X12 hx hby d11_27 rfl ?_
   refine yad X12 hx hby d11_28 ?_
   refine st14 _ ?_
   refine XS.astore X14.here hx rfl (hb hby d11_32) rfl rfl (l' := #[.val (.ref o1), .val (.int (((0 : Int32) - (0 : Int32)) - (0 : Int32))), .val (.int 4), .val (.int 4), .val (.ref b14), .unset, .unset]) rfl ?_
   refine yin X14 hx hby d11_34 rfl ?_
   refine yis X14 hx hby d11_35 (l' := (l322_1 o1 b14)) rfl ?_
   refine st16 _ ?_
   refine yis X16 hx hby d11_41 (l' := (l322_0 o1 b14)) rfl ?_
   refine yil X16 hx hby d11_43 rfl ?_
   refine st18 _ ?_
   refine yye X18 hx hby 49 86 rfl d11_49 (flt (by decide : ¬ ((0 : Int32) < (0 : Int32)))).2.1 (by decide) ?_
   refine yan X18 hx hby d11_86 rfl rfl ?_
   refine yal X18 hx hby d11_87 rfl rfl ?_
   refine st21 _ ?_
   refine yan X21 hx hby d11_92 rfl rfl ?_
   refine yin X21 hx hby d11_93 rfl ?_
   refine st24 _ ?_
   refine yan X24 hx hby d11_97 rfl rfl ?_
   refine yin X24 hx hby d11_98 rfl ?_
   refine st27 _ ?_
   refine yan X27 hx hby d11_102 rfl rfl ?_
   refine yil X27 hx hby d11_103 rfl ?_
   show Steps p.tables e below (T27.setTop (mkF m 105 (l322_0 o1 b14) [(.int 4), (.ref o1)])) _
   refine st30 _ ?_
   refine yan X30 hx hby d11_108 rfl rfl ?_
   refine yic X30 hx hby d11_109 ?_
   refine st33 _ ?_
   show Steps p.tables e below (T33.setTop (mkF m 113 (l322_0 o1 b14) [])) _
   exact X33.returnOut hx hret (hb hby d11_113) hr
  ·
   show Q15 Z w1 kw1 o1 h0 n0 _ T33.heap _
   rw [e33]
   exact ⟨b14, k14, rfl, N33, KL, (Nat.le_trans (Nat.le_refl _) sz_b14), OV14, f34, f35, f36, f37, f38, Fw33, f39, f42, f43⟩
theorem d13_16 : decode kd13 16 = .ok (.aload_n 0, 1) := by decide +kernel
theorem d13_17 : decode kd13 17 = .ok (.dup, 1) := by decide +kernel
theorem d13_18 : decode kd13 18 = .ok (.getfield 23, 3) := by decide +kernel
theorem d13_21 : decode kd13 21 = .ok (.aload_n 0, 1) := by decide +kernel
theorem d13_22 : decode kd13 22 = .ok (.getfield 16, 3) := by decide +kernel
theorem d13_25 : decode kd13 25 = .ok (.aload_n 0, 1) := by decide +kernel
theorem d13_26 : decode kd13 26 = .ok (.getfield 33, 3) := by decide +kernel
theorem d13_29 : decode kd13 29 = .ok (.isub, 1) := by decide +kernel
theorem d13_30 : decode kd13 30 = .ok (.iadd, 1) := by decide +kernel
theorem d13_31 : decode kd13 31 = .ok (.putfield 23, 3) := by decide +kernel
theorem d13_34 : decode kd13 34 = .ok (.aload_n 0, 1) := by decide +kernel
theorem d13_35 : decode kd13 35 = .ok (.dup, 1) := by decide +kernel
theorem d13_36 : decode kd13 36 = .ok (.getfield 33, 3) := by decide +kernel
theorem d13_39 : decode kd13 39 = .ok (.iconst 1, 1) := by decide +kernel
theorem d13_40 : decode kd13 40 = .ok (.isub, 1) := by decide +kernel
theorem d13_41 : decode kd13 41 = .ok (.putfield 33, 3) := by decide +kernel
theorem d13_44 : decode kd13 44 = .ok (.aload_n 0, 1) := by decide +kernel
theorem d13_45 : decode kd13 45 = .ok (.getfield 13, 3) := by decide +kernel
theorem d13_48 : decode kd13 48 = .ok (.aload_n 0, 1) := by decide +kernel
theorem d13_49 : decode kd13 49 = .ok (.getfield 33, 3) := by decide +kernel
theorem d13_52 : decode kd13 52 = .ok (.aload_n 1, 1) := by decide +kernel
theorem d13_53 : decode kd13 53 = .ok (.aastore, 1) := by decide +kernel
theorem d13_54 : decode kd13 54 = .ok (.aload_n 0, 1) := by decide +kernel
theorem d13_55 : decode kd13 55 = .ok (.aload_n 0, 1) := by decide +kernel
theorem d13_56 : decode kd13 56 = .ok (.getfield 33, 3) := by decide +kernel
theorem d13_59 : decode kd13 59 = .ok (.putfield 16, 3) := by decide +kernel
theorem d13_62 : decode kd13 62 = .ok (.return_, 1) := by decide +kernel
def l350_0 (o1 o2 : Addr) : Array Slot := #[.val (.ref o1), .val (.ref o2)]
theorem ef16 (m : MethodId) (x0 x1 : Addr) : entryFrame m #[(.ref x0), (.ref x1)] 2 = mkF m 0 #[.val (.ref x0), .val (.ref x1)] [] := by first | (simp [entryFrame, mkF, argsToLocals, Value.category]; done) | rfl
def Q16 (Z : State) (w1 : Addr) (kw1 : ClassId) (o1 o2 : Addr) (h0 : Heap) (n0 : Nat) (v : Option Value) (h : Heap) (L : List Loc) : Prop :=
  (∃ b10 : Addr, ∃ k11 : ClassId, v = none ∧ Fr n0 L ∧ Keep h0 h [o1] ∧ h0.size ≤ b10 ∧ Ovr Z k11 cn6 ∧ (Exa Z h o1 cn7) ∧ (Fld Z h o1 cn7 "addsFirst" "Z" (.int 1)) ∧ (Fld Z h o1 cn7 "end" "I" (.int 4)) ∧ (Fld Z h o1 cn7 "first" "I" (.int 3)) ∧ (Fld Z h o1 cn7 "low" "I" (.int 3)) ∧ (Fld Z h o1 cn7 "removed" "I" (.int 0)) ∧ (Fld Z h o1 cn7 "slots" cn3 (.ref b10)) ∧ (Arv Z h b10 k11 (.object cn6) (8 : Int32) [.null, .null, .null, (.ref o2), .null, .null, .null, .null] .null) ∧ (Exa Z h b10 cn3))
set_option maxRecDepth 65536 in
set_option maxHeartbeats 40000000 in
theorem rm16 (l : Launch) (Z : State) (a0 : Array Value) (hw : HW a0 Z) (w1 : Addr) (kw1 : ClassId) (G : GW Z w1 kw1) (ws : List Jvm.Cond) (o1 o2 : Addr) (h0 : Heap) (n0 : Nat) (O0 : Old Z n0 h0) (g_o1 : n0 ≤ o1) (g_o2 : n0 ≤ o2) (P0 : Exa Z h0 o1 cn7) (P1 : Fld Z h0 o1 cn7 "addsFirst" "Z" (.int 0)) (P2 : Fld Z h0 o1 cn7 "end" "I" (.int 0)) (P3 : Fld Z h0 o1 cn7 "first" "I" (.int 0)) (P4 : Fld Z h0 o1 cn7 "low" "I" (.int 0)) (P5 : Fld Z h0 o1 cn7 "removed" "I" (.int 0)) (P6 : Fld Z h0 o1 cn7 "slots" cn3 (.ref w1)) (P7 : Exa Z h0 o2 cn6) :
    MF l yn13 prog_41_method_7_code 2 none ws ({ frames := 2, cells := 1, slots := 8, locals := 31 } : Room) #[(.ref o1), (.ref o2)] Z h0 (Q16 Z w1 kw1 o1 o2 h0 n0) := by
 obtain ⟨S_w1, A_w1⟩ := id G
 refine MetFree.of_bodySF (plainFor_of_name pn1) hisR ?_
 intro p e s m args below meth c s₁ Bd hml hP hK
 obtain ⟨rfl, hZ, hh⟩ := hP
 obtain ⟨hx, hby, hown, hret, hlk, X0, e0, N0⟩ := own_bd Bd hh n0
 have pre0 := own_ct s₁ (p := p) (e := e) (below := below) (ef16 m o1 o2)
 obtain ⟨T1, h1, X1, e1, W1, st1⟩ := putFN X0 hx hZ hown (own_w hw 55 rfl) Via.refl e0 P1 P0 (Or.inl (w_56 hw)) (w_32 hw) (ty := .boolean) (v' := (.int 1)) (by decide) rfl (by decide) (g := (mkF m 2 (l350_0 o1 o2) [(.int 1), (.ref o1)])) rfl rfl (hb hby d13_2)
 have N1 := Fr.snoc X1 N0 g_o1
 have Fw1 := P1.same W1
 have M1 : h0.size ≤ h1.size := Nat.le_trans (Nat.le_refl _) (Nat.le_of_eq W1.size.symm)
 have O1 := Old.wr O0 W1 g_o1
 have f2 := (P4.other W1 (Or.inr (sn67 hw)))
 obtain ⟨T3, X3, e3, st3⟩ := yag X1 hx hZ hown hby (w_51 hw) e1 f2 5 (l350_0 o1 o2) [] d13_5 d13_6 rfl
 have f4 := (P0.wr W1)
 have f5 := (P2.other W1 (Or.inr (sn60 hw)))
 have f6 := (P3.other W1 (Or.inr (sn63 hw)))
 have f7 := (P5.other W1 (Or.inr (sn68 hw)))
 have f8 := (P6.other W1 (Or.inr (sn73 hw)))
 obtain ⟨_, T9, L9, X9, hQ9, st9⟩ := own_pb X3 hx hZ hown (y := yn11) (own_w hw 96 rfl) (own_w hw 97 rfl) (own_selp (mvT hZ (own_w hw 45 rfl)) rfl (Cond.privateMethod_at (mvP hZ (own_w hw 98 rfl) (args := #[]))) (mvT hZ (own_w hw 97 rfl)) (by decide)) (own_w hw 98 rfl) (own_w hw 99 rfl) (w_33 hw) e3 f4 (argsL := []) (rest := []) (rm15 l Z a0 hw w1 kw1 G [] o1 h1 n0 O1 g_o1 f4 Fw1 f5 f6 f2 f7 f8) (g := (mkF m 13 (l350_0 o1 o2) [(.ref o1)])) rfl (by rw [hml]; rfl) rfl (hb hby d13_13) (lenOf pd1 rfl) (W := 0) (c1 := 1) (s1 := 8)
 obtain ⟨b10, k11, rfl, Nq12, K13, sz_b10, OV14, f15, f16, f17, f18, f19, f20, f21, f22, f23⟩ := hQ9
 have N9 := Fr.app N1 Nq12
 have g_b10 : n0 ≤ b10 := Nat.le_trans (own_oz O1) sz_b10
 obtain ⟨T24, X24, e24, st24⟩ := yg X9 hx hZ hown hby (w_53 hw) rfl f20 18 (l350_0 o1 o2) [(.ref o1)] d13_18
 obtain ⟨T25, X25, e25, st25⟩ := yag X24 hx hZ hown hby (w_47 hw) e24 f18 21 (l350_0 o1 o2) [(.int 0), (.ref o1)] d13_21 d13_22 rfl
 obtain ⟨T26, X26, e26, st26⟩ := yag X25 hx hZ hown hby (w_51 hw) e25 f19 25 (l350_0 o1 o2) [(.int 4), (.int 0), (.ref o1)] d13_25 d13_26 rfl
 obtain ⟨T27, h27, X27, e27, W27, st27⟩ := yp X26 hx hZ hown hby (w_53 hw) e26 f20 f15 (w_54 hw) (w_32 hw) (ty := .int) (v := (.int 0)) (by decide) rfl rfl 31 (l350_0 o1 o2) [] d13_31
 have N27 := Fr.snoc X27 N9 g_o1
 have Fw27 := f20.same W27
 have f28 := (f19.other W27 (Or.inr (sn66 hw)))
 obtain ⟨T29, X29, e29, st29⟩ := yg X27 hx hZ hown hby (w_51 hw) e27 f28 36 (l350_0 o1 o2) [(.ref o1)] d13_36
 have f30 := (f15.wr W27)
 obtain ⟨T31, h31, X31, e31, W31, st31⟩ := yp X29 hx hZ hown hby (w_51 hw) e29 f28 f30 (w_52 hw) (w_32 hw) (ty := .int) (v := (.int 3)) (by decide) rfl rfl 41 (l350_0 o1 o2) [] d13_41
 have N31 := Fr.snoc X31 N27 g_o1
 have Fw31 := f28.same W31
 have f32 := ((f21.other W27 (Or.inr (sn72 hw))).other W31 (Or.inr (sn69 hw)))
 obtain ⟨T33, X33, e33, st33⟩ := yag X31 hx hZ hown hby (w_40 hw) e31 f32 44 (l350_0 o1 o2) [] d13_44 d13_45 rfl
 obtain ⟨T34, X34, e34, st34⟩ := yag X33 hx hZ hown hby (w_51 hw) e33 Fw31 48 (l350_0 o1 o2) [(.ref b10)] d13_48 d13_49 rfl
 have lt35 : o1 < h1.size := (Nat.lt_of_lt_of_le P0.lt (Nat.le_of_eq W1.size.symm))
 have ne36 : o1 ≠ b10 := Nat.ne_of_lt (Nat.lt_of_lt_of_le lt35 sz_b10)
 have f37 := ((f22.other W27 (Ne.symm ne36)).other W31 (Ne.symm ne36))
 obtain ⟨cl38, Ar38, qa38, Sa38, Na38, Ha38, Ga38⟩ := id (f37)
 have hin38 := inb_of (j := (3 : Int32)) Sa38 ⟨by decide, by decide⟩
 have f39 := ((((P7.wr W1).keep K13).wr W27).wr W31)
 obtain ⟨T40, h40, X40, e40, W40, st40⟩ := stR X34 hx hZ e34 Ar38 (j := (3 : Int32)) hin38 rfl (Sto.ofV Ar38 qa38 OV14 (Ins.self f39)) (g := (mkF m 53 (l350_0 o1 o2) [(.ref o2), (.int 3), (.ref b10)])) rfl rfl (hb hby d13_53)
 have V40 : Arv Z h40 b10 k11 (.object cn6) (8 : Int32) [.null, .null, .null, (.ref o2), .null, .null, .null, .null] .null := Arv.set Ar38 qa38 Sa38 Na38 Ha38 Ga38 rfl W40 3 rfl (Nat.le_of_ble_eq_true rfl)
 have N40 := Fr.snoc X40 N31 g_b10
 have f41 := (Fw31.other W40 (Or.inl ne36))
 obtain ⟨T42, X42, e42, st42⟩ := yag X40 hx hZ hown hby (w_51 hw) e40 f41 55 (l350_0 o1 o2) [(.ref o1)] d13_55 d13_56 rfl
 have f43 := (((f18.other W27 (Or.inr (sn62 hw))).other W31 (Or.inr (sn49 hw))).other W40 (Or.inl ne36))
 have f44 := ((f30.wr W31).wr W40)
 obtain ⟨T45, h45, X45, e45, W45, st45⟩ := yp X42 hx hZ hown hby (w_47 hw) e42 f43 f44 (w_48 hw) (w_32 hw) (ty := .int) (v := (.int 3)) (by decide) rfl rfl 59 (l350_0 o1 o2) [] d13_59
 have N45 := Fr.snoc X45 N40 g_o1
 have Fw45 := f43.same W45
 obtain ⟨fs, hr, hrun, hended, hW, hsame⟩ := X45.leave (v := none) (fun _ => rfl)
 have KL : Keep h0 h45 [o1] := (((((((Keep.refl h0 [o1]).wr W1 (Or.inl (List.mem_of_getElem? (i := 0) rfl))).trans K13 (allS (Or.inl (List.mem_of_getElem? (i := 0) rfl)) all0)).wr W27 (Or.inl (List.mem_of_getElem? (i := 0) rfl))).wr W31 (Or.inl (List.mem_of_getElem? (i := 0) rfl))).wr W40 (Or.inr (Nat.le_trans M1 sz_b10))).wr W45 (Or.inl (List.mem_of_getElem? (i := 0) rfl)))
 have f46 := (f44.wr W45)
 have f47 := ((((f16.other W27 (Or.inr (sn58 hw))).other W31 (Or.inr (sn55 hw))).other W40 (Or.inl ne36)).other W45 (Or.inr (sn56 hw)))
 have f48 := ((((f17.other W27 (Or.inr (sn59 hw))).other W31 (Or.inr (sn50 hw))).other W40 (Or.inl ne36)).other W45 (Or.inr (sn51 hw)))
 have f49 := (f41.other W45 (Or.inr (sn64 hw)))
 have f50 := (((Fw27.other W31 (Or.inr (sn52 hw))).other W40 (Or.inl ne36)).other W45 (Or.inr (sn53 hw)))
 have f51 := ((f32.other W40 (Or.inl ne36)).other W45 (Or.inr (sn70 hw)))
 have f52 := (V40.other W45 (Ne.symm ne36))
 have f53 := ((((f23.wr W27).wr W31).wr W40).wr W45)
 refine ⟨_, _, pre0 _ ?_, hrun, hended, _, _, rfl, ?_, ⟨_, rfl⟩, hW, hsame.mono (by decide) (by decide)⟩
 ·
  refine yan X0 hx hby d13_0 rfl rfl ?_
  refine yic X0 hx hby d13_1 ?_
  refine st1 _ ?_
  refine st3 _ ?_
  refine yfn X3 hx hby d13_9 ((if0 _ _).trans (teq (by decide : (0 : Int32) = (0 : Int32))).2) ?_
  refine yan X3 hx hby d13_12 rfl rfl ?_
  refine st9 _ ?_
  refine yan X9 hx hby d13_16 rfl rfl ?_
  refine XS.dup X9.here hx rfl (hb hby d13_17) rfl rfl ?_
  refine st24 _ ?_
  refine st25 _ ?_
  refine st26 _ ?_
  refine ysu X26 hx hby d13_29 ?_
  refine yad X26 hx hby d13_30 ?_
  refine st27 _ ?_
  refine yan X27 hx hby d13_34 rfl rfl ?_
  refine XS.dup X27.here hx rfl (hb hby d13_35) rfl rfl ?_
  refine st29 _ ?_
  refine yic X29 hx hby d13_39 ?_
  refine ysu X29 hx hby d13_40 ?_
  refine st31 _ ?_
  refine st33 _ ?_
  refine st34 _ ?_
  refine yan X34 hx hby d13_52 rfl rfl ?_
  refine st40 _ ?_
  refine yan X40 hx hby d13_54 rfl rfl ?_
  refine st42 _ ?_
  refine st45 _ ?_
  show Steps p.tables e below (T45.setTop (mkF m 62 (l350_0 o1 o2) [])) _
  exact X45.returnOut hx hret (hb hby d13_62) hr
 ·
  show Q16 Z w1 kw1 o1 o2 h0 n0 _ T45.heap _
  rw [e45]
  exact ⟨b10, k11, rfl, N45, KL, (Nat.le_trans M1 sz_b10), OV14, f46, f47, f48, Fw45, f49, f50, f51, f52, f53⟩
def l351_0 (dp1 : Int32) (dq2 dq3 dq4 : Int64) (dp5 dp6 : Int32) (dp7 dp8 : Int32) (dp9 dp10 : Int32) (dq11 : Int64) (da12 da13 : Addr) (da14 o15 o16 : Addr) (dq17 dq18 : Int64) (b36 : Addr) : Array Slot := #[.val (.int dp1), .val (.long dq2), .second, .val (.long dq3), .second, .val (.long dq4), .second, .val (.int dp5), .val (.int dp6), .val (.int dp7), .val (.int dp8), .val (.int dp9), .val (.int dp10), .val (.int 1), .val (.long dq11), .second, .val (.ref da12), .val (.ref da13), .val (.ref da14), .val (.ref o15), .val (.ref o16), .val (.int 1), .val (.long dq17), .second, .val (.long dq18), .second, .val (.int 1), .val (.int 1), .val (.int 3), .val (.ref b36)]
def l351_1 (dp1 : Int32) (dq2 dq3 dq4 : Int64) (dp5 dp6 : Int32) (dp7 dp8 : Int32) (dp9 dp10 : Int32) (dq11 : Int64) (da12 da13 : Addr) (da14 o15 o16 : Addr) (dq17 dq18 : Int64) (b36 : Addr) : Array Slot := #[.val (.int dp1), .val (.long dq2), .second, .val (.long dq3), .second, .val (.long dq4), .second, .val (.int dp5), .val (.int dp6), .val (.int dp7), .val (.int dp8), .val (.int dp9), .val (.int dp10), .val (.int 1), .val (.long dq11), .second, .val (.ref da12), .val (.ref da13), .val (.ref da14), .val (.ref o15), .val (.ref o16), .val (.int 1), .val (.long dq17), .second, .val (.long dq18), .second, .val (.int 1), .unset, .val (.int 3), .val (.ref b36)]
def l351_2 (dp1 : Int32) (dq2 dq3 dq4 : Int64) (dp5 dp6 : Int32) (dp7 dp8 : Int32) (dp9 dp10 : Int32) (dq11 : Int64) (da12 da13 : Addr) (da14 o15 o16 : Addr) (dq17 dq18 : Int64) (b5 : Addr) : Array Slot := #[.val (.int dp1), .val (.long dq2), .second, .val (.long dq3), .second, .val (.long dq4), .second, .val (.int dp5), .val (.int dp6), .val (.int dp7), .val (.int dp8), .val (.int dp9), .val (.int dp10), .val (.int 0), .val (.long dq11), .second, .val (.ref da12), .val (.ref da13), .val (.ref da14), .val (.ref o15), .val (.ref o16), .val (.int 1), .val (.long dq17), .second, .val (.long dq18), .second, .val (.int 1), .unset, .val (.ref b5), .unset]
def l351_3 (dp1 : Int32) (dq2 dq3 dq4 : Int64) (dp5 dp6 : Int32) (dp7 dp8 : Int32) (dp9 dp10 : Int32) (dq11 : Int64) (da12 da13 : Addr) (da14 o15 o16 : Addr) (dq17 dq18 : Int64) : Array Slot := #[.val (.int dp1), .val (.long dq2), .second, .val (.long dq3), .second, .val (.long dq4), .second, .val (.int dp5), .val (.int dp6), .val (.int dp7), .val (.int dp8), .val (.int dp9), .val (.int dp10), .val (.int 0), .val (.long dq11), .second, .val (.ref da12), .val (.ref da13), .val (.ref da14), .val (.ref o15), .val (.ref o16), .val (.int 1), .val (.long dq17), .second, .val (.long dq18), .second, .val (.int 1), .unset, .unset, .unset]
def l351_4 (dp1 : Int32) (dq2 dq3 dq4 : Int64) (dp5 dp6 : Int32) (dp7 dp8 : Int32) (dp9 dp10 : Int32) (dq11 : Int64) (da12 da13 : Addr) (da14 o15 o16 : Addr) (dq17 dq18 : Int64) : Array Slot := #[.val (.int dp1), .val (.long dq2), .second, .val (.long dq3), .second, .val (.long dq4), .second, .val (.int dp5), .val (.int dp6), .val (.int dp7), .val (.int dp8), .val (.int dp9), .val (.int dp10), .val (.int 1), .val (.long dq11), .second, .val (.ref da12), .val (.ref da13), .val (.ref da14), .val (.ref o15), .val (.ref o16), .val (.int 1), .val (.long dq17), .second, .val (.long dq18), .second, .val (.int 1), .unset, .unset, .unset]
set_option maxRecDepth 65536 in
set_option maxHeartbeats 40000000 in
theorem ct6 {p : Program} {l : Launch} {e : Env} {s : State} {m : MethodId} {below : List Frame} {meth : Method} {c : Code} {E0 T0 : State} {locs : List Loc} {Z : State} {a0 : Array Value} (hw : HW a0 Z) (w1 : Addr) (kw1 : ClassId) (G : GW Z w1 kw1) (o15 o16 : Addr) (zz50 dp1 : Int32) (dq2 dq3 dq4 : Int64) (dp5 dp6 : Int32) (dp7 dp8 : Int32) (dp9 dp10 : Int32) (dq11 : Int64) (da12 da13 da14 : Addr) (dq17 dq18 : Int64) (p1 : Int32) (q2 q3 q4 : Int64) (h0 : Heap) (n0 : Nat) (O0 : Old Z n0 h0)
    (hx : p.tables.exec = Jvm.exec) (hby : c.code = code) (hml : c.maxLocals = 30) (hown : s.vm.findClass cn8 = some m.cls) (hret : meth.sig.returnType = ret) (hlk : meth.locks = false) (hZ : Z.Warmed39 s.vm)
    (X0 : Stand p l e room_1 s m #[(.int p1), (.long q2), (.long q3), (.long q4)] below meth c T0 locs 7 46) (e0 : T0.heap = h0) (N0 : Fr n0 locs) (pre0 : Go p e below T0 (mkF m 389 #[.val (.int dp1), .val (.long dq2), .second, .val (.long dq3), .second, .val (.long dq4), .second, .val (.int dp5), .val (.int dp6), .val (.int dp7), .val (.int dp8), .val (.int dp9), .val (.int dp10), .val (.int zz50), .val (.long dq11), .second, .val (.ref da12), .val (.ref da13), .val (.ref da14), .val (.ref o15), .val (.ref o16), .val (.int 1), .val (.long dq17), .second, .val (.long dq18), .second, .val (.int 1), .unset, .unset, .unset] []) E0) (g_o15 : n0 ≤ o15) (g_o16 : n0 ≤ o16) (P0 : Exa Z h0 o15 cn6) (P2 : Exa Z h0 o16 cn7) (P3 : Fld Z h0 o16 cn7 "addsFirst" "Z" (.int 0)) (P4 : Fld Z h0 o16 cn7 "end" "I" (.int 0)) (P5 : Fld Z h0 o16 cn7 "first" "I" (.int 0)) (P6 : Fld Z h0 o16 cn7 "low" "I" (.int 0)) (P7 : Fld Z h0 o16 cn7 "removed" "I" (.int 0)) (P8 : Fld Z h0 o16 cn7 "slots" cn3 (.ref w1)) (bzz50 : 0 ≤ zz50.toInt ∧ zz50.toInt ≤ 1) :
    ∃ (s₂ : State) (o : Outcome), Steps p.tables e below E0 s₂ ∧ s₂.status = .running ∧ Ended s₂ below o ∧ ∃ v L, o = .returned v ∧ Q0 n0 v s₂.heap L ∧ FrameEnd s o s₂ L 24 192 := by
 obtain ⟨S_w1, A_w1⟩ := id G
 have pre1 : Go p e below T0 (mkF m 391 #[.val (.int dp1), .val (.long dq2), .second, .val (.long dq3), .second, .val (.long dq4), .second, .val (.int dp5), .val (.int dp6), .val (.int dp7), .val (.int dp8), .val (.int dp9), .val (.int dp10), .val (.int zz50), .val (.long dq11), .second, .val (.ref da12), .val (.ref da13), .val (.ref da14), .val (.ref o15), .val (.ref o16), .val (.int 1), .val (.long dq17), .second, .val (.long dq18), .second, .val (.int 1), .unset, .unset, .unset] [(.int zz50)]) E0 := fun t k => by
  refine pre0 _ ?_
  refine yil X0 hx hby at_389 rfl ?_
  exact k
 by_cases hc2 : zz50 = (0 : Int32)
 ·
  have pre3 : Go p e below T0 (mkF m 391 (l351_3 dp1 dq2 dq3 dq4 dp5 dp6 dp7 dp8 dp9 dp10 dq11 da12 da13 da14 o15 o16 dq17 dq18) [(.int 0)]) E0 := fun t k => pre1 t (by rw [hc2]; exact k)
  obtain ⟨_, T4, L4, X4, hQ4, st4⟩ := yv X0 hx hZ hown hby hml (y := yn12) (own_w hw 91 rfl) (own_w hw 92 rfl) (own_w hw 94 rfl) (own_w hw 93 rfl) (own_w hw 95 rfl) (w_33 hw) e0 P2 [(.ref o15)] [] (rm13 l Z a0 hw w1 kw1 G [] o16 o15 h0 n0 O0 g_o16 g_o15 P2 P3 P4 P5 P6 P7 P8 P0) 473 (l351_3 dp1 dq2 dq3 dq4 dp5 dp6 dp7 dp8 dp9 dp10 dq11 da12 da13 da14 o15 o16 dq17 dq18) rfl at_473 (lenOf pd9 rfl) 0 8 50
  obtain ⟨b5, k6, rfl, Nq7, K8, sz_b5, OV9, f10, f11, f12, f13, f14, f15, f16, f17, f18⟩ := hQ4
  have N4 := Fr.app N0 Nq7
  have g_b5 : n0 ≤ b5 := Nat.le_trans (own_oz O0) sz_b5
  have O4 := Old.keep O0 K8 (allS g_o16 all0)
  obtain ⟨_, T19, L19, X19, hQ19, st19⟩ := yv X4 hx hZ hown hby hml (y := yn6) (own_w hw 72 rfl) (own_w hw 73 rfl) (own_w hw 75 rfl) (own_w hw 74 rfl) (own_w hw 76 rfl) (w_33 hw) rfl f10 [] [] (rm14 l Z a0 hw [] o16 b5 T4.heap n0 O4 g_o16 g_b5 f16) 478 (l351_3 dp1 dq2 dq3 dq4 dp5 dp6 dp7 dp8 dp9 dp10 dq11 da12 da13 da14 o15 o16 dq17 dq18) rfl at_478 (lenOf pd4 rfl) 0 8 50
  obtain ⟨rfl, Nq20, e21⟩ := hQ19
  have N19 := Fr.app N4 Nq20
  obtain ⟨_, T22, L22, X22, hQ22, st22⟩ := yv X19 hx hZ hown hby hml (y := yn4) (own_w hw 62 rfl) (own_w hw 63 rfl) (own_w hw 65 rfl) (own_w hw 64 rfl) (own_w hw 66 rfl) (w_33 hw) e21 f10 [] [] (rm5 l Z a0 hw [] o16 ((0 : Int32)) T4.heap n0 O4 g_o16 f13) 485 (l351_2 dp1 dq2 dq3 dq4 dp5 dp6 dp7 dp8 dp9 dp10 dq11 da12 da13 da14 o15 o16 dq17 dq18 b5) rfl at_485 (lenOf pd3 rfl) 0 8 50
  obtain ⟨rfl, Nq23, e24⟩ := hQ22
  have N22 := Fr.app N19 Nq23
  obtain ⟨_, T25, L25, X25, hQ25, st25⟩ := yv X22 hx hZ hown hby hml (y := yn5) (own_w hw 67 rfl) (own_w hw 68 rfl) (own_w hw 70 rfl) (own_w hw 69 rfl) (own_w hw 71 rfl) (w_33 hw) e24 f10 [] [] (rm6 l Z a0 hw [] o16 ((1 : Int32)) T4.heap n0 O4 g_o16 f12) 493 (l351_2 dp1 dq2 dq3 dq4 dp5 dp6 dp7 dp8 dp9 dp10 dq11 da12 da13 da14 o15 o16 dq17 dq18 b5) rfl at_493 (lenOf pd3 rfl) 0 8 50
  obtain ⟨rfl, Nq26, e27⟩ := hQ25
  have N25 := Fr.app N22 Nq26
  obtain ⟨_, T28, L28, X28, hQ28, st28⟩ := yv X25 hx hZ hown hby hml (y := yn3) (own_w hw 57 rfl) (w_58 hw) (own_w hw 60 rfl) (w_59 hw) (own_w hw 61 rfl) (w_33 hw) e27 f10 [] [] (rm4 l Z a0 hw [] o16 ((1 : Int32)) ((0 : Int32)) ((0 : Int32)) T4.heap n0 O4 g_o16 f12 f13 f15) 502 (l351_2 dp1 dq2 dq3 dq4 dp5 dp6 dp7 dp8 dp9 dp10 dq11 da12 da13 da14 o15 o16 dq17 dq18 b5) rfl at_502 (lenOf pd3 rfl) 0 8 50
  obtain ⟨rfl, Nq29, e30⟩ := hQ28
  have N28 := Fr.app N25 Nq29
  obtain ⟨cl31, Ar31, qa31, Sa31, Na31, Ha31, Ga31⟩ := id (f17)
  obtain ⟨cl32, Ar32, qa32, Sa32, Na32, Ha32, Ga32⟩ := id (f17)
  have hin32 := inb_of (j := (0 : Int32)) Sa32 ⟨by decide, by decide⟩
  have hat32 : cl32.slots[((0 : Int32)).toNatClampNeg]? = some (.ref o15) := Has.at Ha32 hin32 rfl
  obtain ⟨fs, hr, hrun, hended, hW, hsame⟩ := X28.leave (v := some (.int 1)) (fun h => by rw [hret] at h; cases h)
  refine ⟨_, _, pre3 _ ?_, hrun, hended, _, _, rfl, ?_, ⟨_, rfl⟩, hW, hsame.mono (by decide) (by decide)⟩
  ·
   refine XS.ifYes X0.here hx rfl (pc0 := 391) (pc' := 469) rfl (hb hby at_391) rfl ((if0 _ _).trans (teq (by decide : (0 : Int32) = (0 : Int32))).1) (by decide) (by decide) ?_
   refine yal X0 hx hby at_469 rfl rfl ?_
   refine yal X0 hx hby at_471 rfl rfl ?_
   refine st4 _ ?_
   refine yal X4 hx hby at_476 rfl rfl ?_
   refine st19 _ ?_
   refine XS.astore X19.here hx rfl (hb hby at_481) rfl rfl (l' := (l351_2 dp1 dq2 dq3 dq4 dp5 dp6 dp7 dp8 dp9 dp10 dq11 da12 da13 da14 o15 o16 dq17 dq18 b5)) rfl ?_
   refine yal X19 hx hby at_483 rfl rfl ?_
   refine st22 _ ?_
   refine yfn X22 hx hby at_488 ((if0 _ _).trans (teq (by decide : (0 : Int32) = (0 : Int32))).2) ?_
   refine yal X22 hx hby at_491 rfl rfl ?_
   refine st25 _ ?_
   refine yic X25 hx hby at_496 ?_
   refine yno X25 hx hby at_497 (teq (by decide : (1 : Int32) = (1 : Int32))).2 ?_
   refine yal X25 hx hby at_500 rfl rfl ?_
   refine st28 _ ?_
   refine yic X28 hx hby at_505 ?_
   refine yno X28 hx hby at_506 (teq (own_geq (n := 1) (k := (1 : Int32)) (by decide) (by have q0 := own_sub (x := ((1 : Int32) - (0 : Int32))) (k := (0 : Int32)) (n := 0) (lo := 1) (hi := 1) (by decide) (by have q0 := own_sub (x := (1 : Int32)) (k := (0 : Int32)) (n := 0) (lo := 1) (hi := 1) (by decide) (by have q0 := (by decide : ((1 : Int32)).toInt = 1); omega) (by decide) (by decide); omega) (by decide) (by decide); omega))).2 ?_
   refine yal X28 hx hby at_509 rfl rfl ?_
   refine X28.arraylength hx (by rw [e30]; exact Ar31.1) (State.isArrayOf_alike hZ.alike Ar31.2.1) (g := (mkF m 511 (l351_2 dp1 dq2 dq3 dq4 dp5 dp6 dp7 dp8 dp9 dp10 dq11 da12 da13 da14 o15 o16 dq17 dq18 b5) [(.ref b5)])) rfl rfl (hb hby at_511) _ ?_
   rw [len_of Sa31 Na31]
   refine yfn X28 hx hby at_512 ((if0 _ _).trans (tlt (by decide : (0 : Int32) < (4 : Int32))).2.2.2) ?_
   refine yal X28 hx hby at_515 rfl rfl ?_
   refine yic X28 hx hby at_517 ?_
   refine X28.aaload hx (j := (0 : Int32)) (v := (.ref o15)) (by rw [e30]; exact Ar32.1) (State.isArrayOf_alike hZ.alike Ar32.2.1) rfl Ar32.2.2 hin32 hat32 (g := (mkF m 518 (l351_2 dp1 dq2 dq3 dq4 dp5 dp6 dp7 dp8 dp9 dp10 dq11 da12 da13 da14 o15 o16 dq17 dq18 b5) [(.int 0), (.ref b5)])) rfl rfl (hb hby at_518) _ ?_
   refine yal X28 hx hby at_519 rfl rfl ?_
   refine Jvm.RoadKit.acmp (g := (mkF m 521 (l351_2 dp1 dq2 dq3 dq4 dp5 dp6 dp7 dp8 dp9 dp10 dq11 da12 da13 da14 o15 o16 dq17 dq18 b5) [(.ref o15), (.ref o15)])) X28 hx rfl rfl rfl (pc0 := 521) (pc' := 524) (same := true) rfl (hb hby at_521) rfl (decide_eq_true rfl) (by decide) (by decide) ?_
   refine yic X28 hx hby at_524 ?_
   refine ygo X28 hx hby 525 529 rfl at_525 (by decide) ?_
   refine yis X28 hx hby at_529 (l' := #[.val (.int dp1), .val (.long dq2), .second, .val (.long dq3), .second, .val (.long dq4), .second, .val (.int dp5), .val (.int dp6), .val (.int dp7), .val (.int dp8), .val (.int dp9), .val (.int dp10), .val (.int 0), .val (.long dq11), .second, .val (.ref da12), .val (.ref da13), .val (.ref da14), .val (.ref o15), .val (.ref o16), .val (.int 1), .val (.long dq17), .second, .val (.long dq18), .second, .val (.int 1), .val (.int 1), .val (.ref b5), .unset]) rfl ?_
   refine yil X28 hx hby at_531 rfl ?_
   refine yfn X28 hx hby at_533 ((if0 _ _).trans (feq (by decide : ¬ ((1 : Int32) = (0 : Int32)))).1) ?_
   refine yil X28 hx hby at_536 rfl ?_
   refine yfn X28 hx hby at_538 ((if0 _ _).trans (feq (by decide : ¬ ((1 : Int32) = (0 : Int32)))).1) ?_
   refine yil X28 hx hby at_541 rfl ?_
   refine yfn X28 hx hby at_543 ((if0 _ _).trans (feq (by decide : ¬ ((1 : Int32) = (0 : Int32)))).1) ?_
   refine yic X28 hx hby at_546 ?_
   refine ygo X28 hx hby 547 551 rfl at_547 (by decide) ?_
   show Steps p.tables e below (T28.setTop (mkF m 551 #[.val (.int dp1), .val (.long dq2), .second, .val (.long dq3), .second, .val (.long dq4), .second, .val (.int dp5), .val (.int dp6), .val (.int dp7), .val (.int dp8), .val (.int dp9), .val (.int dp10), .val (.int 0), .val (.long dq11), .second, .val (.ref da12), .val (.ref da13), .val (.ref da14), .val (.ref o15), .val (.ref o16), .val (.int 1), .val (.long dq17), .second, .val (.long dq18), .second, .val (.int 1), .val (.int 1), .val (.ref b5), .unset] [(.int 1)])) _
   exact retN X28 hx (t := .boolean) hret (by simp) (hb hby at_551) hr
  ·
   show Q0 n0 _ T28.heap _
   rw [e30]
   exact ⟨rfl, N28⟩
 ·
  have hq33 : zz50 = (1 : Int32) := (own_geq (n := 1) (k := (1 : Int32)) (by decide) (by have q0 := bzz50; have q1 := own_neq (n := 0) (k := (0 : Int32)) (by decide) hc2; omega))
  have pre34 : Go p e below T0 (mkF m 391 (l351_4 dp1 dq2 dq3 dq4 dp5 dp6 dp7 dp8 dp9 dp10 dq11 da12 da13 da14 o15 o16 dq17 dq18) [(.int 1)]) E0 := fun t k => pre1 t (by rw [hq33]; exact k)
  obtain ⟨_, T35, L35, X35, hQ35, st35⟩ := yv X0 hx hZ hown hby hml (y := yn13) (own_w hw 108 rfl) (own_w hw 109 rfl) (own_w hw 111 rfl) (own_w hw 110 rfl) (own_w hw 112 rfl) (w_33 hw) e0 P2 [(.ref o15)] [] (rm16 l Z a0 hw w1 kw1 G [] o16 o15 h0 n0 O0 g_o16 g_o15 P2 P3 P4 P5 P6 P7 P8 P0) 398 (l351_4 dp1 dq2 dq3 dq4 dp5 dp6 dp7 dp8 dp9 dp10 dq11 da12 da13 da14 o15 o16 dq17 dq18) rfl at_398 (lenOf pd9 rfl) 0 8 54
  obtain ⟨b36, k37, rfl, Nq38, K39, sz_b36, OV40, f41, f42, f43, f44, f45, f46, f47, f48, f49⟩ := hQ35
  have N35 := Fr.app N0 Nq38
  have g_b36 : n0 ≤ b36 := Nat.le_trans (own_oz O0) sz_b36
  have O35 := Old.keep O0 K39 (allS g_o16 all0)
  obtain ⟨_, T50, L50, X50, hQ50, st50⟩ := yv X35 hx hZ hown hby hml (y := yn4) (own_w hw 62 rfl) (own_w hw 63 rfl) (own_w hw 65 rfl) (own_w hw 64 rfl) (own_w hw 66 rfl) (w_33 hw) rfl f41 [] [] (rm5 l Z a0 hw [] o16 ((3 : Int32)) T35.heap n0 O35 g_o16 f44) 403 (l351_4 dp1 dq2 dq3 dq4 dp5 dp6 dp7 dp8 dp9 dp10 dq11 da12 da13 da14 o15 o16 dq17 dq18) rfl at_403 (lenOf pd3 rfl) 0 8 54
  obtain ⟨rfl, Nq51, e52⟩ := hQ50
  have N50 := Fr.app N35 Nq51
  obtain ⟨_, T53, L53, X53, hQ53, st53⟩ := yv X50 hx hZ hown hby hml (y := yn6) (own_w hw 72 rfl) (own_w hw 73 rfl) (own_w hw 75 rfl) (own_w hw 74 rfl) (own_w hw 76 rfl) (w_33 hw) e52 f41 [] [] (rm14 l Z a0 hw [] o16 b36 T35.heap n0 O35 g_o16 g_b36 f47) 410 #[.val (.int dp1), .val (.long dq2), .second, .val (.long dq3), .second, .val (.long dq4), .second, .val (.int dp5), .val (.int dp6), .val (.int dp7), .val (.int dp8), .val (.int dp9), .val (.int dp10), .val (.int 1), .val (.long dq11), .second, .val (.ref da12), .val (.ref da13), .val (.ref da14), .val (.ref o15), .val (.ref o16), .val (.int 1), .val (.long dq17), .second, .val (.long dq18), .second, .val (.int 1), .unset, .val (.int 3), .unset] rfl at_410 (lenOf pd4 rfl) 0 8 54
  obtain ⟨rfl, Nq54, e55⟩ := hQ53
  have N53 := Fr.app N50 Nq54
  obtain ⟨cl56, Ar56, qa56, Sa56, Na56, Ha56, Ga56⟩ := id (f48)
  obtain ⟨cl57, Ar57, qa57, Sa57, Na57, Ha57, Ga57⟩ := id (f48)
  have hin57 := inb_of (j := (3 : Int32)) Sa57 ⟨by decide, by decide⟩
  have hat57 : cl57.slots[((3 : Int32)).toNatClampNeg]? = some (.ref o15) := Has.at Ha57 hin57 rfl
  obtain ⟨_, T58, L58, X58, hQ58, st58⟩ := yv X53 hx hZ hown hby hml (y := yn5) (own_w hw 67 rfl) (own_w hw 68 rfl) (own_w hw 70 rfl) (own_w hw 69 rfl) (own_w hw 71 rfl) (w_33 hw) e55 f41 [] [] (rm6 l Z a0 hw [] o16 ((4 : Int32)) T35.heap n0 O35 g_o16 f43) 440 (l351_1 dp1 dq2 dq3 dq4 dp5 dp6 dp7 dp8 dp9 dp10 dq11 da12 da13 da14 o15 o16 dq17 dq18 b36) rfl at_440 (lenOf pd3 rfl) 0 8 54
  obtain ⟨rfl, Nq59, e60⟩ := hQ58
  have N58 := Fr.app N53 Nq59
  obtain ⟨_, T61, L61, X61, hQ61, st61⟩ := yv X58 hx hZ hown hby hml (y := yn3) (own_w hw 57 rfl) (w_58 hw) (own_w hw 60 rfl) (w_59 hw) (own_w hw 61 rfl) (w_33 hw) e60 f41 [] [] (rm4 l Z a0 hw [] o16 ((4 : Int32)) ((3 : Int32)) ((0 : Int32)) T35.heap n0 O35 g_o16 f43 f44 f46) 452 (l351_1 dp1 dq2 dq3 dq4 dp5 dp6 dp7 dp8 dp9 dp10 dq11 da12 da13 da14 o15 o16 dq17 dq18 b36) rfl at_452 (lenOf pd3 rfl) 0 8 54
  obtain ⟨rfl, Nq62, e63⟩ := hQ61
  have N61 := Fr.app N58 Nq62
  obtain ⟨fs, hr, hrun, hended, hW, hsame⟩ := X61.leave (v := some (.int 1)) (fun h => by rw [hret] at h; cases h)
  refine ⟨_, _, pre34 _ ?_, hrun, hended, _, _, rfl, ?_, ⟨_, rfl⟩, hW, hsame.mono (by decide) (by decide)⟩
  ·
   refine yfn X0 hx hby at_391 ((if0 _ _).trans (feq (by decide : ¬ ((1 : Int32) = (0 : Int32)))).1) ?_
   refine yal X0 hx hby at_394 rfl rfl ?_
   refine yal X0 hx hby at_396 rfl rfl ?_
   refine st35 _ ?_
   refine yal X35 hx hby at_401 rfl rfl ?_
   refine st50 _ ?_
   refine yis X50 hx hby at_406 (l' := #[.val (.int dp1), .val (.long dq2), .second, .val (.long dq3), .second, .val (.long dq4), .second, .val (.int dp5), .val (.int dp6), .val (.int dp7), .val (.int dp8), .val (.int dp9), .val (.int dp10), .val (.int 1), .val (.long dq11), .second, .val (.ref da12), .val (.ref da13), .val (.ref da14), .val (.ref o15), .val (.ref o16), .val (.int 1), .val (.long dq17), .second, .val (.long dq18), .second, .val (.int 1), .unset, .val (.int 3), .unset]) rfl ?_
   refine yal X50 hx hby at_408 rfl rfl ?_
   refine st53 _ ?_
   refine XS.astore X53.here hx rfl (hb hby at_413) rfl rfl (l' := (l351_1 dp1 dq2 dq3 dq4 dp5 dp6 dp7 dp8 dp9 dp10 dq11 da12 da13 da14 o15 o16 dq17 dq18 b36)) rfl ?_
   refine yil X53 hx hby at_415 rfl ?_
   refine yfn X53 hx hby at_417 ((if0 _ _).trans (flt (by decide : ¬ ((3 : Int32) < (0 : Int32)))).1) ?_
   refine yil X53 hx hby at_420 rfl ?_
   refine yal X53 hx hby at_422 rfl rfl ?_
   refine X53.arraylength hx (by rw [e55]; exact Ar56.1) (State.isArrayOf_alike hZ.alike Ar56.2.1) (g := (mkF m 424 (l351_1 dp1 dq2 dq3 dq4 dp5 dp6 dp7 dp8 dp9 dp10 dq11 da12 da13 da14 o15 o16 dq17 dq18 b36) [(.ref b36), (.int 3)])) rfl rfl (hb hby at_424) _ ?_
   rw [len_of Sa56 Na56]
   refine yno X53 hx hby at_425 (tlt (by decide : (3 : Int32) < (8 : Int32))).2.1 ?_
   refine yal X53 hx hby at_428 rfl rfl ?_
   refine yil X53 hx hby at_430 rfl ?_
   refine X53.aaload hx (j := (3 : Int32)) (v := (.ref o15)) (by rw [e55]; exact Ar57.1) (State.isArrayOf_alike hZ.alike Ar57.2.1) rfl Ar57.2.2 hin57 hat57 (g := (mkF m 432 (l351_1 dp1 dq2 dq3 dq4 dp5 dp6 dp7 dp8 dp9 dp10 dq11 da12 da13 da14 o15 o16 dq17 dq18 b36) [(.int 3), (.ref b36)])) rfl rfl (hb hby at_432) _ ?_
   refine yal X53 hx hby at_433 rfl rfl ?_
   refine Jvm.RoadKit.acmp (g := (mkF m 435 (l351_1 dp1 dq2 dq3 dq4 dp5 dp6 dp7 dp8 dp9 dp10 dq11 da12 da13 da14 o15 o16 dq17 dq18 b36) [(.ref o15), (.ref o15)])) X53 hx rfl rfl rfl (pc0 := 435) (pc' := 438) (same := true) rfl (hb hby at_435) rfl (decide_eq_true rfl) (by decide) (by decide) ?_
   refine yal X53 hx hby at_438 rfl rfl ?_
   refine st58 _ ?_
   refine yil X58 hx hby at_443 rfl ?_
   refine ysu X58 hx hby at_445 ?_
   refine yic X58 hx hby at_446 ?_
   refine yno X58 hx hby at_447 (teq (by decide : (1 : Int32) = (1 : Int32))).2 ?_
   refine yal X58 hx hby at_450 rfl rfl ?_
   refine st61 _ ?_
   refine yic X61 hx hby at_455 ?_
   refine yno X61 hx hby at_456 (teq (own_geq (n := 1) (k := (1 : Int32)) (by decide) (by have q0 := own_sub (x := ((4 : Int32) - (3 : Int32))) (k := (0 : Int32)) (n := 0) (lo := 1) (hi := 1) (by decide) (by have q0 := own_sub (x := (4 : Int32)) (k := (3 : Int32)) (n := 3) (lo := 4) (hi := 4) (by decide) (by have q0 := (by decide : ((4 : Int32)).toInt = 4); omega) (by decide) (by decide); omega) (by decide) (by decide); omega))).2 ?_
   refine yic X61 hx hby at_459 ?_
   refine ygo X61 hx hby 460 464 rfl at_460 (by decide) ?_
   refine yis X61 hx hby at_464 (l' := (l351_0 dp1 dq2 dq3 dq4 dp5 dp6 dp7 dp8 dp9 dp10 dq11 da12 da13 da14 o15 o16 dq17 dq18 b36)) rfl ?_
   refine ygo X61 hx hby 466 531 rfl at_466 (by decide) ?_
   refine yil X61 hx hby at_531 rfl ?_
   refine yfn X61 hx hby at_533 ((if0 _ _).trans (feq (by decide : ¬ ((1 : Int32) = (0 : Int32)))).1) ?_
   refine yil X61 hx hby at_536 rfl ?_
   refine yfn X61 hx hby at_538 ((if0 _ _).trans (feq (by decide : ¬ ((1 : Int32) = (0 : Int32)))).1) ?_
   show Steps p.tables e below (T61.setTop (mkF m 541 (l351_0 dp1 dq2 dq3 dq4 dp5 dp6 dp7 dp8 dp9 dp10 dq11 da12 da13 da14 o15 o16 dq17 dq18 b36) [])) _
   refine yil X61 hx hby at_541 rfl ?_
   refine yfn X61 hx hby at_543 ((if0 _ _).trans (feq (by decide : ¬ ((1 : Int32) = (0 : Int32)))).1) ?_
   refine yic X61 hx hby at_546 ?_
   refine ygo X61 hx hby 547 551 rfl at_547 (by decide) ?_
   show Steps p.tables e below (T61.setTop (mkF m 551 (l351_0 dp1 dq2 dq3 dq4 dp5 dp6 dp7 dp8 dp9 dp10 dq11 da12 da13 da14 o15 o16 dq17 dq18 b36) [(.int 1)])) _
   exact retN X61 hx (t := .boolean) hret (by simp) (hb hby at_551) hr
  ·
   show Q0 n0 _ T61.heap _
   rw [e63]
   exact ⟨rfl, N61⟩
def l352_0 (dp1 : Int32) (dq2 dq3 q4 : Int64) (dp4 dp5 : Int32) (dp6 dp7 : Int32) (dp8 dp9 zz52 : Int32) (dq10 : Int64) (da11 o12 : Addr) (o13 o14 o15 : Addr) (dq50 dq51 : Int64) : Array Slot := #[.val (.int dp1), .val (.long dq2), .second, .val (.long dq3), .second, .val (.long q4), .second, .val (.int dp4), .val (.int dp5), .val (.int dp6), .val (.int dp7), .val (.int dp8), .val (.int dp9), .val (.int zz52), .val (.long dq10), .second, .val (.ref da11), .val (.ref o12), .val (.ref o13), .val (.ref o14), .val (.ref o15), .val (.int 1), .val (.long dq50), .second, .val (.long dq51), .second, .val (.int 1), .unset, .unset, .unset]
def l352_1 (dp1 : Int32) (dq2 dq3 q4 : Int64) (dp4 dp5 : Int32) (dp6 dp7 : Int32) (dp8 dp9 zz52 : Int32) (dq10 : Int64) (da11 o12 : Addr) (o13 o14 o15 : Addr) (dq50 dq51 : Int64) : Array Slot := #[.val (.int dp1), .val (.long dq2), .second, .val (.long dq3), .second, .val (.long q4), .second, .val (.int dp4), .val (.int dp5), .val (.int dp6), .val (.int dp7), .val (.int dp8), .val (.int dp9), .val (.int zz52), .val (.long dq10), .second, .val (.ref da11), .val (.ref o12), .val (.ref o13), .val (.ref o14), .val (.ref o15), .val (.int 1), .val (.long dq50), .second, .val (.long dq51), .second, .unset, .unset, .unset, .unset]
set_option maxRecDepth 65536 in
set_option maxHeartbeats 40000000 in
theorem ct5 {p : Program} {l : Launch} {e : Env} {s : State} {m : MethodId} {below : List Frame} {meth : Method} {c : Code} {E0 T0 : State} {locs : List Loc} {Z : State} {a0 : Array Value} (hw : HW a0 Z) (w1 : Addr) (kw1 : ClassId) (G : GW Z w1 kw1) (o12 o13 : Addr) (o14 o15 : Addr) (dq50 dq51 : Int64) (zz52 dp1 : Int32) (dq2 dq3 q4 : Int64) (dp4 dp5 : Int32) (dp6 dp7 : Int32) (dp8 dp9 : Int32) (dq10 : Int64) (da11 : Addr) (p1 : Int32) (q2 q3 : Int64) (h0 : Heap) (n0 : Nat) (O0 : Old Z n0 h0)
    (hx : p.tables.exec = Jvm.exec) (hby : c.code = code) (hml : c.maxLocals = 30) (hown : s.vm.findClass cn8 = some m.cls) (hret : meth.sig.returnType = ret) (hlk : meth.locks = false) (hZ : Z.Warmed39 s.vm)
    (X0 : Stand p l e room_1 s m #[(.int p1), (.long q2), (.long q3), (.long q4)] below meth c T0 locs 7 46) (e0 : T0.heap = h0) (N0 : Fr n0 locs) (pre0 : Go p e below T0 (mkF m 358 (l352_1 dp1 dq2 dq3 q4 dp4 dp5 dp6 dp7 dp8 dp9 zz52 dq10 da11 o12 o13 o14 o15 dq50 dq51) []) E0) (g_o12 : n0 ≤ o12) (g_o13 : n0 ≤ o13) (g_o14 : n0 ≤ o14) (g_o15 : n0 ≤ o15) (P0 : Exa Z h0 o12 cn6) (P1 : Fld Z h0 o12 cn6 "removed" "J" (.long dq50)) (P2 : Exa Z h0 o13 cn6) (P3 : Fld Z h0 o13 cn6 "removed" "J" (.long dq51)) (P4 : Exa Z h0 o14 cn6) (P6 : Exa Z h0 o15 cn7) (P7 : Fld Z h0 o15 cn7 "addsFirst" "Z" (.int 0)) (P8 : Fld Z h0 o15 cn7 "end" "I" (.int 0)) (P9 : Fld Z h0 o15 cn7 "first" "I" (.int 0)) (P10 : Fld Z h0 o15 cn7 "low" "I" (.int 0)) (P11 : Fld Z h0 o15 cn7 "removed" "I" (.int 0)) (P12 : Fld Z h0 o15 cn7 "slots" cn3 (.ref w1)) (bzz52 : 0 ≤ zz52.toInt ∧ zz52.toInt ≤ 1) :
    ∃ (s₂ : State) (o : Outcome), Steps p.tables e below E0 s₂ ∧ s₂.status = .running ∧ Ended s₂ below o ∧ ∃ v L, o = .returned v ∧ Q0 n0 v s₂.heap L ∧ FrameEnd s o s₂ L 24 192 := by
 obtain ⟨S_w1, A_w1⟩ := id G
 obtain ⟨_, T1, L1, X1, hQ1, st1⟩ := own_cs X0 hx hZ hown (y := yn9) (own_w hw 77 rfl) (own_w hw 78 rfl) (own_w hw 80 rfl) (own_w hw 79 rfl) e0 (argsL := [(.ref o12), (.long dq50), (.long q4)]) (rest := []) (rm10 l Z a0 hw [] o12 dq50 dq50 q4 h0 n0 O0 g_o12 P0 P1) (g := (mkF m 364 (l352_1 dp1 dq2 dq3 q4 dp4 dp5 dp6 dp7 dp8 dp9 zz52 dq10 da11 o12 o13 o14 o15 dq50 dq51) [(.long q4), (.long dq50), (.ref o12)])) rfl (by rw [hml]; rfl) rfl (hb hby at_364) (lenOf pd7 rfl) (W := 0) (c1 := 7) (s1 := 46)
 have pre2 : Go p e below T0 (mkF m 364 (l352_1 dp1 dq2 dq3 q4 dp4 dp5 dp6 dp7 dp8 dp9 zz52 dq10 da11 o12 o13 o14 o15 dq50 dq51) [(.long q4), (.long dq50), (.ref o12)]) E0 := fun t k => by
  refine pre0 _ ?_
  refine yal X0 hx hby at_358 rfl rfl ?_
  refine XS.lload X0.here hx rfl (hb hby at_360) rfl ?_
  refine XS.lload X0.here hx rfl (hb hby at_362) rfl ?_
  exact k
 rcases hQ1 with ⟨hc3, hc4, hc5, rfl, Nq6, e7⟩ | ⟨hc8, hc9, hc10, rfl, Nq11, e12⟩ | ⟨hc13, hc14, rfl, Nq15, e16⟩ | ⟨hc17, hc18, rfl, Nq19, e20⟩ | ⟨hc21, hc22, hc23, hc24, rfl, Nq25, e26⟩ | ⟨hc27, hc28, hc29, hc30, rfl, Nq31, e32⟩ | ⟨hc33, hc34, hc35, hc36, rfl, Nq37, e38⟩ | ⟨hc39, hc40, hc41, hc42, rfl, Nq43, e44⟩
 ·
  have N1 := Fr.app N0 Nq6
  obtain ⟨_, T45, L45, X45, hQ45, st45⟩ := own_cs X1 hx hZ hown (y := yn9) (own_w hw 77 rfl) (own_w hw 78 rfl) (own_w hw 80 rfl) (own_w hw 79 rfl) e7 (argsL := [(.ref o13), (.long dq51), (.long q4)]) (rest := []) (rm10 l Z a0 hw [] o13 dq51 dq51 q4 h0 n0 O0 g_o13 P2 P3) (g := (mkF m 376 (l352_1 dp1 dq2 dq3 q4 dp4 dp5 dp6 dp7 dp8 dp9 zz52 dq10 da11 o12 o13 o14 o15 dq50 dq51) [(.long q4), (.long dq51), (.ref o13)])) rfl (by rw [hml]; rfl) rfl (hb hby at_376) (lenOf pd7 rfl) (W := 0) (c1 := 7) (s1 := 46)
  have pre46 : Go p e below T1 (mkF m 376 (l352_1 dp1 dq2 dq3 q4 dp4 dp5 dp6 dp7 dp8 dp9 zz52 dq10 da11 o12 o13 o14 o15 dq50 dq51) [(.long q4), (.long dq51), (.ref o13)]) E0 := fun t k => by
   refine pre2 _ ?_
   refine st1 _ ?_
   refine yfn X1 hx hby at_367 ((if0 _ _).trans (feq (by decide : ¬ ((1 : Int32) = (0 : Int32)))).1) ?_
   refine yal X1 hx hby at_370 rfl rfl ?_
   refine XS.lload X1.here hx rfl (hb hby at_372) rfl ?_
   refine XS.lload X1.here hx rfl (hb hby at_374) rfl ?_
   exact k
  rcases hQ45 with ⟨hc47, hc48, hc49, rfl, Nq50, e51⟩ | ⟨hc52, hc53, hc54, rfl, Nq55, e56⟩ | ⟨hc57, hc58, rfl, Nq59, e60⟩ | ⟨hc61, hc62, rfl, Nq63, e64⟩ | ⟨hc65, hc66, hc67, hc68, rfl, Nq69, e70⟩ | ⟨hc71, hc72, hc73, hc74, rfl, Nq75, e76⟩ | ⟨hc77, hc78, hc79, hc80, rfl, Nq81, e82⟩ | ⟨hc83, hc84, hc85, hc86, rfl, Nq87, e88⟩
  ·
   have N45 := Fr.app N1 Nq50
   have pre89 : Go p e below T45 (mkF m 389 (l352_0 dp1 dq2 dq3 q4 dp4 dp5 dp6 dp7 dp8 dp9 zz52 dq10 da11 o12 o13 o14 o15 dq50 dq51) []) E0 := fun t k => by
    refine pre46 _ ?_
    refine st45 _ ?_
    refine yfn X45 hx hby at_379 ((if0 _ _).trans (feq (by decide : ¬ ((1 : Int32) = (0 : Int32)))).1) ?_
    refine yic X45 hx hby at_382 ?_
    refine ygo X45 hx hby 383 387 rfl at_383 (by decide) ?_
    refine yis X45 hx hby at_387 (l' := (l352_0 dp1 dq2 dq3 q4 dp4 dp5 dp6 dp7 dp8 dp9 zz52 dq10 da11 o12 o13 o14 o15 dq50 dq51)) rfl ?_
    exact k
   exact ct6 hw w1 kw1 G o14 o15 zz52 dp1 dq2 dq3 q4 dp4 dp5 dp6 dp7 dp8 dp9 dq10 da11 o12 o13 dq50 dq51 p1 q2 q3 q4 h0 n0 O0 hx hby hml hown hret hlk hZ (X45.more (by decide) (by decide)) e51 N45 pre89 g_o14 g_o15 P4 P6 P7 P8 P9 P10 P11 P12 (by have q0 := bzz52; omega)
  ·
   have N45 := Fr.app N1 Nq55
   have pre90 : Go p e below T45 (mkF m 389 (l352_0 dp1 dq2 dq3 q4 dp4 dp5 dp6 dp7 dp8 dp9 zz52 dq10 da11 o12 o13 o14 o15 dq50 dq51) []) E0 := fun t k => by
    refine pre46 _ ?_
    refine st45 _ ?_
    refine yfn X45 hx hby at_379 ((if0 _ _).trans (feq (by decide : ¬ ((1 : Int32) = (0 : Int32)))).1) ?_
    refine yic X45 hx hby at_382 ?_
    refine ygo X45 hx hby 383 387 rfl at_383 (by decide) ?_
    refine yis X45 hx hby at_387 (l' := (l352_0 dp1 dq2 dq3 q4 dp4 dp5 dp6 dp7 dp8 dp9 zz52 dq10 da11 o12 o13 o14 o15 dq50 dq51)) rfl ?_
    exact k
   exact ct6 hw w1 kw1 G o14 o15 zz52 dp1 dq2 dq3 q4 dp4 dp5 dp6 dp7 dp8 dp9 dq10 da11 o12 o13 dq50 dq51 p1 q2 q3 q4 h0 n0 O0 hx hby hml hown hret hlk hZ (X45.more (by decide) (by decide)) e56 N45 pre90 g_o14 g_o15 P4 P6 P7 P8 P9 P10 P11 P12 (by have q0 := bzz52; omega)
  ·
   exact absurd hc57 hc58
  ·
   exact absurd hc62 hc61
  ·
   have N45 := Fr.app N1 Nq69
   have pre91 : Go p e below T45 (mkF m 389 (l352_0 dp1 dq2 dq3 q4 dp4 dp5 dp6 dp7 dp8 dp9 zz52 dq10 da11 o12 o13 o14 o15 dq50 dq51) []) E0 := fun t k => by
    refine pre46 _ ?_
    refine st45 _ ?_
    refine yfn X45 hx hby at_379 ((if0 _ _).trans (feq (by decide : ¬ ((1 : Int32) = (0 : Int32)))).1) ?_
    refine yic X45 hx hby at_382 ?_
    refine ygo X45 hx hby 383 387 rfl at_383 (by decide) ?_
    refine yis X45 hx hby at_387 (l' := (l352_0 dp1 dq2 dq3 q4 dp4 dp5 dp6 dp7 dp8 dp9 zz52 dq10 da11 o12 o13 o14 o15 dq50 dq51)) rfl ?_
    exact k
   exact ct6 hw w1 kw1 G o14 o15 zz52 dp1 dq2 dq3 q4 dp4 dp5 dp6 dp7 dp8 dp9 dq10 da11 o12 o13 dq50 dq51 p1 q2 q3 q4 h0 n0 O0 hx hby hml hown hret hlk hZ (X45.more (by decide) (by decide)) e70 N45 pre91 g_o14 g_o15 P4 P6 P7 P8 P9 P10 P11 P12 (by have q0 := bzz52; omega)
  ·
   exact absurd hc73 hc74
  ·
   exact absurd hc80 hc79
  ·
   have N45 := Fr.app N1 Nq87
   have pre92 : Go p e below T45 (mkF m 389 (l352_0 dp1 dq2 dq3 q4 dp4 dp5 dp6 dp7 dp8 dp9 zz52 dq10 da11 o12 o13 o14 o15 dq50 dq51) []) E0 := fun t k => by
    refine pre46 _ ?_
    refine st45 _ ?_
    refine yfn X45 hx hby at_379 ((if0 _ _).trans (feq (by decide : ¬ ((1 : Int32) = (0 : Int32)))).1) ?_
    refine yic X45 hx hby at_382 ?_
    refine ygo X45 hx hby 383 387 rfl at_383 (by decide) ?_
    refine yis X45 hx hby at_387 (l' := (l352_0 dp1 dq2 dq3 q4 dp4 dp5 dp6 dp7 dp8 dp9 zz52 dq10 da11 o12 o13 o14 o15 dq50 dq51)) rfl ?_
    exact k
   exact ct6 hw w1 kw1 G o14 o15 zz52 dp1 dq2 dq3 q4 dp4 dp5 dp6 dp7 dp8 dp9 dq10 da11 o12 o13 dq50 dq51 p1 q2 q3 q4 h0 n0 O0 hx hby hml hown hret hlk hZ (X45.more (by decide) (by decide)) e88 N45 pre92 g_o14 g_o15 P4 P6 P7 P8 P9 P10 P11 P12 (by have q0 := bzz52; omega)
 ·
  have N1 := Fr.app N0 Nq11
  obtain ⟨_, T93, L93, X93, hQ93, st93⟩ := own_cs X1 hx hZ hown (y := yn9) (own_w hw 77 rfl) (own_w hw 78 rfl) (own_w hw 80 rfl) (own_w hw 79 rfl) e12 (argsL := [(.ref o13), (.long dq51), (.long q4)]) (rest := []) (rm10 l Z a0 hw [] o13 dq51 dq51 q4 h0 n0 O0 g_o13 P2 P3) (g := (mkF m 376 (l352_1 dp1 dq2 dq3 q4 dp4 dp5 dp6 dp7 dp8 dp9 zz52 dq10 da11 o12 o13 o14 o15 dq50 dq51) [(.long q4), (.long dq51), (.ref o13)])) rfl (by rw [hml]; rfl) rfl (hb hby at_376) (lenOf pd7 rfl) (W := 0) (c1 := 7) (s1 := 46)
  have pre94 : Go p e below T1 (mkF m 376 (l352_1 dp1 dq2 dq3 q4 dp4 dp5 dp6 dp7 dp8 dp9 zz52 dq10 da11 o12 o13 o14 o15 dq50 dq51) [(.long q4), (.long dq51), (.ref o13)]) E0 := fun t k => by
   refine pre2 _ ?_
   refine st1 _ ?_
   refine yfn X1 hx hby at_367 ((if0 _ _).trans (feq (by decide : ¬ ((1 : Int32) = (0 : Int32)))).1) ?_
   refine yal X1 hx hby at_370 rfl rfl ?_
   refine XS.lload X1.here hx rfl (hb hby at_372) rfl ?_
   refine XS.lload X1.here hx rfl (hb hby at_374) rfl ?_
   exact k
  rcases hQ93 with ⟨hc95, hc96, hc97, rfl, Nq98, e99⟩ | ⟨hc100, hc101, hc102, rfl, Nq103, e104⟩ | ⟨hc105, hc106, rfl, Nq107, e108⟩ | ⟨hc109, hc110, rfl, Nq111, e112⟩ | ⟨hc113, hc114, hc115, hc116, rfl, Nq117, e118⟩ | ⟨hc119, hc120, hc121, hc122, rfl, Nq123, e124⟩ | ⟨hc125, hc126, hc127, hc128, rfl, Nq129, e130⟩ | ⟨hc131, hc132, hc133, hc134, rfl, Nq135, e136⟩
  ·
   have N93 := Fr.app N1 Nq98
   have pre137 : Go p e below T93 (mkF m 389 (l352_0 dp1 dq2 dq3 q4 dp4 dp5 dp6 dp7 dp8 dp9 zz52 dq10 da11 o12 o13 o14 o15 dq50 dq51) []) E0 := fun t k => by
    refine pre94 _ ?_
    refine st93 _ ?_
    refine yfn X93 hx hby at_379 ((if0 _ _).trans (feq (by decide : ¬ ((1 : Int32) = (0 : Int32)))).1) ?_
    refine yic X93 hx hby at_382 ?_
    refine ygo X93 hx hby 383 387 rfl at_383 (by decide) ?_
    refine yis X93 hx hby at_387 (l' := (l352_0 dp1 dq2 dq3 q4 dp4 dp5 dp6 dp7 dp8 dp9 zz52 dq10 da11 o12 o13 o14 o15 dq50 dq51)) rfl ?_
    exact k
   exact ct6 hw w1 kw1 G o14 o15 zz52 dp1 dq2 dq3 q4 dp4 dp5 dp6 dp7 dp8 dp9 dq10 da11 o12 o13 dq50 dq51 p1 q2 q3 q4 h0 n0 O0 hx hby hml hown hret hlk hZ (X93.more (by decide) (by decide)) e99 N93 pre137 g_o14 g_o15 P4 P6 P7 P8 P9 P10 P11 P12 (by have q0 := bzz52; omega)
  ·
   have N93 := Fr.app N1 Nq103
   have pre138 : Go p e below T93 (mkF m 389 (l352_0 dp1 dq2 dq3 q4 dp4 dp5 dp6 dp7 dp8 dp9 zz52 dq10 da11 o12 o13 o14 o15 dq50 dq51) []) E0 := fun t k => by
    refine pre94 _ ?_
    refine st93 _ ?_
    refine yfn X93 hx hby at_379 ((if0 _ _).trans (feq (by decide : ¬ ((1 : Int32) = (0 : Int32)))).1) ?_
    refine yic X93 hx hby at_382 ?_
    refine ygo X93 hx hby 383 387 rfl at_383 (by decide) ?_
    refine yis X93 hx hby at_387 (l' := (l352_0 dp1 dq2 dq3 q4 dp4 dp5 dp6 dp7 dp8 dp9 zz52 dq10 da11 o12 o13 o14 o15 dq50 dq51)) rfl ?_
    exact k
   exact ct6 hw w1 kw1 G o14 o15 zz52 dp1 dq2 dq3 q4 dp4 dp5 dp6 dp7 dp8 dp9 dq10 da11 o12 o13 dq50 dq51 p1 q2 q3 q4 h0 n0 O0 hx hby hml hown hret hlk hZ (X93.more (by decide) (by decide)) e104 N93 pre138 g_o14 g_o15 P4 P6 P7 P8 P9 P10 P11 P12 (by have q0 := bzz52; omega)
  ·
   exact absurd hc105 hc106
  ·
   exact absurd hc110 hc109
  ·
   have N93 := Fr.app N1 Nq117
   have pre139 : Go p e below T93 (mkF m 389 (l352_0 dp1 dq2 dq3 q4 dp4 dp5 dp6 dp7 dp8 dp9 zz52 dq10 da11 o12 o13 o14 o15 dq50 dq51) []) E0 := fun t k => by
    refine pre94 _ ?_
    refine st93 _ ?_
    refine yfn X93 hx hby at_379 ((if0 _ _).trans (feq (by decide : ¬ ((1 : Int32) = (0 : Int32)))).1) ?_
    refine yic X93 hx hby at_382 ?_
    refine ygo X93 hx hby 383 387 rfl at_383 (by decide) ?_
    refine yis X93 hx hby at_387 (l' := (l352_0 dp1 dq2 dq3 q4 dp4 dp5 dp6 dp7 dp8 dp9 zz52 dq10 da11 o12 o13 o14 o15 dq50 dq51)) rfl ?_
    exact k
   exact ct6 hw w1 kw1 G o14 o15 zz52 dp1 dq2 dq3 q4 dp4 dp5 dp6 dp7 dp8 dp9 dq10 da11 o12 o13 dq50 dq51 p1 q2 q3 q4 h0 n0 O0 hx hby hml hown hret hlk hZ (X93.more (by decide) (by decide)) e118 N93 pre139 g_o14 g_o15 P4 P6 P7 P8 P9 P10 P11 P12 (by have q0 := bzz52; omega)
  ·
   exact absurd hc121 hc122
  ·
   exact absurd hc128 hc127
  ·
   have N93 := Fr.app N1 Nq135
   have pre140 : Go p e below T93 (mkF m 389 (l352_0 dp1 dq2 dq3 q4 dp4 dp5 dp6 dp7 dp8 dp9 zz52 dq10 da11 o12 o13 o14 o15 dq50 dq51) []) E0 := fun t k => by
    refine pre94 _ ?_
    refine st93 _ ?_
    refine yfn X93 hx hby at_379 ((if0 _ _).trans (feq (by decide : ¬ ((1 : Int32) = (0 : Int32)))).1) ?_
    refine yic X93 hx hby at_382 ?_
    refine ygo X93 hx hby 383 387 rfl at_383 (by decide) ?_
    refine yis X93 hx hby at_387 (l' := (l352_0 dp1 dq2 dq3 q4 dp4 dp5 dp6 dp7 dp8 dp9 zz52 dq10 da11 o12 o13 o14 o15 dq50 dq51)) rfl ?_
    exact k
   exact ct6 hw w1 kw1 G o14 o15 zz52 dp1 dq2 dq3 q4 dp4 dp5 dp6 dp7 dp8 dp9 dq10 da11 o12 o13 dq50 dq51 p1 q2 q3 q4 h0 n0 O0 hx hby hml hown hret hlk hZ (X93.more (by decide) (by decide)) e136 N93 pre140 g_o14 g_o15 P4 P6 P7 P8 P9 P10 P11 P12 (by have q0 := bzz52; omega)
 ·
  exact absurd hc13 hc14
 ·
  exact absurd hc18 hc17
 ·
  have N1 := Fr.app N0 Nq25
  obtain ⟨_, T141, L141, X141, hQ141, st141⟩ := own_cs X1 hx hZ hown (y := yn9) (own_w hw 77 rfl) (own_w hw 78 rfl) (own_w hw 80 rfl) (own_w hw 79 rfl) e26 (argsL := [(.ref o13), (.long dq51), (.long q4)]) (rest := []) (rm10 l Z a0 hw [] o13 dq51 dq51 q4 h0 n0 O0 g_o13 P2 P3) (g := (mkF m 376 (l352_1 dp1 dq2 dq3 q4 dp4 dp5 dp6 dp7 dp8 dp9 zz52 dq10 da11 o12 o13 o14 o15 dq50 dq51) [(.long q4), (.long dq51), (.ref o13)])) rfl (by rw [hml]; rfl) rfl (hb hby at_376) (lenOf pd7 rfl) (W := 0) (c1 := 7) (s1 := 46)
  have pre142 : Go p e below T1 (mkF m 376 (l352_1 dp1 dq2 dq3 q4 dp4 dp5 dp6 dp7 dp8 dp9 zz52 dq10 da11 o12 o13 o14 o15 dq50 dq51) [(.long q4), (.long dq51), (.ref o13)]) E0 := fun t k => by
   refine pre2 _ ?_
   refine st1 _ ?_
   refine yfn X1 hx hby at_367 ((if0 _ _).trans (feq (by decide : ¬ ((1 : Int32) = (0 : Int32)))).1) ?_
   refine yal X1 hx hby at_370 rfl rfl ?_
   refine XS.lload X1.here hx rfl (hb hby at_372) rfl ?_
   refine XS.lload X1.here hx rfl (hb hby at_374) rfl ?_
   exact k
  rcases hQ141 with ⟨hc143, hc144, hc145, rfl, Nq146, e147⟩ | ⟨hc148, hc149, hc150, rfl, Nq151, e152⟩ | ⟨hc153, hc154, rfl, Nq155, e156⟩ | ⟨hc157, hc158, rfl, Nq159, e160⟩ | ⟨hc161, hc162, hc163, hc164, rfl, Nq165, e166⟩ | ⟨hc167, hc168, hc169, hc170, rfl, Nq171, e172⟩ | ⟨hc173, hc174, hc175, hc176, rfl, Nq177, e178⟩ | ⟨hc179, hc180, hc181, hc182, rfl, Nq183, e184⟩
  ·
   have N141 := Fr.app N1 Nq146
   have pre185 : Go p e below T141 (mkF m 389 (l352_0 dp1 dq2 dq3 q4 dp4 dp5 dp6 dp7 dp8 dp9 zz52 dq10 da11 o12 o13 o14 o15 dq50 dq51) []) E0 := fun t k => by
    refine pre142 _ ?_
    refine st141 _ ?_
    refine yfn X141 hx hby at_379 ((if0 _ _).trans (feq (by decide : ¬ ((1 : Int32) = (0 : Int32)))).1) ?_
    refine yic X141 hx hby at_382 ?_
    refine ygo X141 hx hby 383 387 rfl at_383 (by decide) ?_
    refine yis X141 hx hby at_387 (l' := (l352_0 dp1 dq2 dq3 q4 dp4 dp5 dp6 dp7 dp8 dp9 zz52 dq10 da11 o12 o13 o14 o15 dq50 dq51)) rfl ?_
    exact k
   exact ct6 hw w1 kw1 G o14 o15 zz52 dp1 dq2 dq3 q4 dp4 dp5 dp6 dp7 dp8 dp9 dq10 da11 o12 o13 dq50 dq51 p1 q2 q3 q4 h0 n0 O0 hx hby hml hown hret hlk hZ (X141.more (by decide) (by decide)) e147 N141 pre185 g_o14 g_o15 P4 P6 P7 P8 P9 P10 P11 P12 (by have q0 := bzz52; omega)
  ·
   have N141 := Fr.app N1 Nq151
   have pre186 : Go p e below T141 (mkF m 389 (l352_0 dp1 dq2 dq3 q4 dp4 dp5 dp6 dp7 dp8 dp9 zz52 dq10 da11 o12 o13 o14 o15 dq50 dq51) []) E0 := fun t k => by
    refine pre142 _ ?_
    refine st141 _ ?_
    refine yfn X141 hx hby at_379 ((if0 _ _).trans (feq (by decide : ¬ ((1 : Int32) = (0 : Int32)))).1) ?_
    refine yic X141 hx hby at_382 ?_
    refine ygo X141 hx hby 383 387 rfl at_383 (by decide) ?_
    refine yis X141 hx hby at_387 (l' := (l352_0 dp1 dq2 dq3 q4 dp4 dp5 dp6 dp7 dp8 dp9 zz52 dq10 da11 o12 o13 o14 o15 dq50 dq51)) rfl ?_
    exact k
   exact ct6 hw w1 kw1 G o14 o15 zz52 dp1 dq2 dq3 q4 dp4 dp5 dp6 dp7 dp8 dp9 dq10 da11 o12 o13 dq50 dq51 p1 q2 q3 q4 h0 n0 O0 hx hby hml hown hret hlk hZ (X141.more (by decide) (by decide)) e152 N141 pre186 g_o14 g_o15 P4 P6 P7 P8 P9 P10 P11 P12 (by have q0 := bzz52; omega)
  ·
   exact absurd hc153 hc154
  ·
   exact absurd hc158 hc157
  ·
   have N141 := Fr.app N1 Nq165
   have pre187 : Go p e below T141 (mkF m 389 (l352_0 dp1 dq2 dq3 q4 dp4 dp5 dp6 dp7 dp8 dp9 zz52 dq10 da11 o12 o13 o14 o15 dq50 dq51) []) E0 := fun t k => by
    refine pre142 _ ?_
    refine st141 _ ?_
    refine yfn X141 hx hby at_379 ((if0 _ _).trans (feq (by decide : ¬ ((1 : Int32) = (0 : Int32)))).1) ?_
    refine yic X141 hx hby at_382 ?_
    refine ygo X141 hx hby 383 387 rfl at_383 (by decide) ?_
    refine yis X141 hx hby at_387 (l' := (l352_0 dp1 dq2 dq3 q4 dp4 dp5 dp6 dp7 dp8 dp9 zz52 dq10 da11 o12 o13 o14 o15 dq50 dq51)) rfl ?_
    exact k
   exact ct6 hw w1 kw1 G o14 o15 zz52 dp1 dq2 dq3 q4 dp4 dp5 dp6 dp7 dp8 dp9 dq10 da11 o12 o13 dq50 dq51 p1 q2 q3 q4 h0 n0 O0 hx hby hml hown hret hlk hZ (X141.more (by decide) (by decide)) e166 N141 pre187 g_o14 g_o15 P4 P6 P7 P8 P9 P10 P11 P12 (by have q0 := bzz52; omega)
  ·
   exact absurd hc169 hc170
  ·
   exact absurd hc176 hc175
  ·
   have N141 := Fr.app N1 Nq183
   have pre188 : Go p e below T141 (mkF m 389 (l352_0 dp1 dq2 dq3 q4 dp4 dp5 dp6 dp7 dp8 dp9 zz52 dq10 da11 o12 o13 o14 o15 dq50 dq51) []) E0 := fun t k => by
    refine pre142 _ ?_
    refine st141 _ ?_
    refine yfn X141 hx hby at_379 ((if0 _ _).trans (feq (by decide : ¬ ((1 : Int32) = (0 : Int32)))).1) ?_
    refine yic X141 hx hby at_382 ?_
    refine ygo X141 hx hby 383 387 rfl at_383 (by decide) ?_
    refine yis X141 hx hby at_387 (l' := (l352_0 dp1 dq2 dq3 q4 dp4 dp5 dp6 dp7 dp8 dp9 zz52 dq10 da11 o12 o13 o14 o15 dq50 dq51)) rfl ?_
    exact k
   exact ct6 hw w1 kw1 G o14 o15 zz52 dp1 dq2 dq3 q4 dp4 dp5 dp6 dp7 dp8 dp9 dq10 da11 o12 o13 dq50 dq51 p1 q2 q3 q4 h0 n0 O0 hx hby hml hown hret hlk hZ (X141.more (by decide) (by decide)) e184 N141 pre188 g_o14 g_o15 P4 P6 P7 P8 P9 P10 P11 P12 (by have q0 := bzz52; omega)
 ·
  exact absurd hc29 hc30
 ·
  exact absurd hc36 hc35
 ·
  have N1 := Fr.app N0 Nq43
  obtain ⟨_, T189, L189, X189, hQ189, st189⟩ := own_cs X1 hx hZ hown (y := yn9) (own_w hw 77 rfl) (own_w hw 78 rfl) (own_w hw 80 rfl) (own_w hw 79 rfl) e44 (argsL := [(.ref o13), (.long dq51), (.long q4)]) (rest := []) (rm10 l Z a0 hw [] o13 dq51 dq51 q4 h0 n0 O0 g_o13 P2 P3) (g := (mkF m 376 (l352_1 dp1 dq2 dq3 q4 dp4 dp5 dp6 dp7 dp8 dp9 zz52 dq10 da11 o12 o13 o14 o15 dq50 dq51) [(.long q4), (.long dq51), (.ref o13)])) rfl (by rw [hml]; rfl) rfl (hb hby at_376) (lenOf pd7 rfl) (W := 0) (c1 := 7) (s1 := 46)
  have pre190 : Go p e below T1 (mkF m 376 (l352_1 dp1 dq2 dq3 q4 dp4 dp5 dp6 dp7 dp8 dp9 zz52 dq10 da11 o12 o13 o14 o15 dq50 dq51) [(.long q4), (.long dq51), (.ref o13)]) E0 := fun t k => by
   refine pre2 _ ?_
   refine st1 _ ?_
   refine yfn X1 hx hby at_367 ((if0 _ _).trans (feq (by decide : ¬ ((1 : Int32) = (0 : Int32)))).1) ?_
   refine yal X1 hx hby at_370 rfl rfl ?_
   refine XS.lload X1.here hx rfl (hb hby at_372) rfl ?_
   refine XS.lload X1.here hx rfl (hb hby at_374) rfl ?_
   exact k
  rcases hQ189 with ⟨hc191, hc192, hc193, rfl, Nq194, e195⟩ | ⟨hc196, hc197, hc198, rfl, Nq199, e200⟩ | ⟨hc201, hc202, rfl, Nq203, e204⟩ | ⟨hc205, hc206, rfl, Nq207, e208⟩ | ⟨hc209, hc210, hc211, hc212, rfl, Nq213, e214⟩ | ⟨hc215, hc216, hc217, hc218, rfl, Nq219, e220⟩ | ⟨hc221, hc222, hc223, hc224, rfl, Nq225, e226⟩ | ⟨hc227, hc228, hc229, hc230, rfl, Nq231, e232⟩
  ·
   have N189 := Fr.app N1 Nq194
   have pre233 : Go p e below T189 (mkF m 389 (l352_0 dp1 dq2 dq3 q4 dp4 dp5 dp6 dp7 dp8 dp9 zz52 dq10 da11 o12 o13 o14 o15 dq50 dq51) []) E0 := fun t k => by
    refine pre190 _ ?_
    refine st189 _ ?_
    refine yfn X189 hx hby at_379 ((if0 _ _).trans (feq (by decide : ¬ ((1 : Int32) = (0 : Int32)))).1) ?_
    refine yic X189 hx hby at_382 ?_
    refine ygo X189 hx hby 383 387 rfl at_383 (by decide) ?_
    refine yis X189 hx hby at_387 (l' := (l352_0 dp1 dq2 dq3 q4 dp4 dp5 dp6 dp7 dp8 dp9 zz52 dq10 da11 o12 o13 o14 o15 dq50 dq51)) rfl ?_
    exact k
   exact ct6 hw w1 kw1 G o14 o15 zz52 dp1 dq2 dq3 q4 dp4 dp5 dp6 dp7 dp8 dp9 dq10 da11 o12 o13 dq50 dq51 p1 q2 q3 q4 h0 n0 O0 hx hby hml hown hret hlk hZ (X189.more (by decide) (by decide)) e195 N189 pre233 g_o14 g_o15 P4 P6 P7 P8 P9 P10 P11 P12 (by have q0 := bzz52; omega)
  ·
   have N189 := Fr.app N1 Nq199
   have pre234 : Go p e below T189 (mkF m 389 (l352_0 dp1 dq2 dq3 q4 dp4 dp5 dp6 dp7 dp8 dp9 zz52 dq10 da11 o12 o13 o14 o15 dq50 dq51) []) E0 := fun t k => by
    refine pre190 _ ?_
    refine st189 _ ?_
    refine yfn X189 hx hby at_379 ((if0 _ _).trans (feq (by decide : ¬ ((1 : Int32) = (0 : Int32)))).1) ?_
    refine yic X189 hx hby at_382 ?_
    refine ygo X189 hx hby 383 387 rfl at_383 (by decide) ?_
    refine yis X189 hx hby at_387 (l' := (l352_0 dp1 dq2 dq3 q4 dp4 dp5 dp6 dp7 dp8 dp9 zz52 dq10 da11 o12 o13 o14 o15 dq50 dq51)) rfl ?_
    exact k
   exact ct6 hw w1 kw1 G o14 o15 zz52 dp1 dq2 dq3 q4 dp4 dp5 dp6 dp7 dp8 dp9 dq10 da11 o12 o13 dq50 dq51 p1 q2 q3 q4 h0 n0 O0 hx hby hml hown hret hlk hZ (X189.more (by decide) (by decide)) e200 N189 pre234 g_o14 g_o15 P4 P6 P7 P8 P9 P10 P11 P12 (by have q0 := bzz52; omega)
  ·
   exact absurd hc201 hc202
  ·
   exact absurd hc206 hc205
  ·
   have N189 := Fr.app N1 Nq213
   have pre235 : Go p e below T189 (mkF m 389 (l352_0 dp1 dq2 dq3 q4 dp4 dp5 dp6 dp7 dp8 dp9 zz52 dq10 da11 o12 o13 o14 o15 dq50 dq51) []) E0 := fun t k => by
    refine pre190 _ ?_
    refine st189 _ ?_
    refine yfn X189 hx hby at_379 ((if0 _ _).trans (feq (by decide : ¬ ((1 : Int32) = (0 : Int32)))).1) ?_
    refine yic X189 hx hby at_382 ?_
    refine ygo X189 hx hby 383 387 rfl at_383 (by decide) ?_
    refine yis X189 hx hby at_387 (l' := (l352_0 dp1 dq2 dq3 q4 dp4 dp5 dp6 dp7 dp8 dp9 zz52 dq10 da11 o12 o13 o14 o15 dq50 dq51)) rfl ?_
    exact k
   exact ct6 hw w1 kw1 G o14 o15 zz52 dp1 dq2 dq3 q4 dp4 dp5 dp6 dp7 dp8 dp9 dq10 da11 o12 o13 dq50 dq51 p1 q2 q3 q4 h0 n0 O0 hx hby hml hown hret hlk hZ (X189.more (by decide) (by decide)) e214 N189 pre235 g_o14 g_o15 P4 P6 P7 P8 P9 P10 P11 P12 (by have q0 := bzz52; omega)
  ·
   exact absurd hc217 hc218
  ·
   exact absurd hc224 hc223
  ·
   have N189 := Fr.app N1 Nq231
   have pre236 : Go p e below T189 (mkF m 389 (l352_0 dp1 dq2 dq3 q4 dp4 dp5 dp6 dp7 dp8 dp9 zz52 dq10 da11 o12 o13 o14 o15 dq50 dq51) []) E0 := fun t k => by
    refine pre190 _ ?_
    refine st189 _ ?_
    refine yfn X189 hx hby at_379 ((if0 _ _).trans (feq (by decide : ¬ ((1 : Int32) = (0 : Int32)))).1) ?_
    refine yic X189 hx hby at_382 ?_
    refine ygo X189 hx hby 383 387 rfl at_383 (by decide) ?_
    refine yis X189 hx hby at_387 (l' := (l352_0 dp1 dq2 dq3 q4 dp4 dp5 dp6 dp7 dp8 dp9 zz52 dq10 da11 o12 o13 o14 o15 dq50 dq51)) rfl ?_
    exact k
   exact ct6 hw w1 kw1 G o14 o15 zz52 dp1 dq2 dq3 q4 dp4 dp5 dp6 dp7 dp8 dp9 dq10 da11 o12 o13 dq50 dq51 p1 q2 q3 q4 h0 n0 O0 hx hby hml hown hret hlk hZ (X189.more (by decide) (by decide)) e232 N189 pre236 g_o14 g_o15 P4 P6 P7 P8 P9 P10 P11 P12 (by have q0 := bzz52; omega)
def l353_0 (dp1 : Int32) (dq2 q3 q4 : Int64) (dp3 dp4 zz50 : Int32) (dq50 : Int64) (da5 o6 : Addr) (o7 o8 o9 : Addr) : Array Slot := #[.val (.int dp1), .val (.long dq2), .second, .val (.long q3), .second, .val (.long q4), .second, .val (.int 0), .val (.int 0), .val (.int dp3), .val (.int dp4), .val (.int 0), .val (.int 0), .val (.int zz50), .val (.long dq50), .second, .val (.ref da5), .val (.ref o6), .val (.ref o7), .val (.ref o8), .val (.ref o9), .val (.int 1), .val (.long 9223372036854775807), .second, .val (.long 9223372036854775807), .second, .unset, .unset, .unset, .unset]
def l353_1 (dp1 : Int32) (dq2 q3 q4 : Int64) (dp3 dp4 zz50 : Int32) (dq50 : Int64) (da5 o6 : Addr) (o7 o8 o9 : Addr) : Array Slot := #[.val (.int dp1), .val (.long dq2), .second, .val (.long q3), .second, .val (.long q4), .second, .val (.int 0), .val (.int 0), .val (.int dp3), .val (.int dp4), .val (.int 0), .val (.int 0), .val (.int zz50), .val (.long dq50), .second, .val (.ref da5), .val (.ref o6), .val (.ref o7), .val (.ref o8), .val (.ref o9), .val (.int 1), .val (.long 9223372036854775807), .second, .unset, .unset, .unset, .unset, .unset, .unset]
def l353_2 (dp1 : Int32) (dq2 q3 q4 : Int64) (dp3 dp4 zz50 : Int32) (dq50 : Int64) (da5 o6 : Addr) (o7 o8 o9 : Addr) : Array Slot := #[.val (.int dp1), .val (.long dq2), .second, .val (.long q3), .second, .val (.long q4), .second, .val (.int 0), .val (.int 0), .val (.int dp3), .val (.int dp4), .val (.int 0), .val (.int 0), .val (.int zz50), .val (.long dq50), .second, .val (.ref da5), .val (.ref o6), .val (.ref o7), .val (.ref o8), .val (.ref o9), .val (.int 1), .unset, .unset, .unset, .unset, .unset, .unset, .unset, .unset]
def l353_3 (dp1 : Int32) (dq2 q3 q4 : Int64) (dp3 dp4 zz50 : Int32) (dq50 : Int64) (da5 o6 : Addr) (o7 o8 o9 : Addr) : Array Slot := #[.val (.int dp1), .val (.long dq2), .second, .val (.long q3), .second, .val (.long q4), .second, .val (.int 0), .val (.int 0), .val (.int dp3), .val (.int dp4), .val (.int 0), .val (.int 0), .val (.int zz50), .val (.long dq50), .second, .val (.ref da5), .val (.ref o6), .val (.ref o7), .val (.ref o8), .val (.ref o9), .unset, .unset, .unset, .unset, .unset, .unset, .unset, .unset, .unset]
set_option maxRecDepth 65536 in
set_option maxHeartbeats 40000000 in
theorem ct4 {p : Program} {l : Launch} {e : Env} {s : State} {m : MethodId} {below : List Frame} {meth : Method} {c : Code} {E0 T0 : State} {locs : List Loc} {Z : State} {a0 : Array Value} (hw : HW a0 Z) (w1 : Addr) (kw1 : ClassId) (G : GW Z w1 kw1) (o6 o7 : Addr) (o8 o9 : Addr) (zz50 dp1 : Int32) (dq2 q3 q4 : Int64) (dp3 dp4 : Int32) (dq50 : Int64) (da5 : Addr) (p1 : Int32) (q2 : Int64) (h0 : Heap) (n0 : Nat) (O0 : Old Z n0 h0)
    (hx : p.tables.exec = Jvm.exec) (hby : c.code = code) (hml : c.maxLocals = 30) (hown : s.vm.findClass cn8 = some m.cls) (hret : meth.sig.returnType = ret) (hlk : meth.locks = false) (hZ : Z.Warmed39 s.vm)
    (X0 : Stand p l e room_1 s m #[(.int p1), (.long q2), (.long q3), (.long q4)] below meth c T0 locs 7 46) (e0 : T0.heap = h0) (N0 : Fr n0 locs) (pre0 : Go p e below T0 (mkF m 270 (l353_3 dp1 dq2 q3 q4 dp3 dp4 zz50 dq50 da5 o6 o7 o8 o9) []) E0) (g_o6 : n0 ≤ o6) (g_o7 : n0 ≤ o7) (g_o8 : n0 ≤ o8) (g_o9 : n0 ≤ o9) (P0 : Exa Z h0 o6 cn6) (P1 : Fld Z h0 o6 cn6 "removed" "J" (.long 9223372036854775807)) (P2 : Exa Z h0 o7 cn6) (P3 : Fld Z h0 o7 cn6 "removed" "J" (.long 9223372036854775807)) (P4 : Exa Z h0 o8 cn6) (P6 : Exa Z h0 o9 cn7) (P7 : Fld Z h0 o9 cn7 "addsFirst" "Z" (.int 0)) (P8 : Fld Z h0 o9 cn7 "end" "I" (.int 0)) (P9 : Fld Z h0 o9 cn7 "first" "I" (.int 0)) (P10 : Fld Z h0 o9 cn7 "low" "I" (.int 0)) (P11 : Fld Z h0 o9 cn7 "removed" "I" (.int 0)) (P12 : Fld Z h0 o9 cn7 "slots" cn3 (.ref w1)) (bzz50 : 0 ≤ zz50.toInt ∧ zz50.toInt ≤ 1) :
    ∃ (s₂ : State) (o : Outcome), Steps p.tables e below E0 s₂ ∧ s₂.status = .running ∧ Ended s₂ below o ∧ ∃ v L, o = .returned v ∧ Q0 n0 v s₂.heap L ∧ FrameEnd s o s₂ L 24 192 := by
 obtain ⟨S_w1, A_w1⟩ := id G
 obtain ⟨_, T1, L1, X1, hQ1, st1⟩ := yv X0 hx hZ hown hby hml (y := yn3) (own_w hw 57 rfl) (w_58 hw) (own_w hw 60 rfl) (w_59 hw) (own_w hw 61 rfl) (w_33 hw) e0 P6 [] [] (rm4 l Z a0 hw [] o9 ((0 : Int32)) ((0 : Int32)) ((0 : Int32)) h0 n0 O0 g_o9 P8 P9 P11) 272 (l353_3 dp1 dq2 q3 q4 dp3 dp4 zz50 dq50 da5 o6 o7 o8 o9) rfl at_272 (lenOf pd3 rfl) 0 7 46
 obtain ⟨rfl, Nq2, e3⟩ := hQ1
 have N1 := Fr.app N0 Nq2
 obtain ⟨_, T4, L4, X4, hQ4, st4⟩ := yv X1 hx hZ hown hby hml (y := yn4) (own_w hw 62 rfl) (own_w hw 63 rfl) (own_w hw 65 rfl) (own_w hw 64 rfl) (own_w hw 66 rfl) (w_33 hw) e3 P6 [] [] (rm5 l Z a0 hw [] o9 ((0 : Int32)) h0 n0 O0 g_o9 P9) 280 (l353_3 dp1 dq2 q3 q4 dp3 dp4 zz50 dq50 da5 o6 o7 o8 o9) rfl at_280 (lenOf pd3 rfl) 0 7 46
 obtain ⟨rfl, Nq5, e6⟩ := hQ4
 have N4 := Fr.app N1 Nq5
 obtain ⟨_, T7, L7, X7, hQ7, st7⟩ := yv X4 hx hZ hown hby hml (y := yn5) (own_w hw 67 rfl) (own_w hw 68 rfl) (own_w hw 70 rfl) (own_w hw 69 rfl) (own_w hw 71 rfl) (w_33 hw) e6 P6 [] [] (rm6 l Z a0 hw [] o9 ((0 : Int32)) h0 n0 O0 g_o9 P8) 288 (l353_3 dp1 dq2 q3 q4 dp3 dp4 zz50 dq50 da5 o6 o7 o8 o9) rfl at_288 (lenOf pd3 rfl) 0 7 46
 obtain ⟨rfl, Nq8, e9⟩ := hQ7
 have N7 := Fr.app N4 Nq8
 obtain ⟨_, T10, L10, X10, hQ10, st10⟩ := yv X7 hx hZ hown hby hml (y := yn6) (own_w hw 72 rfl) (own_w hw 73 rfl) (own_w hw 75 rfl) (own_w hw 74 rfl) (own_w hw 76 rfl) (w_33 hw) e9 P6 [] [] (rm7 l Z a0 hw w1 kw1 G [] o9 h0 n0 O0 g_o9 P12) 296 (l353_3 dp1 dq2 q3 q4 dp3 dp4 zz50 dq50 da5 o6 o7 o8 o9) rfl at_296 (lenOf pd4 rfl) 0 7 46
 obtain ⟨rfl, Nq11, e12⟩ := hQ10
 have N10 := Fr.app N7 Nq11
 obtain ⟨cl13, Ar13, qa13, Sa13, Na13, Ha13, Ga13⟩ := id ((A_w1.ext O0.2))
 have pre14 : Go p e below T10 (mkF m 358 (l353_0 dp1 dq2 q3 q4 dp3 dp4 zz50 dq50 da5 o6 o7 o8 o9) []) E0 := fun t k => by
  refine pre0 _ ?_
  refine yal X0 hx hby at_270 rfl rfl ?_
  refine st1 _ ?_
  refine yfn X1 hx hby at_275 ((if0 _ _).trans (teq (own_geq (n := 0) (k := (0 : Int32)) (by decide) (by have q0 := own_sub (x := ((0 : Int32) - (0 : Int32))) (k := (0 : Int32)) (n := 0) (lo := 0) (hi := 0) (by decide) (by have q0 := own_sub (x := (0 : Int32)) (k := (0 : Int32)) (n := 0) (lo := 0) (hi := 0) (by decide) (by have q0 := (by decide : ((0 : Int32)).toInt = 0); omega) (by decide) (by decide); omega) (by decide) (by decide); omega))).2) ?_
  refine yal X1 hx hby at_278 rfl rfl ?_
  refine st4 _ ?_
  refine yfn X4 hx hby at_283 ((if0 _ _).trans (teq (by decide : (0 : Int32) = (0 : Int32))).2) ?_
  refine yal X4 hx hby at_286 rfl rfl ?_
  refine st7 _ ?_
  refine yfn X7 hx hby at_291 ((if0 _ _).trans (teq (by decide : (0 : Int32) = (0 : Int32))).2) ?_
  refine yal X7 hx hby at_294 rfl rfl ?_
  refine st10 _ ?_
  refine X10.arraylength hx (by rw [e12]; exact Ar13.1) (State.isArrayOf_alike hZ.alike Ar13.2.1) (g := (mkF m 299 (l353_3 dp1 dq2 q3 q4 dp3 dp4 zz50 dq50 da5 o6 o7 o8 o9) [(.ref w1)])) rfl rfl (hb hby at_299) _ ?_
  rw [len_of Sa13 Na13]
  refine yfn X10 hx hby at_300 ((if0 _ _).trans (teq (by decide : (0 : Int32) = (0 : Int32))).2) ?_
  refine yic X10 hx hby at_303 ?_
  refine ygo X10 hx hby 304 308 rfl at_304 (by decide) ?_
  refine yis X10 hx hby at_308 (l' := (l353_2 dp1 dq2 q3 q4 dp3 dp4 zz50 dq50 da5 o6 o7 o8 o9)) rfl ?_
  refine yil X10 hx hby at_310 rfl ?_
  refine XS.ifYes X10.here hx rfl (pc0 := 312) (pc' := 320) rfl (hb hby at_312) rfl ((if0 _ _).trans (teq (by decide : (0 : Int32) = (0 : Int32))).1) (by decide) (by decide) ?_
  refine yil X10 hx hby at_320 rfl ?_
  refine XS.ifYes X10.here hx rfl (pc0 := 322) (pc' := 329) rfl (hb hby at_322) rfl ((if0 _ _).trans (teq (by decide : (0 : Int32) = (0 : Int32))).1) (by decide) (by decide) ?_
  refine X10.ldc2Long hx hown (mvT hZ (own_w hw 0 rfl)) (g := (mkF m 329 (l353_2 dp1 dq2 q3 q4 dp3 dp4 zz50 dq50 da5 o6 o7 o8 o9) [])) rfl (hb hby at_329) _ ?_
  refine XS.lstore X10.here hx rfl (hb hby at_332) rfl (l' := (l353_1 dp1 dq2 q3 q4 dp3 dp4 zz50 dq50 da5 o6 o7 o8 o9)) rfl ?_
  refine yil X10 hx hby at_334 rfl ?_
  refine XS.ifYes X10.here hx rfl (pc0 := 336) (pc' := 344) rfl (hb hby at_336) rfl ((if0 _ _).trans (teq (by decide : (0 : Int32) = (0 : Int32))).1) (by decide) (by decide) ?_
  refine yil X10 hx hby at_344 rfl ?_
  refine XS.ifYes X10.here hx rfl (pc0 := 346) (pc' := 353) rfl (hb hby at_346) rfl ((if0 _ _).trans (teq (by decide : (0 : Int32) = (0 : Int32))).1) (by decide) (by decide) ?_
  refine X10.ldc2Long hx hown (mvT hZ (own_w hw 0 rfl)) (g := (mkF m 353 (l353_1 dp1 dq2 q3 q4 dp3 dp4 zz50 dq50 da5 o6 o7 o8 o9) [])) rfl (hb hby at_353) _ ?_
  refine XS.lstore X10.here hx rfl (hb hby at_356) rfl (l' := (l353_0 dp1 dq2 q3 q4 dp3 dp4 zz50 dq50 da5 o6 o7 o8 o9)) rfl ?_
  exact k
 exact ct5 hw w1 kw1 G o6 o7 o8 o9 ((9223372036854775807 : Int64)) ((9223372036854775807 : Int64)) zz50 dp1 dq2 q3 q4 ((0 : Int32)) ((0 : Int32)) dp3 dp4 ((0 : Int32)) ((0 : Int32)) dq50 da5 p1 q2 q3 h0 n0 O0 hx hby hml hown hret hlk hZ (X10.more (by decide) (by decide)) e12 N10 pre14 g_o6 g_o7 g_o8 g_o9 P0 P1 P2 P3 P4 P6 P7 P8 P9 P10 P11 P12 (by have q0 := bzz50; omega)
def l354_0 (dp1 : Int32) (dq2 q3 q4 : Int64) (dp3 dp4 zz51 : Int32) (dq50 : Int64) (da5 o6 : Addr) (o7 o8 o9 : Addr) : Array Slot := #[.val (.int dp1), .val (.long dq2), .second, .val (.long q3), .second, .val (.long q4), .second, .val (.int 0), .val (.int 0), .val (.int dp3), .val (.int dp4), .val (.int 0), .val (.int 0), .val (.int zz51), .val (.long dq50), .second, .val (.ref da5), .val (.ref o6), .val (.ref o7), .val (.ref o8), .val (.ref o9), .unset, .unset, .unset, .unset, .unset, .unset, .unset, .unset, .unset]
set_option maxRecDepth 65536 in
set_option maxHeartbeats 40000000 in
theorem ct3 {p : Program} {l : Launch} {e : Env} {s : State} {m : MethodId} {below : List Frame} {meth : Method} {c : Code} {E0 T0 : State} {locs : List Loc} {Z : State} {a0 : Array Value} (hw : HW a0 Z) (w1 : Addr) (kw1 : ClassId) (G : GW Z w1 kw1) (o6 o7 : Addr) (o8 o9 : Addr) (dq50 : Int64) (zz51 dp1 : Int32) (dq2 q3 q4 : Int64) (dp3 dp4 : Int32) (da5 : Addr) (p1 : Int32) (q2 : Int64) (h0 : Heap) (n0 : Nat) (O0 : Old Z n0 h0)
    (hx : p.tables.exec = Jvm.exec) (hby : c.code = code) (hml : c.maxLocals = 30) (hown : s.vm.findClass cn8 = some m.cls) (hret : meth.sig.returnType = ret) (hlk : meth.locks = false) (hZ : Z.Warmed39 s.vm)
    (X0 : Stand p l e room_1 s m #[(.int p1), (.long q2), (.long q3), (.long q4)] below meth c T0 locs 7 46) (e0 : T0.heap = h0) (N0 : Fr n0 locs) (pre0 : Go p e below T0 (mkF m 236 (l354_0 dp1 dq2 q3 q4 dp3 dp4 zz51 dq50 da5 o6 o7 o8 o9) []) E0) (g_o6 : n0 ≤ o6) (g_o7 : n0 ≤ o7) (g_o8 : n0 ≤ o8) (g_o9 : n0 ≤ o9) (P0 : Exa Z h0 o6 cn6) (P1 : Fld Z h0 o6 cn6 "removed" "J" (.long 9223372036854775807)) (P2 : Exa Z h0 o7 cn6) (P3 : Fld Z h0 o7 cn6 "removed" "J" (.long 9223372036854775807)) (P4 : Exa Z h0 o8 cn6) (P6 : Exa Z h0 o9 cn7) (P7 : Fld Z h0 o9 cn7 "addsFirst" "Z" (.int 0)) (P8 : Fld Z h0 o9 cn7 "end" "I" (.int 0)) (P9 : Fld Z h0 o9 cn7 "first" "I" (.int 0)) (P10 : Fld Z h0 o9 cn7 "low" "I" (.int 0)) (P11 : Fld Z h0 o9 cn7 "removed" "I" (.int 0)) (P12 : Fld Z h0 o9 cn7 "slots" cn3 (.ref w1)) (hC0 : ¬ (dq50 = (9223372036854775807 : Int64))) (bzz51 : 0 ≤ zz51.toInt ∧ zz51.toInt ≤ 1) :
    ∃ (s₂ : State) (o : Outcome), Steps p.tables e below E0 s₂ ∧ s₂.status = .running ∧ Ended s₂ below o ∧ ∃ v L, o = .returned v ∧ Q0 n0 v s₂.heap L ∧ FrameEnd s o s₂ L 24 192 := by
 obtain ⟨S_w1, A_w1⟩ := id G
 obtain ⟨_, T1, L1, X1, hQ1, st1⟩ := yv X0 hx hZ hown hby hml (y := yn2) (own_w hw 42 rfl) (w_43 hw) (own_w hw 45 rfl) (w_44 hw) (own_w hw 46 rfl) (w_33 hw) e0 P6 [(.long q3)] [] (rm3 l Z a0 hw w1 kw1 G [] o9 ((0 : Int32)) q3 h0 n0 O0 g_o9 P6 P7 P8 P9 P10 P11 P12) 267 (l354_0 dp1 dq2 q3 q4 dp3 dp4 zz51 dq50 da5 o6 o7 o8 o9) rfl at_267 (lenOf pd2 rfl) 0 7 46
 obtain ⟨rfl, Nq2, K3, f4, f5, f6, f7, f8, f9, f10⟩ := hQ1
 have N1 := Fr.app N0 Nq2
 have O1 := Old.keep O0 K3 (allS g_o9 all0)
 have pre11 : Go p e below T1 (mkF m 270 (l354_0 dp1 dq2 q3 q4 dp3 dp4 zz51 dq50 da5 o6 o7 o8 o9) []) E0 := fun t k => by
  refine pre0 _ ?_
  refine yil X0 hx hby at_236 rfl ?_
  refine XS.ifYes X0.here hx rfl (pc0 := 238) (pc' := 250) rfl (hb hby at_238) rfl ((if0 _ _).trans (teq (by decide : (0 : Int32) = (0 : Int32))).1) (by decide) (by decide) ?_
  refine yil X0 hx hby at_250 rfl ?_
  refine XS.ifYes X0.here hx rfl (pc0 := 252) (pc' := 264) rfl (hb hby at_252) rfl ((if0 _ _).trans (teq (by decide : (0 : Int32) = (0 : Int32))).1) (by decide) (by decide) ?_
  refine yal X0 hx hby at_264 rfl rfl ?_
  refine XS.lloadN X0.here hx rfl (hb hby at_266) rfl ?_
  refine st1 _ ?_
  exact k
 have f12 := (P0.keep K3)
 have ne13 : o6 ≠ o9 := ne_exa f12 f4 (by decide)
 have f14 := (P1.keep K3 (ninS ne13 nin0))
 have f15 := (P2.keep K3)
 have ne16 : o7 ≠ o9 := ne_exa f15 f4 (by decide)
 have f17 := (P3.keep K3 (ninS ne16 nin0))
 have f18 := (P4.keep K3)
 exact ct4 hw w1 kw1 G o6 o7 o8 o9 zz51 dp1 dq2 q3 q4 dp3 dp4 dq50 da5 p1 q2 T1.heap n0 O1 hx hby hml hown hret hlk hZ (X1.more (by decide) (by decide)) rfl N1 pre11 g_o6 g_o7 g_o8 g_o9 f12 f14 f15 f17 f18 f4 f5 f6 f7 f8 f9 f10 (by have q0 := bzz51; omega)
theorem d2_13 : decode kd2 13 = .ok (.aload_n 0, 1) := by decide +kernel
theorem d2_14 : decode kd2 14 = .ok (.getfield 13, 3) := by decide +kernel
theorem d2_17 : decode kd2 17 = .ok (.iload_n 3, 1) := by decide +kernel
theorem d2_18 : decode kd2 18 = .ok (.aaload, 1) := by decide +kernel
theorem d2_19 : decode kd2 19 = .ok (.invokevirtual 42, 3) := by decide +kernel
theorem ef17 (m : MethodId) (x0 : Addr) : entryFrame m #[(.ref x0)] 1 = mkF m 0 #[.val (.ref x0)] [] := by first | (simp [entryFrame, mkF, argsToLocals, Value.category]; done) | rfl
def Q17 (Z : State) (o1 : Addr) (q2 : Int64) (h0 : Heap) (n0 : Nat) (v : Option Value) (h : Heap) (L : List Loc) : Prop :=
  (v = some (.int 1) ∧ Fr n0 L ∧ h = h0)
set_option maxRecDepth 65536 in
set_option maxHeartbeats 40000000 in
theorem rm17 (l : Launch) (Z : State) (a0 : Array Value) (hw : HW a0 Z) (ws : List Jvm.Cond) (o1 : Addr) (q2 : Int64) (h0 : Heap) (n0 : Nat) (O0 : Old Z n0 h0) (g_o1 : n0 ≤ o1) (hp0 : q2 = (9223372036854775807 : Int64)) (P1 : Fld Z h0 o1 cn6 "removed" "J" (.long q2)) :
    MF l yn7 prog_40_method_7_code 1 (some .boolean) ws ({ frames := 0, cells := 0, slots := 0, locals := 0 } : Room) #[(.ref o1)] Z h0 (Q17 Z o1 q2 h0 n0) := by
 refine MetFree.of_bodySF (plainFor_of_name pn0) hisR ?_
 intro p e s m args below meth c s₁ Bd hml hP hK
 obtain ⟨rfl, hZ, hh⟩ := hP
 obtain ⟨hx, hby, hown, hret, hlk, X0, e0, N0⟩ := own_bd Bd hh n0
 have pre0 := own_ct s₁ (p := p) (e := e) (below := below) (ef17 m o1)
 obtain ⟨T1, X1, e1, st1⟩ := yag X0 hx hZ hown hby (own_w hw 13 rfl) e0 P1 0 #[.val (.ref o1)] [] d8_0 d8_1 rfl
 obtain ⟨fs, hr, hrun, hended, hW, hsame⟩ := X1.leave (v := some (.int 1)) (fun h => by rw [hret] at h; cases h)
 refine ⟨_, _, pre0 _ ?_, hrun, hended, _, _, rfl, ?_, ⟨_, rfl⟩, hW, hsame.mono (by decide) (by decide)⟩
 ·
  refine st1 _ ?_
  refine X1.ldc2Long hx hown (mvT hZ (own_w hw 12 rfl)) (g := (mkF m 4 #[.val (.ref o1)] [(.long q2)])) rfl (hb hby d8_4) _ ?_
  refine XS.lcmp X1.here hx rfl (hb hby d8_7) rfl ?_
  refine yfn X1 hx hby d8_8 ((if0 _ _).trans (teq ((lw_eq _ _).mpr hp0)).2) ?_
  refine yic X1 hx hby d8_11 ?_
  refine ygo X1 hx hby 12 16 rfl d8_12 (by decide) ?_
  show Steps p.tables e below (T1.setTop (mkF m 16 #[.val (.ref o1)] [(.int 1)])) _
  exact retN X1 hx (t := .boolean) hret (by simp) (hb hby d8_16) hr
 ·
  show Q17 Z o1 q2 h0 n0 _ T1.heap _
  rw [e1]
  exact ⟨rfl, N0, rfl⟩
theorem d2_22 : decode kd2 22 = .ok (.ifCond .eq 13, 3) := by decide +kernel
theorem d2_25 : decode kd2 25 = .ok (.aload_n 0, 1) := by decide +kernel
theorem d2_26 : decode kd2 26 = .ok (.getfield 13, 3) := by decide +kernel
theorem d2_29 : decode kd2 29 = .ok (.iload_n 3, 1) := by decide +kernel
theorem d2_30 : decode kd2 30 = .ok (.aaload, 1) := by decide +kernel
theorem d2_31 : decode kd2 31 = .ok (.lload_n 1, 1) := by decide +kernel
theorem d2_32 : decode kd2 32 = .ok (.invokevirtual 36, 3) := by decide +kernel
theorem d14_0 : decode kd14 0 = .ok (.aload_n 0, 1) := by decide +kernel
theorem d14_1 : decode kd14 1 = .ok (.lload_n 1, 1) := by decide +kernel
theorem d14_2 : decode kd14 2 = .ok (.putfield 13, 3) := by decide +kernel
theorem d14_5 : decode kd14 5 = .ok (.return_, 1) := by decide +kernel
theorem ef18 (m : MethodId) (x0 : Addr) (x1 : Int64) : entryFrame m #[(.ref x0), (.long x1)] 3 = mkF m 0 #[.val (.ref x0), .val (.long x1), .second] [] := by first | (simp [entryFrame, mkF, argsToLocals, Value.category]; done) | rfl
def Q18 (Z : State) (o1 : Addr) (q2 : Int64) (h0 : Heap) (n0 : Nat) (v : Option Value) (h : Heap) (L : List Loc) : Prop :=
  (v = none ∧ Fr n0 L ∧ Keep h0 h [o1] ∧ (Exa Z h o1 cn6) ∧ (Fld Z h o1 cn6 "removed" "J" (.long q2)))
set_option maxRecDepth 65536 in
set_option maxHeartbeats 40000000 in
theorem rm18 (l : Launch) (Z : State) (a0 : Array Value) (hw : HW a0 Z) (ws : List Jvm.Cond) (o1 : Addr) (q2 : Int64) (h0 : Heap) (n0 : Nat) (O0 : Old Z n0 h0) (g_o1 : n0 ≤ o1) (P0 : Exa Z h0 o1 cn6) (P1 : Fld Z h0 o1 cn6 "removed" "J" (.long 9223372036854775807)) :
    MF l yn14 prog_40_method_9_code 3 none ws ({ frames := 0, cells := 0, slots := 0, locals := 0 } : Room) #[(.ref o1), (.long q2)] Z h0 (Q18 Z o1 q2 h0 n0) := by
 refine MetFree.of_bodySF (plainFor_of_name pn0) hisR ?_
 intro p e s m args below meth c s₁ Bd hml hP hK
 obtain ⟨rfl, hZ, hh⟩ := hP
 obtain ⟨hx, hby, hown, hret, hlk, X0, e0, N0⟩ := own_bd Bd hh n0
 have pre0 := own_ct s₁ (p := p) (e := e) (below := below) (ef18 m o1 q2)
 obtain ⟨T1, h1, X1, e1, W1, st1⟩ := yp X0 hx hZ hown hby (own_w hw 13 rfl) e0 P1 P0 (w_14 hw) (own_w hw 4 rfl) (ty := .long) (v := (.long q2)) (by decide) rfl rfl 2 #[.val (.ref o1), .val (.long q2), .second] [] d14_2
 have N1 := Fr.snoc X1 N0 g_o1
 have Fw1 := P1.same W1
 obtain ⟨fs, hr, hrun, hended, hW, hsame⟩ := X1.leave (v := none) (fun _ => rfl)
 have KL : Keep h0 h1 [o1] := ((Keep.refl h0 [o1]).wr W1 (Or.inl (List.mem_of_getElem? (i := 0) rfl)))
 have f2 := (P0.wr W1)
 refine ⟨_, _, pre0 _ ?_, hrun, hended, _, _, rfl, ?_, ⟨_, rfl⟩, hW, hsame.mono (by decide) (by decide)⟩
 ·
  refine yan X0 hx hby d14_0 rfl rfl ?_
  refine XS.lloadN X0.here hx rfl (hb hby d14_1) rfl ?_
  refine st1 _ ?_
  show Steps p.tables e below (T1.setTop (mkF m 5 #[.val (.ref o1), .val (.long q2), .second] [])) _
  exact X1.returnOut hx hret (hb hby d14_5) hr
 ·
  show Q18 Z o1 q2 h0 n0 _ T1.heap _
  rw [e1]
  exact ⟨rfl, N1, KL, f2, Fw1⟩
theorem d2_35 : decode kd2 35 = .ok (.iinc 3 1, 3) := by decide +kernel
theorem d2_38 : decode kd2 38 = .ok (.goto (-33), 3) := by decide +kernel
def l375_0 (o1 : Addr) (q2 : Int64) : Array Slot := #[.val (.ref o1), .val (.long q2), .second, .val (.int 0)]
def l375_1 (o1 : Addr) (q2 : Int64) : Array Slot := #[.val (.ref o1), .val (.long q2), .second, .val (.int 1)]
theorem ef19 (m : MethodId) (x0 : Addr) (x1 : Int64) : entryFrame m #[(.ref x0), (.long x1)] 4 = mkF m 0 #[.val (.ref x0), .val (.long x1), .second, .unset] [] := by first | (simp [entryFrame, mkF, argsToLocals, Value.category]; done) | rfl
def Q19 (Z : State) (w1 : Addr) (kw1 : ClassId) (o1 o4 o6 : Addr) (kc5 : ClassId) (p3 : Int32) (q2 : Int64) (h0 : Heap) (n0 : Nat) (v : Option Value) (h : Heap) (L : List Loc) : Prop :=
  (v = none ∧ Fr n0 L ∧ Keep h0 h [o6, o1] ∧ (Exa Z h o6 cn6) ∧ (Fld Z h o6 cn6 "removed" "J" (.long q2)) ∧ (Exa Z h o1 cn7) ∧ (Fld Z h o1 cn7 "addsFirst" "Z" (.int 0)) ∧ (Fld Z h o1 cn7 "end" "I" (.int 0)) ∧ (Fld Z h o1 cn7 "first" "I" (.int 0)) ∧ (Fld Z h o1 cn7 "low" "I" (.int 0)) ∧ (Fld Z h o1 cn7 "removed" "I" (.int 0)) ∧ (Fld Z h o1 cn7 "slots" cn3 (.ref w1)))
set_option maxRecDepth 65536 in
set_option maxHeartbeats 40000000 in
theorem rm19 (l : Launch) (Z : State) (a0 : Array Value) (hw : HW a0 Z) (w1 : Addr) (kw1 : ClassId) (G : GW Z w1 kw1) (ws : List Jvm.Cond) (o1 o4 o6 : Addr) (kc5 : ClassId) (p3 : Int32) (q2 : Int64) (h0 : Heap) (n0 : Nat) (O0 : Old Z n0 h0) (g_o1 : n0 ≤ o1) (g_o4 : n0 ≤ o4) (g_o6 : n0 ≤ o6) (Ov_kc5 : Ovr Z kc5 cn6) (P0 : Exa Z h0 o1 cn7) (P1 : Fld Z h0 o1 cn7 "addsFirst" "Z" (.int p3)) (P2 : Fld Z h0 o1 cn7 "end" "I" (.int 1)) (P3 : Fld Z h0 o1 cn7 "first" "I" (.int 0)) (P4 : Fld Z h0 o1 cn7 "low" "I" (.int p3)) (P5 : Fld Z h0 o1 cn7 "removed" "I" (.int p3)) (P6 : Fld Z h0 o1 cn7 "slots" cn3 (.ref o4)) (P7 : Arv Z h0 o4 kc5 (.object cn6) (4 : Int32) [(.ref o6), .null, .null, .null] .null) (P9 : Exa Z h0 o6 cn6) (P10 : Fld Z h0 o6 cn6 "removed" "J" (.long 9223372036854775807)) :
    MF l yn2 prog_41_method_9_code 4 none ws ({ frames := 1, cells := 0, slots := 0, locals := 14 } : Room) #[(.ref o1), (.long q2)] Z h0 (Q19 Z w1 kw1 o1 o4 o6 kc5 p3 q2 h0 n0) := by
 obtain ⟨S_w1, A_w1⟩ := id G
 refine MetFree.of_bodySF (plainFor_of_name pn1) hisR ?_
 intro p e s m args below meth c s₁ Bd hml hP hK
 obtain ⟨rfl, hZ, hh⟩ := hP
 obtain ⟨hx, hby, hown, hret, hlk, X0, e0, N0⟩ := own_bd Bd hh n0
 have pre0 := own_ct s₁ (p := p) (e := e) (below := below) (ef19 m o1 q2)
 obtain ⟨T1, X1, e1, st1⟩ := yag X0 hx hZ hown hby (w_47 hw) e0 P3 0 #[.val (.ref o1), .val (.long q2), .second, .unset] [] d2_0 d2_1 rfl
 obtain ⟨T2, X2, e2, st2⟩ := yag X1 hx hZ hown hby (w_49 hw) e1 P2 6 (l375_0 o1 q2) [(.int 0)] d2_6 d2_7 rfl
 obtain ⟨T3, X3, e3, st3⟩ := yag X2 hx hZ hown hby (w_40 hw) e2 P6 13 (l375_0 o1 q2) [] d2_13 d2_14 rfl
 obtain ⟨cl4, Ar4, qa4, Sa4, Na4, Ha4, Ga4⟩ := id (P7)
 have hin4 := inb_of (j := (0 : Int32)) Sa4 ⟨by decide, by decide⟩
 have hat4 : cl4.slots[((0 : Int32)).toNatClampNeg]? = some (.ref o6) := Has.at Ha4 hin4 rfl
 obtain ⟨_, T5, L5, X5, hQ5, st5⟩ := yv X3 hx hZ hown hby hml (y := yn7) (w_113 hw) (w_82 hw) (w_84 hw) (w_83 hw) (w_85 hw) (w_5 hw) e3 P9 [] [] (rm17 l Z a0 hw [] o6 ((9223372036854775807 : Int64)) h0 n0 O0 g_o6 (by decide : (9223372036854775807 : Int64) = (9223372036854775807 : Int64)) P10) 19 (l375_0 o1 q2) rfl d2_19 (lenOf pd5 rfl) 0 0 0
 obtain ⟨rfl, Nq6, e7⟩ := hQ5
 have N5 := Fr.app N0 Nq6
 obtain ⟨T8, X8, e8, st8⟩ := yag X5 hx hZ hown hby (w_40 hw) e7 P6 25 (l375_0 o1 q2) [] d2_25 d2_26 rfl
 obtain ⟨cl9, Ar9, qa9, Sa9, Na9, Ha9, Ga9⟩ := id (P7)
 have hin9 := inb_of (j := (0 : Int32)) Sa9 ⟨by decide, by decide⟩
 have hat9 : cl9.slots[((0 : Int32)).toNatClampNeg]? = some (.ref o6) := Has.at Ha9 hin9 rfl
 obtain ⟨_, T10, L10, X10, hQ10, st10⟩ := yv X8 hx hZ hown hby hml (y := yn14) (w_114 hw) (w_115 hw) (own_w hw 117 rfl) (w_116 hw) (w_118 hw) (w_5 hw) e8 P9 [(.long q2)] [] (rm18 l Z a0 hw [] o6 q2 h0 n0 O0 g_o6 P9 P10) 32 (l375_0 o1 q2) rfl d2_32 (lenOf pd2 rfl) 0 0 0
 obtain ⟨rfl, Nq11, K12, f13, f14⟩ := hQ10
 have N10 := Fr.app N5 Nq11
 have O10 := Old.keep O0 K12 (allS g_o6 all0)
 have f15 := (P0.keep K12)
 have ne16 : o1 ≠ o6 := ne_exa f15 f13 (by decide)
 have f17 := (P2.keep K12 (ninS ne16 nin0))
 obtain ⟨T18, X18, e18, st18⟩ := yag X10 hx hZ hown hby (w_49 hw) rfl f17 6 (l375_1 o1 q2) [(.int 1)] d2_6 d2_7 rfl
 obtain ⟨T19, X19, e19, st19⟩ := getS2 X18 hx hZ hown (host := "") (Or.inl (own_w hw 38 rfl)) Via.refl e18 (S_w1.ext O10.2) (g := (mkF m 42 (l375_1 o1 q2) [(.ref o1)])) rfl (hb hby d2_42)
 have f20 := (P6.keep K12 (ninS ne16 nin0))
 obtain ⟨T21, h21, X21, e21, W21, st21⟩ := yp X19 hx hZ hown hby (w_40 hw) e19 f20 f15 (w_41 hw) (w_32 hw) (ty := (.array (.object cn6))) (v := (.ref w1)) (by decide) rfl rfl 45 (l375_1 o1 q2) [] d2_45
 have N21 := Fr.snoc X21 N10 g_o1
 have Fw21 := f20.same W21
 have f22 := ((P4.keep K12 (ninS ne16 nin0)).other W21 (Or.inr (sn47 hw)))
 have f23 := (f15.wr W21)
 obtain ⟨T24, h24, X24, e24, W24, st24⟩ := yp X21 hx hZ hown hby (w_51 hw) e21 f22 f23 (w_52 hw) (w_32 hw) (ty := .int) (v := (.int 0)) (by decide) rfl rfl 50 (l375_1 o1 q2) [] d2_50
 have N24 := Fr.snoc X24 N21 g_o1
 have Fw24 := f22.same W24
 have f25 := (((P3.keep K12 (ninS ne16 nin0)).other W21 (Or.inr (sn46 hw))).other W24 (Or.inr (sn49 hw)))
 have f26 := (f23.wr W24)
 obtain ⟨T27, h27, X27, e27, W27, st27⟩ := yp X24 hx hZ hown hby (w_47 hw) e24 f25 f26 (w_48 hw) (w_32 hw) (ty := .int) (v := (.int 0)) (by decide) rfl rfl 55 (l375_1 o1 q2) [] d2_55
 have N27 := Fr.snoc X27 N24 g_o1
 have Fw27 := f25.same W27
 have f28 := (((f17.other W21 (Or.inr (sn45 hw))).other W24 (Or.inr (sn50 hw))).other W27 (Or.inr (sn51 hw)))
 have f29 := (f26.wr W27)
 obtain ⟨T30, h30, X30, e30, W30, st30⟩ := yp X27 hx hZ hown hby (w_49 hw) e27 f28 f29 (w_50 hw) (w_32 hw) (ty := .int) (v := (.int 0)) (by decide) rfl rfl 60 (l375_1 o1 q2) [] d2_60
 have N30 := Fr.snoc X30 N27 g_o1
 have Fw30 := f28.same W30
 have f31 := (((((P5.keep K12 (ninS ne16 nin0)).other W21 (Or.inr (sn48 hw))).other W24 (Or.inr (sn52 hw))).other W27 (Or.inr (sn53 hw))).other W30 (Or.inr (sn54 hw)))
 have f32 := (f29.wr W30)
 obtain ⟨T33, h33, X33, e33, W33, st33⟩ := yp X30 hx hZ hown hby (w_53 hw) e30 f31 f32 (w_54 hw) (w_32 hw) (ty := .int) (v := (.int 0)) (by decide) rfl rfl 65 (l375_1 o1 q2) [] d2_65
 have N33 := Fr.snoc X33 N30 g_o1
 have Fw33 := f31.same W33
 have f34 := ((((((P1.keep K12 (ninS ne16 nin0)).other W21 (Or.inr (sn44 hw))).other W24 (Or.inr (sn55 hw))).other W27 (Or.inr (sn56 hw))).other W30 (Or.inr (sn57 hw))).other W33 (Or.inr (sn58 hw)))
 have f35 := (f32.wr W33)
 obtain ⟨T36, h36, X36, e36, W36, st36⟩ := putFN X33 hx hZ hown (own_w hw 55 rfl) Via.refl e33 f34 f35 (Or.inl (w_56 hw)) (w_32 hw) (ty := .boolean) (v' := (.int 0)) (by decide) rfl (by decide) (g := (mkF m 70 (l375_1 o1 q2) [(.int 0), (.ref o1)])) rfl rfl (hb hby d2_70)
 have N36 := Fr.snoc X36 N33 g_o1
 have Fw36 := f34.same W36
 obtain ⟨fs, hr, hrun, hended, hW, hsame⟩ := X36.leave (v := none) (fun _ => rfl)
 have KL : Keep h0 h36 [o6, o1] := ((((((((Keep.refl h0 [o6, o1]).trans K12 (allS (Or.inl (List.mem_of_getElem? (i := 0) rfl)) all0)).wr W21 (Or.inl (List.mem_of_getElem? (i := 1) rfl))).wr W24 (Or.inl (List.mem_of_getElem? (i := 1) rfl))).wr W27 (Or.inl (List.mem_of_getElem? (i := 1) rfl))).wr W30 (Or.inl (List.mem_of_getElem? (i := 1) rfl))).wr W33 (Or.inl (List.mem_of_getElem? (i := 1) rfl))).wr W36 (Or.inl (List.mem_of_getElem? (i := 1) rfl)))
 have f37 := ((((((f13.wr W21).wr W24).wr W27).wr W30).wr W33).wr W36)
 have f38 := ((((((f14.other W21 (Or.inl (Ne.symm ne16))).other W24 (Or.inl (Ne.symm ne16))).other W27 (Or.inl (Ne.symm ne16))).other W30 (Or.inl (Ne.symm ne16))).other W33 (Or.inl (Ne.symm ne16))).other W36 (Or.inl (Ne.symm ne16)))
 have f39 := (f35.wr W36)
 have f40 := ((Fw30.other W33 (Or.inr (sn59 hw))).other W36 (Or.inr (sn60 hw)))
 have f41 := (((Fw27.other W30 (Or.inr (sn61 hw))).other W33 (Or.inr (sn62 hw))).other W36 (Or.inr (sn63 hw)))
 have f42 := ((((Fw24.other W27 (Or.inr (sn64 hw))).other W30 (Or.inr (sn65 hw))).other W33 (Or.inr (sn66 hw))).other W36 (Or.inr (sn67 hw)))
 have f43 := (Fw33.other W36 (Or.inr (sn68 hw)))
 have f44 := (((((Fw21.other W24 (Or.inr (sn69 hw))).other W27 (Or.inr (sn70 hw))).other W30 (Or.inr (sn71 hw))).other W33 (Or.inr (sn72 hw))).other W36 (Or.inr (sn73 hw)))
 refine ⟨_, _, pre0 _ ?_, hrun, hended, _, _, rfl, ?_, ⟨_, rfl⟩, hW, hsame.mono (by decide) (by decide)⟩
 ·
  refine st1 _ ?_
  refine yit X1 hx hby d2_4 (l' := (l375_0 o1 q2)) rfl ?_
  refine yin X1 hx hby d2_5 rfl ?_
  refine st2 _ ?_
  refine yno X2 hx hby d2_10 (tlt (by decide : (0 : Int32) < (1 : Int32))).2.1 ?_
  refine st3 _ ?_
  refine yin X3 hx hby d2_17 rfl ?_
  refine X3.aaload hx (j := (0 : Int32)) (v := (.ref o6)) (by rw [e3]; exact Ar4.1) (State.isArrayOf_alike hZ.alike Ar4.2.1) rfl Ar4.2.2 hin4 hat4 (g := (mkF m 18 (l375_0 o1 q2) [(.int 0), (.ref o4)])) rfl rfl (hb hby d2_18) _ ?_
  refine st5 _ ?_
  refine yfn X5 hx hby d2_22 ((if0 _ _).trans (feq (by decide : ¬ ((1 : Int32) = (0 : Int32)))).1) ?_
  refine st8 _ ?_
  refine yin X8 hx hby d2_29 rfl ?_
  refine X8.aaload hx (j := (0 : Int32)) (v := (.ref o6)) (by rw [e8]; exact Ar9.1) (State.isArrayOf_alike hZ.alike Ar9.2.1) rfl Ar9.2.2 hin9 hat9 (g := (mkF m 30 (l375_0 o1 q2) [(.int 0), (.ref o4)])) rfl rfl (hb hby d2_30) _ ?_
  refine XS.lloadN X8.here hx rfl (hb hby d2_31) rfl ?_
  refine st10 _ ?_
  refine XS.iinc X10.here hx rfl (hb hby d2_35) rfl (l' := (l375_1 o1 q2)) rfl ?_
  refine ygo X10 hx hby 38 5 rfl d2_38 (by decide) ?_
  refine yin X10 hx hby d2_5 rfl ?_
  refine st18 _ ?_
  refine yye X18 hx hby 10 41 rfl d2_10 (flt (by decide : ¬ ((1 : Int32) < (1 : Int32)))).2.1 (by decide) ?_
  refine yan X18 hx hby d2_41 rfl rfl ?_
  refine st19 _ ?_
  refine st21 _ ?_
  refine yan X21 hx hby d2_48 rfl rfl ?_
  refine yic X21 hx hby d2_49 ?_
  refine st24 _ ?_
  refine yan X24 hx hby d2_53 rfl rfl ?_
  refine yic X24 hx hby d2_54 ?_
  refine st27 _ ?_
  refine yan X27 hx hby d2_58 rfl rfl ?_
  refine yic X27 hx hby d2_59 ?_
  refine st30 _ ?_
  refine yan X30 hx hby d2_63 rfl rfl ?_
  refine yic X30 hx hby d2_64 ?_
  refine st33 _ ?_
  show Steps p.tables e below (T33.setTop (mkF m 68 (l375_1 o1 q2) [])) _
  refine yan X33 hx hby d2_68 rfl rfl ?_
  refine yic X33 hx hby d2_69 ?_
  refine st36 _ ?_
  show Steps p.tables e below (T36.setTop (mkF m 73 (l375_1 o1 q2) [])) _
  exact X36.returnOut hx hret (hb hby d2_73) hr
 ·
  show Q19 Z w1 kw1 o1 o4 o6 kc5 p3 q2 h0 n0 _ T36.heap _
  rw [e36]
  exact ⟨rfl, N36, KL, f37, f38, f39, Fw36, f40, f41, f42, f43, f44⟩
def l376_0 (dp1 : Int32) (dq2 q3 q4 : Int64) (dp3 dp4 zz50 : Int32) (dq50 : Int64) (da5 o6 : Addr) (o7 o8 o9 : Addr) : Array Slot := #[.val (.int dp1), .val (.long dq2), .second, .val (.long q3), .second, .val (.long q4), .second, .val (.int 0), .val (.int 1), .val (.int dp3), .val (.int dp4), .val (.int 0), .val (.int 0), .val (.int zz50), .val (.long dq50), .second, .val (.ref da5), .val (.ref o6), .val (.ref o7), .val (.ref o8), .val (.ref o9), .val (.int 1), .val (.long 9223372036854775807), .second, .val (.long q3), .second, .unset, .unset, .unset, .unset]
def l376_1 (dp1 : Int32) (dq2 q3 q4 : Int64) (dp3 dp4 zz50 : Int32) (dq50 : Int64) (da5 o6 : Addr) (o7 o8 o9 : Addr) : Array Slot := #[.val (.int dp1), .val (.long dq2), .second, .val (.long q3), .second, .val (.long q4), .second, .val (.int 0), .val (.int 1), .val (.int dp3), .val (.int dp4), .val (.int 0), .val (.int 0), .val (.int zz50), .val (.long dq50), .second, .val (.ref da5), .val (.ref o6), .val (.ref o7), .val (.ref o8), .val (.ref o9), .val (.int 1), .unset, .unset, .unset, .unset, .unset, .unset, .unset, .unset]
def l376_2 (dp1 : Int32) (dq2 q3 q4 : Int64) (dp3 dp4 zz50 : Int32) (dq50 : Int64) (da5 o6 : Addr) (o7 o8 o9 : Addr) : Array Slot := #[.val (.int dp1), .val (.long dq2), .second, .val (.long q3), .second, .val (.long q4), .second, .val (.int 0), .val (.int 1), .val (.int dp3), .val (.int dp4), .val (.int 0), .val (.int 0), .val (.int zz50), .val (.long dq50), .second, .val (.ref da5), .val (.ref o6), .val (.ref o7), .val (.ref o8), .val (.ref o9), .unset, .unset, .unset, .unset, .unset, .unset, .unset, .unset, .unset]
set_option maxRecDepth 65536 in
set_option maxHeartbeats 40000000 in
theorem ct8 {p : Program} {l : Launch} {e : Env} {s : State} {m : MethodId} {below : List Frame} {meth : Method} {c : Code} {E0 T0 : State} {locs : List Loc} {Z : State} {a0 : Array Value} (hw : HW a0 Z) (w1 : Addr) (kw1 : ClassId) (G : GW Z w1 kw1) (o6 o7 : Addr) (o8 o9 : Addr) (q3 : Int64) (zz50 dp1 : Int32) (dq2 q4 : Int64) (dp3 dp4 : Int32) (dq50 : Int64) (da5 : Addr) (p1 : Int32) (q2 : Int64) (h0 : Heap) (n0 : Nat) (O0 : Old Z n0 h0)
    (hx : p.tables.exec = Jvm.exec) (hby : c.code = code) (hml : c.maxLocals = 30) (hown : s.vm.findClass cn8 = some m.cls) (hret : meth.sig.returnType = ret) (hlk : meth.locks = false) (hZ : Z.Warmed39 s.vm)
    (X0 : Stand p l e room_1 s m #[(.int p1), (.long q2), (.long q3), (.long q4)] below meth c T0 locs 7 46) (e0 : T0.heap = h0) (N0 : Fr n0 locs) (pre0 : Go p e below T0 (mkF m 270 (l376_2 dp1 dq2 q3 q4 dp3 dp4 zz50 dq50 da5 o6 o7 o8 o9) []) E0) (g_o6 : n0 ≤ o6) (g_o7 : n0 ≤ o7) (g_o8 : n0 ≤ o8) (g_o9 : n0 ≤ o9) (P0 : Exa Z h0 o6 cn6) (P1 : Fld Z h0 o6 cn6 "removed" "J" (.long 9223372036854775807)) (P2 : Exa Z h0 o7 cn6) (P3 : Fld Z h0 o7 cn6 "removed" "J" (.long q3)) (P4 : Exa Z h0 o8 cn6) (P6 : Exa Z h0 o9 cn7) (P7 : Fld Z h0 o9 cn7 "addsFirst" "Z" (.int 0)) (P8 : Fld Z h0 o9 cn7 "end" "I" (.int 0)) (P9 : Fld Z h0 o9 cn7 "first" "I" (.int 0)) (P10 : Fld Z h0 o9 cn7 "low" "I" (.int 0)) (P11 : Fld Z h0 o9 cn7 "removed" "I" (.int 0)) (P12 : Fld Z h0 o9 cn7 "slots" cn3 (.ref w1)) (bzz50 : 0 ≤ zz50.toInt ∧ zz50.toInt ≤ 1) :
    ∃ (s₂ : State) (o : Outcome), Steps p.tables e below E0 s₂ ∧ s₂.status = .running ∧ Ended s₂ below o ∧ ∃ v L, o = .returned v ∧ Q0 n0 v s₂.heap L ∧ FrameEnd s o s₂ L 24 192 := by
 obtain ⟨S_w1, A_w1⟩ := id G
 obtain ⟨_, T1, L1, X1, hQ1, st1⟩ := yv X0 hx hZ hown hby hml (y := yn3) (own_w hw 57 rfl) (w_58 hw) (own_w hw 60 rfl) (w_59 hw) (own_w hw 61 rfl) (w_33 hw) e0 P6 [] [] (rm4 l Z a0 hw [] o9 ((0 : Int32)) ((0 : Int32)) ((0 : Int32)) h0 n0 O0 g_o9 P8 P9 P11) 272 (l376_2 dp1 dq2 q3 q4 dp3 dp4 zz50 dq50 da5 o6 o7 o8 o9) rfl at_272 (lenOf pd3 rfl) 0 7 46
 obtain ⟨rfl, Nq2, e3⟩ := hQ1
 have N1 := Fr.app N0 Nq2
 obtain ⟨_, T4, L4, X4, hQ4, st4⟩ := yv X1 hx hZ hown hby hml (y := yn4) (own_w hw 62 rfl) (own_w hw 63 rfl) (own_w hw 65 rfl) (own_w hw 64 rfl) (own_w hw 66 rfl) (w_33 hw) e3 P6 [] [] (rm5 l Z a0 hw [] o9 ((0 : Int32)) h0 n0 O0 g_o9 P9) 280 (l376_2 dp1 dq2 q3 q4 dp3 dp4 zz50 dq50 da5 o6 o7 o8 o9) rfl at_280 (lenOf pd3 rfl) 0 7 46
 obtain ⟨rfl, Nq5, e6⟩ := hQ4
 have N4 := Fr.app N1 Nq5
 obtain ⟨_, T7, L7, X7, hQ7, st7⟩ := yv X4 hx hZ hown hby hml (y := yn5) (own_w hw 67 rfl) (own_w hw 68 rfl) (own_w hw 70 rfl) (own_w hw 69 rfl) (own_w hw 71 rfl) (w_33 hw) e6 P6 [] [] (rm6 l Z a0 hw [] o9 ((0 : Int32)) h0 n0 O0 g_o9 P8) 288 (l376_2 dp1 dq2 q3 q4 dp3 dp4 zz50 dq50 da5 o6 o7 o8 o9) rfl at_288 (lenOf pd3 rfl) 0 7 46
 obtain ⟨rfl, Nq8, e9⟩ := hQ7
 have N7 := Fr.app N4 Nq8
 obtain ⟨_, T10, L10, X10, hQ10, st10⟩ := yv X7 hx hZ hown hby hml (y := yn6) (own_w hw 72 rfl) (own_w hw 73 rfl) (own_w hw 75 rfl) (own_w hw 74 rfl) (own_w hw 76 rfl) (w_33 hw) e9 P6 [] [] (rm7 l Z a0 hw w1 kw1 G [] o9 h0 n0 O0 g_o9 P12) 296 (l376_2 dp1 dq2 q3 q4 dp3 dp4 zz50 dq50 da5 o6 o7 o8 o9) rfl at_296 (lenOf pd4 rfl) 0 7 46
 obtain ⟨rfl, Nq11, e12⟩ := hQ10
 have N10 := Fr.app N7 Nq11
 obtain ⟨cl13, Ar13, qa13, Sa13, Na13, Ha13, Ga13⟩ := id ((A_w1.ext O0.2))
 have pre14 : Go p e below T10 (mkF m 358 (l376_0 dp1 dq2 q3 q4 dp3 dp4 zz50 dq50 da5 o6 o7 o8 o9) []) E0 := fun t k => by
  refine pre0 _ ?_
  refine yal X0 hx hby at_270 rfl rfl ?_
  refine st1 _ ?_
  refine yfn X1 hx hby at_275 ((if0 _ _).trans (teq (own_geq (n := 0) (k := (0 : Int32)) (by decide) (by have q0 := own_sub (x := ((0 : Int32) - (0 : Int32))) (k := (0 : Int32)) (n := 0) (lo := 0) (hi := 0) (by decide) (by have q0 := own_sub (x := (0 : Int32)) (k := (0 : Int32)) (n := 0) (lo := 0) (hi := 0) (by decide) (by have q0 := (by decide : ((0 : Int32)).toInt = 0); omega) (by decide) (by decide); omega) (by decide) (by decide); omega))).2) ?_
  refine yal X1 hx hby at_278 rfl rfl ?_
  refine st4 _ ?_
  refine yfn X4 hx hby at_283 ((if0 _ _).trans (teq (by decide : (0 : Int32) = (0 : Int32))).2) ?_
  refine yal X4 hx hby at_286 rfl rfl ?_
  refine st7 _ ?_
  refine yfn X7 hx hby at_291 ((if0 _ _).trans (teq (by decide : (0 : Int32) = (0 : Int32))).2) ?_
  refine yal X7 hx hby at_294 rfl rfl ?_
  refine st10 _ ?_
  refine X10.arraylength hx (by rw [e12]; exact Ar13.1) (State.isArrayOf_alike hZ.alike Ar13.2.1) (g := (mkF m 299 (l376_2 dp1 dq2 q3 q4 dp3 dp4 zz50 dq50 da5 o6 o7 o8 o9) [(.ref w1)])) rfl rfl (hb hby at_299) _ ?_
  rw [len_of Sa13 Na13]
  refine yfn X10 hx hby at_300 ((if0 _ _).trans (teq (by decide : (0 : Int32) = (0 : Int32))).2) ?_
  refine yic X10 hx hby at_303 ?_
  refine ygo X10 hx hby 304 308 rfl at_304 (by decide) ?_
  refine yis X10 hx hby at_308 (l' := (l376_1 dp1 dq2 q3 q4 dp3 dp4 zz50 dq50 da5 o6 o7 o8 o9)) rfl ?_
  refine yil X10 hx hby at_310 rfl ?_
  refine XS.ifYes X10.here hx rfl (pc0 := 312) (pc' := 320) rfl (hb hby at_312) rfl ((if0 _ _).trans (teq (by decide : (0 : Int32) = (0 : Int32))).1) (by decide) (by decide) ?_
  refine yil X10 hx hby at_320 rfl ?_
  refine XS.ifYes X10.here hx rfl (pc0 := 322) (pc' := 329) rfl (hb hby at_322) rfl ((if0 _ _).trans (teq (by decide : (0 : Int32) = (0 : Int32))).1) (by decide) (by decide) ?_
  refine X10.ldc2Long hx hown (mvT hZ (own_w hw 0 rfl)) (g := (mkF m 329 (l376_1 dp1 dq2 q3 q4 dp3 dp4 zz50 dq50 da5 o6 o7 o8 o9) [])) rfl (hb hby at_329) _ ?_
  refine XS.lstore X10.here hx rfl (hb hby at_332) rfl (l' := #[.val (.int dp1), .val (.long dq2), .second, .val (.long q3), .second, .val (.long q4), .second, .val (.int 0), .val (.int 1), .val (.int dp3), .val (.int dp4), .val (.int 0), .val (.int 0), .val (.int zz50), .val (.long dq50), .second, .val (.ref da5), .val (.ref o6), .val (.ref o7), .val (.ref o8), .val (.ref o9), .val (.int 1), .val (.long 9223372036854775807), .second, .unset, .unset, .unset, .unset, .unset, .unset]) rfl ?_
  refine yil X10 hx hby at_334 rfl ?_
  refine XS.ifYes X10.here hx rfl (pc0 := 336) (pc' := 344) rfl (hb hby at_336) rfl ((if0 _ _).trans (teq (by decide : (0 : Int32) = (0 : Int32))).1) (by decide) (by decide) ?_
  refine yil X10 hx hby at_344 rfl ?_
  refine yfn X10 hx hby at_346 ((if0 _ _).trans (feq (by decide : ¬ ((1 : Int32) = (0 : Int32)))).1) ?_
  refine XS.lloadN X10.here hx rfl (hb hby at_349) rfl ?_
  refine ygo X10 hx hby 350 356 rfl at_350 (by decide) ?_
  refine XS.lstore X10.here hx rfl (hb hby at_356) rfl (l' := (l376_0 dp1 dq2 q3 q4 dp3 dp4 zz50 dq50 da5 o6 o7 o8 o9)) rfl ?_
  exact k
 exact ct5 hw w1 kw1 G o6 o7 o8 o9 ((9223372036854775807 : Int64)) q3 zz50 dp1 dq2 q3 q4 ((0 : Int32)) ((1 : Int32)) dp3 dp4 ((0 : Int32)) ((0 : Int32)) dq50 da5 p1 q2 q3 h0 n0 O0 hx hby hml hown hret hlk hZ (X10.more (by decide) (by decide)) e12 N10 pre14 g_o6 g_o7 g_o8 g_o9 P0 P1 P2 P3 P4 P6 P7 P8 P9 P10 P11 P12 (by have q0 := bzz50; omega)
theorem d15_0 : decode kd15 0 = .ok (.aload_n 1, 1) := by decide +kernel
theorem d15_1 : decode kd15 1 = .ok (.lload_n 2, 1) := by decide +kernel
theorem d15_2 : decode kd15 2 = .ok (.invokevirtual 36, 3) := by decide +kernel
theorem ef20 (m : MethodId) (x0 : Addr) (x1 : Int64) : entryFrame m #[(.ref x0), (.long x1)] 3 = mkF m 0 #[.val (.ref x0), .val (.long x1), .second] [] := by first | (simp [entryFrame, mkF, argsToLocals, Value.category]; done) | rfl
def Q20 (Z : State) (o1 : Addr) (q2 : Int64) (h0 : Heap) (n0 : Nat) (v : Option Value) (h : Heap) (L : List Loc) : Prop :=
  (v = none ∧ Fr n0 L ∧ Keep h0 h [o1] ∧ (Exa Z h o1 cn6) ∧ (Fld Z h o1 cn6 "removed" "J" (.long q2)))
set_option maxRecDepth 65536 in
set_option maxHeartbeats 40000000 in
theorem rm20 (l : Launch) (Z : State) (a0 : Array Value) (hw : HW a0 Z) (ws : List Jvm.Cond) (o1 : Addr) (q2 : Int64) (h0 : Heap) (n0 : Nat) (O0 : Old Z n0 h0) (g_o1 : n0 ≤ o1) (hp0 : ¬ (q2 = (9223372036854775807 : Int64))) (P0 : Exa Z h0 o1 cn6) (P1 : Fld Z h0 o1 cn6 "removed" "J" (.long 9223372036854775807)) :
    MF l yn14 prog_40_method_9_code 3 none ws ({ frames := 0, cells := 0, slots := 0, locals := 0 } : Room) #[(.ref o1), (.long q2)] Z h0 (Q20 Z o1 q2 h0 n0) := by
 refine MetFree.of_bodySF (plainFor_of_name pn0) hisR ?_
 intro p e s m args below meth c s₁ Bd hml hP hK
 obtain ⟨rfl, hZ, hh⟩ := hP
 obtain ⟨hx, hby, hown, hret, hlk, X0, e0, N0⟩ := own_bd Bd hh n0
 have pre0 := own_ct s₁ (p := p) (e := e) (below := below) (ef20 m o1 q2)
 obtain ⟨T1, h1, X1, e1, W1, st1⟩ := yp X0 hx hZ hown hby (own_w hw 13 rfl) e0 P1 P0 (w_14 hw) (own_w hw 4 rfl) (ty := .long) (v := (.long q2)) (by decide) rfl rfl 2 #[.val (.ref o1), .val (.long q2), .second] [] d14_2
 have N1 := Fr.snoc X1 N0 g_o1
 have Fw1 := P1.same W1
 obtain ⟨fs, hr, hrun, hended, hW, hsame⟩ := X1.leave (v := none) (fun _ => rfl)
 have KL : Keep h0 h1 [o1] := ((Keep.refl h0 [o1]).wr W1 (Or.inl (List.mem_of_getElem? (i := 0) rfl)))
 have f2 := (P0.wr W1)
 refine ⟨_, _, pre0 _ ?_, hrun, hended, _, _, rfl, ?_, ⟨_, rfl⟩, hW, hsame.mono (by decide) (by decide)⟩
 ·
  refine yan X0 hx hby d14_0 rfl rfl ?_
  refine XS.lloadN X0.here hx rfl (hb hby d14_1) rfl ?_
  refine st1 _ ?_
  show Steps p.tables e below (T1.setTop (mkF m 5 #[.val (.ref o1), .val (.long q2), .second] [])) _
  exact X1.returnOut hx hret (hb hby d14_5) hr
 ·
  show Q20 Z o1 q2 h0 n0 _ T1.heap _
  rw [e1]
  exact ⟨rfl, N1, KL, f2, Fw1⟩
theorem d15_5 : decode kd15 5 = .ok (.aload_n 0, 1) := by decide +kernel
theorem d15_6 : decode kd15 6 = .ok (.dup, 1) := by decide +kernel
theorem d15_7 : decode kd15 7 = .ok (.getfield 23, 3) := by decide +kernel
theorem d15_10 : decode kd15 10 = .ok (.iconst 1, 1) := by decide +kernel
theorem d15_11 : decode kd15 11 = .ok (.iadd, 1) := by decide +kernel
theorem d15_12 : decode kd15 12 = .ok (.putfield 23, 3) := by decide +kernel
theorem d15_15 : decode kd15 15 = .ok (.aload_n 0, 1) := by decide +kernel
theorem d15_16 : decode kd15 16 = .ok (.getfield 16, 3) := by decide +kernel
theorem d15_19 : decode kd15 19 = .ok (.aload_n 0, 1) := by decide +kernel
theorem d15_20 : decode kd15 20 = .ok (.getfield 20, 3) := by decide +kernel
theorem d15_23 : decode kd15 23 = .ok (.if_icmp .ge 41, 3) := by decide +kernel
theorem d15_26 : decode kd15 26 = .ok (.aload_n 0, 1) := by decide +kernel
theorem d15_27 : decode kd15 27 = .ok (.getfield 13, 3) := by decide +kernel
theorem d15_30 : decode kd15 30 = .ok (.aload_n 0, 1) := by decide +kernel
theorem d15_31 : decode kd15 31 = .ok (.getfield 16, 3) := by decide +kernel
theorem d15_34 : decode kd15 34 = .ok (.aaload, 1) := by decide +kernel
theorem d15_35 : decode kd15 35 = .ok (.invokevirtual 42, 3) := by decide +kernel
theorem ef21 (m : MethodId) (x0 : Addr) : entryFrame m #[(.ref x0)] 1 = mkF m 0 #[.val (.ref x0)] [] := by first | (simp [entryFrame, mkF, argsToLocals, Value.category]; done) | rfl
def Q21 (Z : State) (o1 : Addr) (q2 : Int64) (h0 : Heap) (n0 : Nat) (v : Option Value) (h : Heap) (L : List Loc) : Prop :=
  (v = some (.int 0) ∧ Fr n0 L ∧ h = h0)
set_option maxRecDepth 65536 in
set_option maxHeartbeats 40000000 in
theorem rm21 (l : Launch) (Z : State) (a0 : Array Value) (hw : HW a0 Z) (ws : List Jvm.Cond) (o1 : Addr) (q2 : Int64) (h0 : Heap) (n0 : Nat) (O0 : Old Z n0 h0) (g_o1 : n0 ≤ o1) (hp0 : ¬ (q2 = (9223372036854775807 : Int64))) (P1 : Fld Z h0 o1 cn6 "removed" "J" (.long q2)) :
    MF l yn7 prog_40_method_7_code 1 (some .boolean) ws ({ frames := 0, cells := 0, slots := 0, locals := 0 } : Room) #[(.ref o1)] Z h0 (Q21 Z o1 q2 h0 n0) := by
 refine MetFree.of_bodySF (plainFor_of_name pn0) hisR ?_
 intro p e s m args below meth c s₁ Bd hml hP hK
 obtain ⟨rfl, hZ, hh⟩ := hP
 obtain ⟨hx, hby, hown, hret, hlk, X0, e0, N0⟩ := own_bd Bd hh n0
 have pre0 := own_ct s₁ (p := p) (e := e) (below := below) (ef21 m o1)
 obtain ⟨T1, X1, e1, st1⟩ := yag X0 hx hZ hown hby (own_w hw 13 rfl) e0 P1 0 #[.val (.ref o1)] [] d8_0 d8_1 rfl
 obtain ⟨fs, hr, hrun, hended, hW, hsame⟩ := X1.leave (v := some (.int 0)) (fun h => by rw [hret] at h; cases h)
 refine ⟨_, _, pre0 _ ?_, hrun, hended, _, _, rfl, ?_, ⟨_, rfl⟩, hW, hsame.mono (by decide) (by decide)⟩
 ·
  refine st1 _ ?_
  refine X1.ldc2Long hx hown (mvT hZ (own_w hw 12 rfl)) (g := (mkF m 4 #[.val (.ref o1)] [(.long q2)])) rfl (hb hby d8_4) _ ?_
  refine XS.lcmp X1.here hx rfl (hb hby d8_7) rfl ?_
  refine XS.ifYes X1.here hx rfl (pc0 := 8) (pc' := 15) rfl (hb hby d8_8) rfl ((if0 _ _).trans (feq (fun q => hp0 ((lw_eq _ _).mp q))).2) (by decide) (by decide) ?_
  refine yic X1 hx hby d8_15 ?_
  show Steps p.tables e below (T1.setTop (mkF m 16 #[.val (.ref o1)] [(.int 0)])) _
  exact retN X1 hx (t := .boolean) hret (by simp) (hb hby d8_16) hr
 ·
  show Q21 Z o1 q2 h0 n0 _ T1.heap _
  rw [e1]
  exact ⟨rfl, N0, rfl⟩
theorem d15_38 : decode kd15 38 = .ok (.ifCond .ne 26, 3) := by decide +kernel
theorem d15_41 : decode kd15 41 = .ok (.aload_n 0, 1) := by decide +kernel
theorem d15_42 : decode kd15 42 = .ok (.dup, 1) := by decide +kernel
theorem d15_43 : decode kd15 43 = .ok (.getfield 16, 3) := by decide +kernel
theorem d15_46 : decode kd15 46 = .ok (.iconst 1, 1) := by decide +kernel
theorem d15_47 : decode kd15 47 = .ok (.iadd, 1) := by decide +kernel
theorem d15_48 : decode kd15 48 = .ok (.putfield 16, 3) := by decide +kernel
theorem d15_51 : decode kd15 51 = .ok (.aload_n 0, 1) := by decide +kernel
theorem d15_52 : decode kd15 52 = .ok (.dup, 1) := by decide +kernel
theorem d15_53 : decode kd15 53 = .ok (.getfield 23, 3) := by decide +kernel
theorem d15_56 : decode kd15 56 = .ok (.iconst 1, 1) := by decide +kernel
theorem d15_57 : decode kd15 57 = .ok (.isub, 1) := by decide +kernel
theorem d15_58 : decode kd15 58 = .ok (.putfield 23, 3) := by decide +kernel
theorem d15_61 : decode kd15 61 = .ok (.goto (-46), 3) := by decide +kernel
theorem d15_64 : decode kd15 64 = .ok (.aload_n 0, 1) := by decide +kernel
theorem d15_65 : decode kd15 65 = .ok (.getfield 16, 3) := by decide +kernel
theorem d15_68 : decode kd15 68 = .ok (.aload_n 0, 1) := by decide +kernel
theorem d15_69 : decode kd15 69 = .ok (.getfield 33, 3) := by decide +kernel
theorem d15_72 : decode kd15 72 = .ok (.isub, 1) := by decide +kernel
theorem d15_73 : decode kd15 73 = .ok (.aload_n 0, 1) := by decide +kernel
theorem d15_74 : decode kd15 74 = .ok (.getfield 23, 3) := by decide +kernel
theorem d15_77 : decode kd15 77 = .ok (.iadd, 1) := by decide +kernel
theorem d15_78 : decode kd15 78 = .ok (.aload_n 0, 1) := by decide +kernel
theorem d15_79 : decode kd15 79 = .ok (.invokevirtual 46, 3) := by decide +kernel
theorem d15_82 : decode kd15 82 = .ok (.iconst 4, 1) := by decide +kernel
theorem d15_83 : decode kd15 83 = .ok (.invokestatic 50, 3) := by decide +kernel
theorem d15_86 : decode kd15 86 = .ok (.if_icmp .le 7, 3) := by decide +kernel
theorem d15_93 : decode kd15 93 = .ok (.return_, 1) := by decide +kernel
def l427_0 (o1 o2 : Addr) (q3 : Int64) : Array Slot := #[.val (.ref o1), .val (.ref o2), .val (.long q3), .second]
theorem ef22 (m : MethodId) (x0 x1 : Addr) (x2 : Int64) : entryFrame m #[(.ref x0), (.ref x1), (.long x2)] 4 = mkF m 0 #[.val (.ref x0), .val (.ref x1), .val (.long x2), .second] [] := by first | (simp [entryFrame, mkF, argsToLocals, Value.category]; done) | rfl
def Q22 (Z : State) (o1 o2 o4 : Addr) (kc5 : ClassId) (q3 : Int64) (h0 : Heap) (n0 : Nat) (v : Option Value) (h : Heap) (L : List Loc) : Prop :=
  (v = none ∧ Fr n0 L ∧ Keep h0 h [o2, o1] ∧ (Exa Z h o2 cn6) ∧ (Fld Z h o2 cn6 "removed" "J" (.long q3)) ∧ (Exa Z h o1 cn7) ∧ (Fld Z h o1 cn7 "addsFirst" "Z" (.int 0)) ∧ (Fld Z h o1 cn7 "end" "I" (.int 1)) ∧ (Fld Z h o1 cn7 "first" "I" (.int 1)) ∧ (Fld Z h o1 cn7 "low" "I" (.int 0)) ∧ (Fld Z h o1 cn7 "removed" "I" (.int 0)) ∧ (Fld Z h o1 cn7 "slots" cn3 (.ref o4)))
set_option maxRecDepth 65536 in
set_option maxHeartbeats 40000000 in
theorem rm22 (l : Launch) (Z : State) (a0 : Array Value) (hw : HW a0 Z) (ws : List Jvm.Cond) (o1 o2 o4 : Addr) (kc5 : ClassId) (q3 : Int64) (h0 : Heap) (n0 : Nat) (O0 : Old Z n0 h0) (g_o1 : n0 ≤ o1) (g_o2 : n0 ≤ o2) (g_o4 : n0 ≤ o4) (Ov_kc5 : Ovr Z kc5 cn6) (hp0 : ¬ (q3 = (9223372036854775807 : Int64))) (P0 : Exa Z h0 o1 cn7) (P1 : Fld Z h0 o1 cn7 "addsFirst" "Z" (.int 0)) (P2 : Fld Z h0 o1 cn7 "end" "I" (.int 1)) (P3 : Fld Z h0 o1 cn7 "first" "I" (.int 0)) (P4 : Fld Z h0 o1 cn7 "low" "I" (.int 0)) (P5 : Fld Z h0 o1 cn7 "removed" "I" (.int 0)) (P6 : Fld Z h0 o1 cn7 "slots" cn3 (.ref o4)) (P7 : Exa Z h0 o2 cn6) (P8 : Fld Z h0 o2 cn6 "removed" "J" (.long 9223372036854775807)) (P9 : Arv Z h0 o4 kc5 (.object cn6) (4 : Int32) [(.ref o2), .null, .null, .null] .null) (P10 : Exa Z h0 o4 cn3) :
    MF l yn15 prog_41_method_8_code 4 none ws ({ frames := 1, cells := 0, slots := 0, locals := 14 } : Room) #[(.ref o1), (.ref o2), (.long q3)] Z h0 (Q22 Z o1 o2 o4 kc5 q3 h0 n0) := by
 refine MetFree.of_bodySF (plainFor_of_name pn1) hisR ?_
 intro p e s m args below meth c s₁ Bd hml hP hK
 obtain ⟨rfl, hZ, hh⟩ := hP
 obtain ⟨hx, hby, hown, hret, hlk, X0, e0, N0⟩ := own_bd Bd hh n0
 have pre0 := own_ct s₁ (p := p) (e := e) (below := below) (ef22 m o1 o2 q3)
 revert pre0
 generalize s₁.setTop (entryFrame m #[(.ref o1), (.ref o2), (.long q3)] 4) = E0
 intro pre0
 obtain ⟨_, T1, L1, X1, hQ1, st1⟩ := yv X0 hx hZ hown hby hml (y := yn14) (w_114 hw) (w_115 hw) (own_w hw 117 rfl) (w_116 hw) (w_118 hw) (w_5 hw) e0 P7 [(.long q3)] [] (rm20 l Z a0 hw [] o2 q3 h0 n0 O0 g_o2 hp0 P7 P8) 2 (l427_0 o1 o2 q3) rfl d15_2 (lenOf pd2 rfl) 0 0 0
 obtain ⟨rfl, Nq2, K3, f4, f5⟩ := hQ1
 have N1 := Fr.app N0 Nq2
 have O1 := Old.keep O0 K3 (allS g_o2 all0)
 have f6 := (P0.keep K3)
 have ne7 : o1 ≠ o2 := ne_exa f6 f4 (by decide)
 have f8 := (P5.keep K3 (ninS ne7 nin0))
 obtain ⟨T9, X9, e9, st9⟩ := yg X1 hx hZ hown hby (w_53 hw) rfl f8 7 (l427_0 o1 o2 q3) [(.ref o1)] d15_7
 obtain ⟨T10, h10, X10, e10, W10, st10⟩ := yp X9 hx hZ hown hby (w_53 hw) e9 f8 f6 (w_54 hw) (w_32 hw) (ty := .int) (v := (.int 1)) (by decide) rfl rfl 12 (l427_0 o1 o2 q3) [] d15_12
 have N10 := Fr.snoc X10 N1 g_o1
 have Fw10 := f8.same W10
 have O10 := Old.wr O1 W10 g_o1
 have f11 := ((P3.keep K3 (ninS ne7 nin0)).other W10 (Or.inr (sn62 hw)))
 obtain ⟨T12, X12, e12, st12⟩ := yag X10 hx hZ hown hby (w_47 hw) e10 f11 15 (l427_0 o1 o2 q3) [] d15_15 d15_16 rfl
 have f13 := ((P2.keep K3 (ninS ne7 nin0)).other W10 (Or.inr (sn59 hw)))
 obtain ⟨T14, X14, e14, st14⟩ := yag X12 hx hZ hown hby (w_49 hw) e12 f13 19 (l427_0 o1 o2 q3) [(.int 0)] d15_19 d15_20 rfl
 have f15 := ((P6.keep K3 (ninS ne7 nin0)).other W10 (Or.inr (sn72 hw)))
 obtain ⟨T16, X16, e16, st16⟩ := yag X14 hx hZ hown hby (w_40 hw) e14 f15 26 (l427_0 o1 o2 q3) [] d15_26 d15_27 rfl
 obtain ⟨T17, X17, e17, st17⟩ := yag X16 hx hZ hown hby (w_47 hw) e16 f11 30 (l427_0 o1 o2 q3) [(.ref o4)] d15_30 d15_31 rfl
 have f18 := ((P10.keep K3).wr W10)
 have f19 := (f4.wr W10)
 have ne20 : o4 ≠ o2 := ne_exa f18 f19 (by decide)
 have f21 := (f6.wr W10)
 have ne22 : o4 ≠ o1 := ne_exa f18 f21 (by decide)
 have f23 := ((P9.keep K3 (ninS ne20 nin0)).other W10 ne22)
 obtain ⟨cl24, Ar24, qa24, Sa24, Na24, Ha24, Ga24⟩ := id (f23)
 have hin24 := inb_of (j := (0 : Int32)) Sa24 ⟨by decide, by decide⟩
 have hat24 : cl24.slots[((0 : Int32)).toNatClampNeg]? = some (.ref o2) := Has.at Ha24 hin24 rfl
 have f25 := (f5.other W10 (Or.inl (Ne.symm ne7)))
 obtain ⟨_, T26, L26, X26, hQ26, st26⟩ := yv X17 hx hZ hown hby hml (y := yn7) (w_113 hw) (w_82 hw) (w_84 hw) (w_83 hw) (w_85 hw) (w_5 hw) e17 f19 [] [] (rm21 l Z a0 hw [] o2 q3 h10 n0 O10 g_o2 hp0 f25) 35 (l427_0 o1 o2 q3) rfl d15_35 (lenOf pd5 rfl) 0 0 0
 obtain ⟨rfl, Nq27, e28⟩ := hQ26
 have N26 := Fr.app N10 Nq27
 obtain ⟨T29, X29, e29, st29⟩ := yg X26 hx hZ hown hby (w_47 hw) e28 f11 43 (l427_0 o1 o2 q3) [(.ref o1)] d15_43
 obtain ⟨T30, h30, X30, e30, W30, st30⟩ := yp X29 hx hZ hown hby (w_47 hw) e29 f11 f21 (w_48 hw) (w_32 hw) (ty := .int) (v := (.int 1)) (by decide) rfl rfl 48 (l427_0 o1 o2 q3) [] d15_48
 have N30 := Fr.snoc X30 N26 g_o1
 have Fw30 := f11.same W30
 have O30 := Old.wr O10 W30 g_o1
 have f31 := (Fw10.other W30 (Or.inr (sn53 hw)))
 obtain ⟨T32, X32, e32, st32⟩ := yg X30 hx hZ hown hby (w_53 hw) e30 f31 53 (l427_0 o1 o2 q3) [(.ref o1)] d15_53
 have f33 := (f21.wr W30)
 obtain ⟨T34, h34, X34, e34, W34, st34⟩ := yp X32 hx hZ hown hby (w_53 hw) e32 f31 f33 (w_54 hw) (w_32 hw) (ty := .int) (v := (.int 0)) (by decide) rfl rfl 58 (l427_0 o1 o2 q3) [] d15_58
 have N34 := Fr.snoc X34 N30 g_o1
 have Fw34 := f31.same W34
 have O34 := Old.wr O30 W34 g_o1
 have f35 := (Fw30.other W34 (Or.inr (sn62 hw)))
 obtain ⟨T36, X36, e36, st36⟩ := yag X34 hx hZ hown hby (w_47 hw) e34 f35 15 (l427_0 o1 o2 q3) [] d15_15 d15_16 rfl
 have f37 := ((f13.other W30 (Or.inr (sn51 hw))).other W34 (Or.inr (sn59 hw)))
 obtain ⟨T38, X38, e38, st38⟩ := yag X36 hx hZ hown hby (w_49 hw) e36 f37 19 (l427_0 o1 o2 q3) [(.int 1)] d15_19 d15_20 rfl
 obtain ⟨T39, X39, e39, st39⟩ := yag X38 hx hZ hown hby (w_47 hw) e38 f35 64 (l427_0 o1 o2 q3) [] d15_64 d15_65 rfl
 have f40 := ((((P4.keep K3 (ninS ne7 nin0)).other W10 (Or.inr (sn66 hw))).other W30 (Or.inr (sn64 hw))).other W34 (Or.inr (sn66 hw)))
 obtain ⟨T41, X41, e41, st41⟩ := yag X39 hx hZ hown hby (w_51 hw) e39 f40 68 (l427_0 o1 o2 q3) [(.int 1)] d15_68 d15_69 rfl
 obtain ⟨T42, X42, e42, st42⟩ := yag X41 hx hZ hown hby (w_53 hw) e41 Fw34 73 (l427_0 o1 o2 q3) [(.int 1)] d15_73 d15_74 rfl
 have f43 := (f33.wr W34)
 obtain ⟨_, T44, L44, X44, hQ44, st44⟩ := yv X42 hx hZ hown hby hml (y := yn3) (own_w hw 100 rfl) (w_58 hw) (own_w hw 60 rfl) (w_59 hw) (own_w hw 61 rfl) (w_33 hw) e42 f43 [] [(.int 1)] (rm4 l Z a0 hw [] o1 ((1 : Int32)) ((1 : Int32)) ((0 : Int32)) h34 n0 O34 g_o1 f37 f35 Fw34) 79 (l427_0 o1 o2 q3) rfl d15_79 (lenOf pd3 rfl) 1 0 0
 obtain ⟨rfl, Nq45, e46⟩ := hQ44
 have N44 := Fr.app N34 Nq45
 obtain ⟨_, T47, L47, X47, hQ47, st47⟩ := own_cs X44 hx hZ hown (y := yn10) (own_w hw 101 rfl) (own_w hw 102 rfl) (own_w hw 104 rfl) (w_103 hw) e46 (argsL := [(.int (((1 : Int32) - (1 : Int32)) - (0 : Int32))), (.int 4)]) (rest := [(.int 1)]) (rm11 l Z a0 hw [] ((((1 : Int32) - (1 : Int32)) - (0 : Int32))) ((4 : Int32)) h34 n0 O34 ) (g := (mkF m 83 (l427_0 o1 o2 q3) [(.int 4), (.int (((1 : Int32) - (1 : Int32)) - (0 : Int32))), (.int 1)])) rfl (by rw [hml]; rfl) rfl (hb hby d15_83) (lenOf pd8 rfl) (W := 1) (c1 := 0) (s1 := 0)
 have pre48 : Go p e below T44 (mkF m 83 (l427_0 o1 o2 q3) [(.int 4), (.int (((1 : Int32) - (1 : Int32)) - (0 : Int32))), (.int 1)]) E0 := fun t k => by
  refine pre0 _ ?_
  refine yan X0 hx hby d15_0 rfl rfl ?_
  refine XS.lloadN X0.here hx rfl (hb hby d15_1) rfl ?_
  refine st1 _ ?_
  refine yan X1 hx hby d15_5 rfl rfl ?_
  refine XS.dup X1.here hx rfl (hb hby d15_6) rfl rfl ?_
  refine st9 _ ?_
  refine yic X9 hx hby d15_10 ?_
  refine yad X9 hx hby d15_11 ?_
  refine st10 _ ?_
  refine st12 _ ?_
  refine st14 _ ?_
  refine yno X14 hx hby d15_23 (tlt (by decide : (0 : Int32) < (1 : Int32))).2.1 ?_
  refine st16 _ ?_
  refine st17 _ ?_
  refine X17.aaload hx (j := (0 : Int32)) (v := (.ref o2)) (by rw [e17]; exact Ar24.1) (State.isArrayOf_alike hZ.alike Ar24.2.1) rfl Ar24.2.2 hin24 hat24 (g := (mkF m 34 (l427_0 o1 o2 q3) [(.int 0), (.ref o4)])) rfl rfl (hb hby d15_34) _ ?_
  refine st26 _ ?_
  refine yfn X26 hx hby d15_38 ((if0 _ _).trans (teq (by decide : (0 : Int32) = (0 : Int32))).2) ?_
  refine yan X26 hx hby d15_41 rfl rfl ?_
  refine XS.dup X26.here hx rfl (hb hby d15_42) rfl rfl ?_
  refine st29 _ ?_
  refine yic X29 hx hby d15_46 ?_
  refine yad X29 hx hby d15_47 ?_
  refine st30 _ ?_
  refine yan X30 hx hby d15_51 rfl rfl ?_
  refine XS.dup X30.here hx rfl (hb hby d15_52) rfl rfl ?_
  refine st32 _ ?_
  refine yic X32 hx hby d15_56 ?_
  refine ysu X32 hx hby d15_57 ?_
  refine st34 _ ?_
  refine ygo X34 hx hby 61 15 rfl d15_61 (by decide) ?_
  refine st36 _ ?_
  refine st38 _ ?_
  refine yye X38 hx hby 23 64 rfl d15_23 (flt (by decide : ¬ ((1 : Int32) < (1 : Int32)))).2.1 (by decide) ?_
  show Steps p.tables e below (T38.setTop (mkF m 64 (l427_0 o1 o2 q3) [])) _
  refine st39 _ ?_
  refine st41 _ ?_
  refine ysu X41 hx hby d15_72 ?_
  refine st42 _ ?_
  refine yad X42 hx hby d15_77 ?_
  refine yan X42 hx hby d15_78 rfl rfl ?_
  refine st44 _ ?_
  refine yic X44 hx hby d15_82 ?_
  exact k
 rcases hQ47 with ⟨hc49, rfl, Nq50, e51⟩ | ⟨hc52, rfl, Nq53, e54⟩
 ·
  have N47 := Fr.app N44 Nq50
  obtain ⟨fs, hr, hrun, hended, hW, hsame⟩ := X47.leave (v := none) (fun _ => rfl)
  have KL : Keep h0 h34 [o2, o1] := (((((Keep.refl h0 [o2, o1]).trans K3 (allS (Or.inl (List.mem_of_getElem? (i := 0) rfl)) all0)).wr W10 (Or.inl (List.mem_of_getElem? (i := 1) rfl))).wr W30 (Or.inl (List.mem_of_getElem? (i := 1) rfl))).wr W34 (Or.inl (List.mem_of_getElem? (i := 1) rfl)))
  have f55 := ((f19.wr W30).wr W34)
  have f56 := ((f25.other W30 (Or.inl (Ne.symm ne7))).other W34 (Or.inl (Ne.symm ne7)))
  have f57 := ((((P1.keep K3 (ninS ne7 nin0)).other W10 (Or.inr (sn58 hw))).other W30 (Or.inr (sn56 hw))).other W34 (Or.inr (sn58 hw)))
  have f58 := ((f15.other W30 (Or.inr (sn70 hw))).other W34 (Or.inr (sn72 hw)))
  refine ⟨_, _, pre48 _ ?_, hrun, hended, _, _, rfl, ?_, ⟨_, rfl⟩, hW, hsame.mono (by decide) (by decide)⟩
  ·
   refine st47 _ ?_
   refine yye X47 hx hby 86 93 rfl d15_86 (flt (by decide : ¬ ((4 : Int32) < (1 : Int32)))).2.2.2 (by decide) ?_
   show Steps p.tables e below (T47.setTop (mkF m 93 (l427_0 o1 o2 q3) [])) _
   exact X47.returnOut hx hret (hb hby d15_93) hr
  ·
   show Q22 Z o1 o2 o4 kc5 q3 h0 n0 _ T47.heap _
   rw [e51]
   exact ⟨rfl, N47, KL, f55, f56, f43, f57, f37, f35, f40, Fw34, f58⟩
 ·
  exact absurd (own_glt1 (n := 4) (k := (4 : Int32)) (by decide) (by have q0 := own_sub (x := ((1 : Int32) - (1 : Int32))) (k := (0 : Int32)) (n := 0) (lo := 0) (hi := 0) (by decide) (by have q0 := own_sub (x := (1 : Int32)) (k := (1 : Int32)) (n := 1) (lo := 1) (hi := 1) (by decide) (by have q0 := (by decide : ((1 : Int32)).toInt = 1); omega) (by decide) (by decide); omega) (by decide) (by decide); omega)) hc52
theorem pd10 : parseMethodDescriptor "(Lcom/example/horn1/horn1/engine/Clause;J)V" = some ⟨[(.object "com/example/horn1/horn1/engine/Clause"), .long], none⟩ := by decide +kernel
def l429_0 (o1 : Addr) (q2 : Int64) (p4 : Int32) : Array Slot := #[.val (.ref o1), .val (.long q2), .second, .val (.int p4)]
theorem ef23 (m : MethodId) (x0 : Addr) (x1 : Int64) : entryFrame m #[(.ref x0), (.long x1)] 4 = mkF m 0 #[.val (.ref x0), .val (.long x1), .second, .unset] [] := by first | (simp [entryFrame, mkF, argsToLocals, Value.category]; done) | rfl
def Q23 (Z : State) (w1 : Addr) (kw1 : ClassId) (o1 o5 : Addr) (p3 p4 : Int32) (q2 : Int64) (h0 : Heap) (n0 : Nat) (v : Option Value) (h : Heap) (L : List Loc) : Prop :=
  (v = none ∧ Fr n0 L ∧ Keep h0 h [o1] ∧ (Exa Z h o1 cn7) ∧ (Fld Z h o1 cn7 "addsFirst" "Z" (.int 0)) ∧ (Fld Z h o1 cn7 "end" "I" (.int 0)) ∧ (Fld Z h o1 cn7 "first" "I" (.int 0)) ∧ (Fld Z h o1 cn7 "low" "I" (.int 0)) ∧ (Fld Z h o1 cn7 "removed" "I" (.int 0)) ∧ (Fld Z h o1 cn7 "slots" cn3 (.ref w1)))
set_option maxRecDepth 65536 in
set_option maxHeartbeats 40000000 in
theorem rm23 (l : Launch) (Z : State) (a0 : Array Value) (hw : HW a0 Z) (w1 : Addr) (kw1 : ClassId) (G : GW Z w1 kw1) (ws : List Jvm.Cond) (o1 o5 : Addr) (p3 p4 : Int32) (q2 : Int64) (h0 : Heap) (n0 : Nat) (O0 : Old Z n0 h0) (g_o1 : n0 ≤ o1) (g_o5 : n0 ≤ o5) (P0 : Exa Z h0 o1 cn7) (P1 : Fld Z h0 o1 cn7 "addsFirst" "Z" (.int p3)) (P2 : Fld Z h0 o1 cn7 "end" "I" (.int p4)) (P3 : Fld Z h0 o1 cn7 "first" "I" (.int p4)) (P4 : Fld Z h0 o1 cn7 "low" "I" (.int p3)) (P5 : Fld Z h0 o1 cn7 "removed" "I" (.int p3)) (P6 : Fld Z h0 o1 cn7 "slots" cn3 (.ref o5)) :
    MF l yn2 prog_41_method_9_code 4 none ws ({ frames := 0, cells := 0, slots := 0, locals := 0 } : Room) #[(.ref o1), (.long q2)] Z h0 (Q23 Z w1 kw1 o1 o5 p3 p4 q2 h0 n0) := by
 obtain ⟨S_w1, A_w1⟩ := id G
 refine MetFree.of_bodySF (plainFor_of_name pn1) hisR ?_
 intro p e s m args below meth c s₁ Bd hml hP hK
 obtain ⟨rfl, hZ, hh⟩ := hP
 obtain ⟨hx, hby, hown, hret, hlk, X0, e0, N0⟩ := own_bd Bd hh n0
 have pre0 := own_ct s₁ (p := p) (e := e) (below := below) (ef23 m o1 q2)
 obtain ⟨T1, X1, e1, st1⟩ := yag X0 hx hZ hown hby (w_47 hw) e0 P3 0 #[.val (.ref o1), .val (.long q2), .second, .unset] [] d2_0 d2_1 rfl
 obtain ⟨T2, X2, e2, st2⟩ := yag X1 hx hZ hown hby (w_49 hw) e1 P2 6 (l429_0 o1 q2 p4) [(.int p4)] d2_6 d2_7 rfl
 obtain ⟨T3, X3, e3, st3⟩ := getS2 X2 hx hZ hown (host := "") (Or.inl (own_w hw 38 rfl)) Via.refl e2 (S_w1.ext O0.2) (g := (mkF m 42 (l429_0 o1 q2 p4) [(.ref o1)])) rfl (hb hby d2_42)
 obtain ⟨T4, h4, X4, e4, W4, st4⟩ := yp X3 hx hZ hown hby (w_40 hw) e3 P6 P0 (w_41 hw) (w_32 hw) (ty := (.array (.object cn6))) (v := (.ref w1)) (by decide) rfl rfl 45 (l429_0 o1 q2 p4) [] d2_45
 have N4 := Fr.snoc X4 N0 g_o1
 have Fw4 := P6.same W4
 have f5 := (P4.other W4 (Or.inr (sn47 hw)))
 have f6 := (P0.wr W4)
 obtain ⟨T7, h7, X7, e7, W7, st7⟩ := yp X4 hx hZ hown hby (w_51 hw) e4 f5 f6 (w_52 hw) (w_32 hw) (ty := .int) (v := (.int 0)) (by decide) rfl rfl 50 (l429_0 o1 q2 p4) [] d2_50
 have N7 := Fr.snoc X7 N4 g_o1
 have Fw7 := f5.same W7
 have f8 := ((P3.other W4 (Or.inr (sn46 hw))).other W7 (Or.inr (sn49 hw)))
 have f9 := (f6.wr W7)
 obtain ⟨T10, h10, X10, e10, W10, st10⟩ := yp X7 hx hZ hown hby (w_47 hw) e7 f8 f9 (w_48 hw) (w_32 hw) (ty := .int) (v := (.int 0)) (by decide) rfl rfl 55 (l429_0 o1 q2 p4) [] d2_55
 have N10 := Fr.snoc X10 N7 g_o1
 have Fw10 := f8.same W10
 have f11 := (((P2.other W4 (Or.inr (sn45 hw))).other W7 (Or.inr (sn50 hw))).other W10 (Or.inr (sn51 hw)))
 have f12 := (f9.wr W10)
 obtain ⟨T13, h13, X13, e13, W13, st13⟩ := yp X10 hx hZ hown hby (w_49 hw) e10 f11 f12 (w_50 hw) (w_32 hw) (ty := .int) (v := (.int 0)) (by decide) rfl rfl 60 (l429_0 o1 q2 p4) [] d2_60
 have N13 := Fr.snoc X13 N10 g_o1
 have Fw13 := f11.same W13
 have f14 := ((((P5.other W4 (Or.inr (sn48 hw))).other W7 (Or.inr (sn52 hw))).other W10 (Or.inr (sn53 hw))).other W13 (Or.inr (sn54 hw)))
 have f15 := (f12.wr W13)
 obtain ⟨T16, h16, X16, e16, W16, st16⟩ := yp X13 hx hZ hown hby (w_53 hw) e13 f14 f15 (w_54 hw) (w_32 hw) (ty := .int) (v := (.int 0)) (by decide) rfl rfl 65 (l429_0 o1 q2 p4) [] d2_65
 have N16 := Fr.snoc X16 N13 g_o1
 have Fw16 := f14.same W16
 have f17 := (((((P1.other W4 (Or.inr (sn44 hw))).other W7 (Or.inr (sn55 hw))).other W10 (Or.inr (sn56 hw))).other W13 (Or.inr (sn57 hw))).other W16 (Or.inr (sn58 hw)))
 have f18 := (f15.wr W16)
 obtain ⟨T19, h19, X19, e19, W19, st19⟩ := putFN X16 hx hZ hown (own_w hw 55 rfl) Via.refl e16 f17 f18 (Or.inl (w_56 hw)) (w_32 hw) (ty := .boolean) (v' := (.int 0)) (by decide) rfl (by decide) (g := (mkF m 70 (l429_0 o1 q2 p4) [(.int 0), (.ref o1)])) rfl rfl (hb hby d2_70)
 have N19 := Fr.snoc X19 N16 g_o1
 have Fw19 := f17.same W19
 obtain ⟨fs, hr, hrun, hended, hW, hsame⟩ := X19.leave (v := none) (fun _ => rfl)
 have KL : Keep h0 h19 [o1] := (((((((Keep.refl h0 [o1]).wr W4 (Or.inl (List.mem_of_getElem? (i := 0) rfl))).wr W7 (Or.inl (List.mem_of_getElem? (i := 0) rfl))).wr W10 (Or.inl (List.mem_of_getElem? (i := 0) rfl))).wr W13 (Or.inl (List.mem_of_getElem? (i := 0) rfl))).wr W16 (Or.inl (List.mem_of_getElem? (i := 0) rfl))).wr W19 (Or.inl (List.mem_of_getElem? (i := 0) rfl)))
 have f20 := (f18.wr W19)
 have f21 := ((Fw13.other W16 (Or.inr (sn59 hw))).other W19 (Or.inr (sn60 hw)))
 have f22 := (((Fw10.other W13 (Or.inr (sn61 hw))).other W16 (Or.inr (sn62 hw))).other W19 (Or.inr (sn63 hw)))
 have f23 := ((((Fw7.other W10 (Or.inr (sn64 hw))).other W13 (Or.inr (sn65 hw))).other W16 (Or.inr (sn66 hw))).other W19 (Or.inr (sn67 hw)))
 have f24 := (Fw16.other W19 (Or.inr (sn68 hw)))
 have f25 := (((((Fw4.other W7 (Or.inr (sn69 hw))).other W10 (Or.inr (sn70 hw))).other W13 (Or.inr (sn71 hw))).other W16 (Or.inr (sn72 hw))).other W19 (Or.inr (sn73 hw)))
 refine ⟨_, _, pre0 _ ?_, hrun, hended, _, _, rfl, ?_, ⟨_, rfl⟩, hW, hsame.mono (by decide) (by decide)⟩
 ·
  refine st1 _ ?_
  refine yit X1 hx hby d2_4 (l' := (l429_0 o1 q2 p4)) rfl ?_
  refine yin X1 hx hby d2_5 rfl ?_
  refine st2 _ ?_
  refine yye X2 hx hby 10 41 rfl d2_10 (flt (Int32.lt_irrefl : ¬ (p4 < p4))).2.1 (by decide) ?_
  refine yan X2 hx hby d2_41 rfl rfl ?_
  refine st3 _ ?_
  refine st4 _ ?_
  refine yan X4 hx hby d2_48 rfl rfl ?_
  refine yic X4 hx hby d2_49 ?_
  refine st7 _ ?_
  refine yan X7 hx hby d2_53 rfl rfl ?_
  refine yic X7 hx hby d2_54 ?_
  refine st10 _ ?_
  refine yan X10 hx hby d2_58 rfl rfl ?_
  refine yic X10 hx hby d2_59 ?_
  refine st13 _ ?_
  refine yan X13 hx hby d2_63 rfl rfl ?_
  refine yic X13 hx hby d2_64 ?_
  refine st16 _ ?_
  refine yan X16 hx hby d2_68 rfl rfl ?_
  refine yic X16 hx hby d2_69 ?_
  refine st19 _ ?_
  show Steps p.tables e below (T19.setTop (mkF m 73 (l429_0 o1 q2 p4) [])) _
  exact X19.returnOut hx hret (hb hby d2_73) hr
 ·
  show Q23 Z w1 kw1 o1 o5 p3 p4 q2 h0 n0 _ T19.heap _
  rw [e19]
  exact ⟨rfl, N19, KL, f20, Fw19, f21, f22, f23, f24, f25⟩
def l430_0 (dp1 : Int32) (dq2 q3 q4 : Int64) (dp3 dp4 zz50 : Int32) (dq50 : Int64) (da5 o6 : Addr) (o7 o8 o9 : Addr) : Array Slot := #[.val (.int dp1), .val (.long dq2), .second, .val (.long q3), .second, .val (.long q4), .second, .val (.int 0), .val (.int 1), .val (.int dp3), .val (.int dp4), .val (.int 0), .val (.int 1), .val (.int zz50), .val (.long dq50), .second, .val (.ref da5), .val (.ref o6), .val (.ref o7), .val (.ref o8), .val (.ref o9), .val (.int 1), .val (.long 9223372036854775807), .second, .val (.long dq50), .second, .unset, .unset, .unset, .unset]
def l430_1 (dp1 : Int32) (dq2 q3 q4 : Int64) (dp3 dp4 zz50 : Int32) (dq50 : Int64) (da5 o6 : Addr) (o7 o8 o9 : Addr) : Array Slot := #[.val (.int dp1), .val (.long dq2), .second, .val (.long q3), .second, .val (.long q4), .second, .val (.int 0), .val (.int 1), .val (.int dp3), .val (.int dp4), .val (.int 0), .val (.int 1), .val (.int zz50), .val (.long dq50), .second, .val (.ref da5), .val (.ref o6), .val (.ref o7), .val (.ref o8), .val (.ref o9), .val (.int 1), .unset, .unset, .unset, .unset, .unset, .unset, .unset, .unset]
def l430_2 (dp1 : Int32) (dq2 q3 q4 : Int64) (dp3 dp4 zz50 : Int32) (dq50 : Int64) (da5 o6 : Addr) (o7 o8 o9 : Addr) : Array Slot := #[.val (.int dp1), .val (.long dq2), .second, .val (.long q3), .second, .val (.long q4), .second, .val (.int 0), .val (.int 1), .val (.int dp3), .val (.int dp4), .val (.int 0), .val (.int 1), .val (.int zz50), .val (.long dq50), .second, .val (.ref da5), .val (.ref o6), .val (.ref o7), .val (.ref o8), .val (.ref o9), .unset, .unset, .unset, .unset, .unset, .unset, .unset, .unset, .unset]
set_option maxRecDepth 65536 in
set_option maxHeartbeats 40000000 in
theorem ct9 {p : Program} {l : Launch} {e : Env} {s : State} {m : MethodId} {below : List Frame} {meth : Method} {c : Code} {E0 T0 : State} {locs : List Loc} {Z : State} {a0 : Array Value} (hw : HW a0 Z) (w1 : Addr) (kw1 : ClassId) (G : GW Z w1 kw1) (o6 o7 : Addr) (o8 o9 : Addr) (dq50 : Int64) (zz50 dp1 : Int32) (dq2 q3 q4 : Int64) (dp3 dp4 : Int32) (da5 : Addr) (p1 : Int32) (q2 : Int64) (h0 : Heap) (n0 : Nat) (O0 : Old Z n0 h0)
    (hx : p.tables.exec = Jvm.exec) (hby : c.code = code) (hml : c.maxLocals = 30) (hown : s.vm.findClass cn8 = some m.cls) (hret : meth.sig.returnType = ret) (hlk : meth.locks = false) (hZ : Z.Warmed39 s.vm)
    (X0 : Stand p l e room_1 s m #[(.int p1), (.long q2), (.long q3), (.long q4)] below meth c T0 locs 7 46) (e0 : T0.heap = h0) (N0 : Fr n0 locs) (pre0 : Go p e below T0 (mkF m 270 (l430_2 dp1 dq2 q3 q4 dp3 dp4 zz50 dq50 da5 o6 o7 o8 o9) []) E0) (g_o6 : n0 ≤ o6) (g_o7 : n0 ≤ o7) (g_o8 : n0 ≤ o8) (g_o9 : n0 ≤ o9) (P0 : Exa Z h0 o6 cn6) (P1 : Fld Z h0 o6 cn6 "removed" "J" (.long 9223372036854775807)) (P2 : Exa Z h0 o7 cn6) (P3 : Fld Z h0 o7 cn6 "removed" "J" (.long dq50)) (P4 : Exa Z h0 o8 cn6) (P6 : Exa Z h0 o9 cn7) (P7 : Fld Z h0 o9 cn7 "addsFirst" "Z" (.int 0)) (P8 : Fld Z h0 o9 cn7 "end" "I" (.int 0)) (P9 : Fld Z h0 o9 cn7 "first" "I" (.int 0)) (P10 : Fld Z h0 o9 cn7 "low" "I" (.int 0)) (P11 : Fld Z h0 o9 cn7 "removed" "I" (.int 0)) (P12 : Fld Z h0 o9 cn7 "slots" cn3 (.ref w1)) (bzz50 : 0 ≤ zz50.toInt ∧ zz50.toInt ≤ 1) :
    ∃ (s₂ : State) (o : Outcome), Steps p.tables e below E0 s₂ ∧ s₂.status = .running ∧ Ended s₂ below o ∧ ∃ v L, o = .returned v ∧ Q0 n0 v s₂.heap L ∧ FrameEnd s o s₂ L 24 192 := by
 obtain ⟨S_w1, A_w1⟩ := id G
 obtain ⟨_, T1, L1, X1, hQ1, st1⟩ := yv X0 hx hZ hown hby hml (y := yn3) (own_w hw 57 rfl) (w_58 hw) (own_w hw 60 rfl) (w_59 hw) (own_w hw 61 rfl) (w_33 hw) e0 P6 [] [] (rm4 l Z a0 hw [] o9 ((0 : Int32)) ((0 : Int32)) ((0 : Int32)) h0 n0 O0 g_o9 P8 P9 P11) 272 (l430_2 dp1 dq2 q3 q4 dp3 dp4 zz50 dq50 da5 o6 o7 o8 o9) rfl at_272 (lenOf pd3 rfl) 0 7 46
 obtain ⟨rfl, Nq2, e3⟩ := hQ1
 have N1 := Fr.app N0 Nq2
 obtain ⟨_, T4, L4, X4, hQ4, st4⟩ := yv X1 hx hZ hown hby hml (y := yn4) (own_w hw 62 rfl) (own_w hw 63 rfl) (own_w hw 65 rfl) (own_w hw 64 rfl) (own_w hw 66 rfl) (w_33 hw) e3 P6 [] [] (rm5 l Z a0 hw [] o9 ((0 : Int32)) h0 n0 O0 g_o9 P9) 280 (l430_2 dp1 dq2 q3 q4 dp3 dp4 zz50 dq50 da5 o6 o7 o8 o9) rfl at_280 (lenOf pd3 rfl) 0 7 46
 obtain ⟨rfl, Nq5, e6⟩ := hQ4
 have N4 := Fr.app N1 Nq5
 obtain ⟨_, T7, L7, X7, hQ7, st7⟩ := yv X4 hx hZ hown hby hml (y := yn5) (own_w hw 67 rfl) (own_w hw 68 rfl) (own_w hw 70 rfl) (own_w hw 69 rfl) (own_w hw 71 rfl) (w_33 hw) e6 P6 [] [] (rm6 l Z a0 hw [] o9 ((0 : Int32)) h0 n0 O0 g_o9 P8) 288 (l430_2 dp1 dq2 q3 q4 dp3 dp4 zz50 dq50 da5 o6 o7 o8 o9) rfl at_288 (lenOf pd3 rfl) 0 7 46
 obtain ⟨rfl, Nq8, e9⟩ := hQ7
 have N7 := Fr.app N4 Nq8
 obtain ⟨_, T10, L10, X10, hQ10, st10⟩ := yv X7 hx hZ hown hby hml (y := yn6) (own_w hw 72 rfl) (own_w hw 73 rfl) (own_w hw 75 rfl) (own_w hw 74 rfl) (own_w hw 76 rfl) (w_33 hw) e9 P6 [] [] (rm7 l Z a0 hw w1 kw1 G [] o9 h0 n0 O0 g_o9 P12) 296 (l430_2 dp1 dq2 q3 q4 dp3 dp4 zz50 dq50 da5 o6 o7 o8 o9) rfl at_296 (lenOf pd4 rfl) 0 7 46
 obtain ⟨rfl, Nq11, e12⟩ := hQ10
 have N10 := Fr.app N7 Nq11
 obtain ⟨cl13, Ar13, qa13, Sa13, Na13, Ha13, Ga13⟩ := id ((A_w1.ext O0.2))
 have pre14 : Go p e below T10 (mkF m 358 (l430_0 dp1 dq2 q3 q4 dp3 dp4 zz50 dq50 da5 o6 o7 o8 o9) []) E0 := fun t k => by
  refine pre0 _ ?_
  refine yal X0 hx hby at_270 rfl rfl ?_
  refine st1 _ ?_
  refine yfn X1 hx hby at_275 ((if0 _ _).trans (teq (own_geq (n := 0) (k := (0 : Int32)) (by decide) (by have q0 := own_sub (x := ((0 : Int32) - (0 : Int32))) (k := (0 : Int32)) (n := 0) (lo := 0) (hi := 0) (by decide) (by have q0 := own_sub (x := (0 : Int32)) (k := (0 : Int32)) (n := 0) (lo := 0) (hi := 0) (by decide) (by have q0 := (by decide : ((0 : Int32)).toInt = 0); omega) (by decide) (by decide); omega) (by decide) (by decide); omega))).2) ?_
  refine yal X1 hx hby at_278 rfl rfl ?_
  refine st4 _ ?_
  refine yfn X4 hx hby at_283 ((if0 _ _).trans (teq (by decide : (0 : Int32) = (0 : Int32))).2) ?_
  refine yal X4 hx hby at_286 rfl rfl ?_
  refine st7 _ ?_
  refine yfn X7 hx hby at_291 ((if0 _ _).trans (teq (by decide : (0 : Int32) = (0 : Int32))).2) ?_
  refine yal X7 hx hby at_294 rfl rfl ?_
  refine st10 _ ?_
  refine X10.arraylength hx (by rw [e12]; exact Ar13.1) (State.isArrayOf_alike hZ.alike Ar13.2.1) (g := (mkF m 299 (l430_2 dp1 dq2 q3 q4 dp3 dp4 zz50 dq50 da5 o6 o7 o8 o9) [(.ref w1)])) rfl rfl (hb hby at_299) _ ?_
  rw [len_of Sa13 Na13]
  refine yfn X10 hx hby at_300 ((if0 _ _).trans (teq (by decide : (0 : Int32) = (0 : Int32))).2) ?_
  refine yic X10 hx hby at_303 ?_
  refine ygo X10 hx hby 304 308 rfl at_304 (by decide) ?_
  refine yis X10 hx hby at_308 (l' := (l430_1 dp1 dq2 q3 q4 dp3 dp4 zz50 dq50 da5 o6 o7 o8 o9)) rfl ?_
  refine yil X10 hx hby at_310 rfl ?_
  refine XS.ifYes X10.here hx rfl (pc0 := 312) (pc' := 320) rfl (hb hby at_312) rfl ((if0 _ _).trans (teq (by decide : (0 : Int32) = (0 : Int32))).1) (by decide) (by decide) ?_
  refine yil X10 hx hby at_320 rfl ?_
  refine XS.ifYes X10.here hx rfl (pc0 := 322) (pc' := 329) rfl (hb hby at_322) rfl ((if0 _ _).trans (teq (by decide : (0 : Int32) = (0 : Int32))).1) (by decide) (by decide) ?_
  refine X10.ldc2Long hx hown (mvT hZ (own_w hw 0 rfl)) (g := (mkF m 329 (l430_1 dp1 dq2 q3 q4 dp3 dp4 zz50 dq50 da5 o6 o7 o8 o9) [])) rfl (hb hby at_329) _ ?_
  refine XS.lstore X10.here hx rfl (hb hby at_332) rfl (l' := #[.val (.int dp1), .val (.long dq2), .second, .val (.long q3), .second, .val (.long q4), .second, .val (.int 0), .val (.int 1), .val (.int dp3), .val (.int dp4), .val (.int 0), .val (.int 1), .val (.int zz50), .val (.long dq50), .second, .val (.ref da5), .val (.ref o6), .val (.ref o7), .val (.ref o8), .val (.ref o9), .val (.int 1), .val (.long 9223372036854775807), .second, .unset, .unset, .unset, .unset, .unset, .unset]) rfl ?_
  refine yil X10 hx hby at_334 rfl ?_
  refine yfn X10 hx hby at_336 ((if0 _ _).trans (feq (by decide : ¬ ((1 : Int32) = (0 : Int32)))).1) ?_
  refine XS.lload X10.here hx rfl (hb hby at_339) rfl ?_
  refine ygo X10 hx hby 341 356 rfl at_341 (by decide) ?_
  refine XS.lstore X10.here hx rfl (hb hby at_356) rfl (l' := (l430_0 dp1 dq2 q3 q4 dp3 dp4 zz50 dq50 da5 o6 o7 o8 o9)) rfl ?_
  exact k
 exact ct5 hw w1 kw1 G o6 o7 o8 o9 ((9223372036854775807 : Int64)) dq50 zz50 dp1 dq2 q3 q4 ((0 : Int32)) ((1 : Int32)) dp3 dp4 ((0 : Int32)) ((1 : Int32)) dq50 da5 p1 q2 q3 h0 n0 O0 hx hby hml hown hret hlk hZ (X10.more (by decide) (by decide)) e12 N10 pre14 g_o6 g_o7 g_o8 g_o9 P0 P1 P2 P3 P4 P6 P7 P8 P9 P10 P11 P12 (by have q0 := bzz50; omega)
def l431_0 (dp1 : Int32) (dq2 q3 q4 : Int64) (dp3 dp4 : Int32) (zz51 zz52 : Int32) (dq50 : Int64) (da5 o6 : Addr) (o7 o8 o9 : Addr) : Array Slot := #[.val (.int dp1), .val (.long dq2), .second, .val (.long q3), .second, .val (.long q4), .second, .val (.int 0), .val (.int 1), .val (.int dp3), .val (.int dp4), .val (.int 0), .val (.int zz51), .val (.int zz52), .val (.long dq50), .second, .val (.ref da5), .val (.ref o6), .val (.ref o7), .val (.ref o8), .val (.ref o9), .unset, .unset, .unset, .unset, .unset, .unset, .unset, .unset, .unset]
def l431_1 (dp1 : Int32) (dq2 q3 q4 : Int64) (dp3 dp4 zz52 : Int32) (dq50 : Int64) (da5 o6 : Addr) (o7 o8 o9 : Addr) : Array Slot := #[.val (.int dp1), .val (.long dq2), .second, .val (.long q3), .second, .val (.long q4), .second, .val (.int 0), .val (.int 1), .val (.int dp3), .val (.int dp4), .val (.int 0), .val (.int 0), .val (.int zz52), .val (.long dq50), .second, .val (.ref da5), .val (.ref o6), .val (.ref o7), .val (.ref o8), .val (.ref o9), .unset, .unset, .unset, .unset, .unset, .unset, .unset, .unset, .unset]
def l431_2 (dp1 : Int32) (dq2 q3 q4 : Int64) (dp3 dp4 zz52 : Int32) (dq50 : Int64) (da5 o6 : Addr) (o7 o8 o9 : Addr) : Array Slot := #[.val (.int dp1), .val (.long dq2), .second, .val (.long q3), .second, .val (.long q4), .second, .val (.int 0), .val (.int 1), .val (.int dp3), .val (.int dp4), .val (.int 0), .val (.int 1), .val (.int zz52), .val (.long dq50), .second, .val (.ref da5), .val (.ref o6), .val (.ref o7), .val (.ref o8), .val (.ref o9), .unset, .unset, .unset, .unset, .unset, .unset, .unset, .unset, .unset]
set_option maxRecDepth 65536 in
set_option maxHeartbeats 40000000 in
theorem ct7 {p : Program} {l : Launch} {e : Env} {s : State} {m : MethodId} {below : List Frame} {meth : Method} {c : Code} {E0 T0 : State} {locs : List Loc} {Z : State} {a0 : Array Value} (hw : HW a0 Z) (w1 : Addr) (kw1 : ClassId) (G : GW Z w1 kw1) (o6 o7 : Addr) (o8 o9 o10 : Addr) (kc11 : ClassId) (dq50 : Int64) (zz51 zz52 dp1 : Int32) (dq2 q3 q4 : Int64) (dp3 dp4 : Int32) (da5 : Addr) (p1 : Int32) (q2 : Int64) (h0 : Heap) (n0 : Nat) (O0 : Old Z n0 h0)
    (hx : p.tables.exec = Jvm.exec) (hby : c.code = code) (hml : c.maxLocals = 30) (hown : s.vm.findClass cn8 = some m.cls) (hret : meth.sig.returnType = ret) (hlk : meth.locks = false) (hZ : Z.Warmed39 s.vm)
    (X0 : Stand p l e room_1 s m #[(.int p1), (.long q2), (.long q3), (.long q4)] below meth c T0 locs 7 46) (e0 : T0.heap = h0) (N0 : Fr n0 locs) (pre0 : Go p e below T0 (mkF m 236 (l431_0 dp1 dq2 q3 q4 dp3 dp4 zz51 zz52 dq50 da5 o6 o7 o8 o9) []) E0) (g_o6 : n0 ≤ o6) (g_o7 : n0 ≤ o7) (g_o8 : n0 ≤ o8) (g_o9 : n0 ≤ o9) (g_o10 : n0 ≤ o10) (ne_o6_o7 : o6 ≠ o7) (Ov_kc11 : Ovr Z kc11 cn6) (P0 : Exa Z h0 o6 cn6) (P1 : Fld Z h0 o6 cn6 "removed" "J" (.long 9223372036854775807)) (P2 : Exa Z h0 o7 cn6) (P3 : Fld Z h0 o7 cn6 "removed" "J" (.long 9223372036854775807)) (P4 : Exa Z h0 o8 cn6) (P6 : Exa Z h0 o9 cn7) (P7 : Fld Z h0 o9 cn7 "addsFirst" "Z" (.int 0)) (P8 : Fld Z h0 o9 cn7 "end" "I" (.int 1)) (P9 : Fld Z h0 o9 cn7 "first" "I" (.int 0)) (P10 : Fld Z h0 o9 cn7 "low" "I" (.int 0)) (P11 : Fld Z h0 o9 cn7 "removed" "I" (.int 0)) (P12 : Fld Z h0 o9 cn7 "slots" cn3 (.ref o10)) (P13 : Arv Z h0 o10 kc11 (.object cn6) (4 : Int32) [(.ref o7), .null, .null, .null] .null) (P14 : Exa Z h0 o10 cn3) (hC0 : ¬ (dq50 = (9223372036854775807 : Int64))) (bzz51 : 0 ≤ zz51.toInt ∧ zz51.toInt ≤ 1) (bzz52 : 0 ≤ zz52.toInt ∧ zz52.toInt ≤ 1) :
    ∃ (s₂ : State) (o : Outcome), Steps p.tables e below E0 s₂ ∧ s₂.status = .running ∧ Ended s₂ below o ∧ ∃ v L, o = .returned v ∧ Q0 n0 v s₂.heap L ∧ FrameEnd s o s₂ L 24 192 := by
 obtain ⟨S_w1, A_w1⟩ := id G
 have pre1 : Go p e below T0 (mkF m 252 (l431_0 dp1 dq2 q3 q4 dp3 dp4 zz51 zz52 dq50 da5 o6 o7 o8 o9) [(.int zz51)]) E0 := fun t k => by
  refine pre0 _ ?_
  refine yil X0 hx hby at_236 rfl ?_
  refine XS.ifYes X0.here hx rfl (pc0 := 238) (pc' := 250) rfl (hb hby at_238) rfl ((if0 _ _).trans (teq (by decide : (0 : Int32) = (0 : Int32))).1) (by decide) (by decide) ?_
  refine yil X0 hx hby at_250 rfl ?_
  exact k
 by_cases hc2 : zz51 = (0 : Int32)
 ·
  have pre3 : Go p e below T0 (mkF m 252 (l431_1 dp1 dq2 q3 q4 dp3 dp4 zz52 dq50 da5 o6 o7 o8 o9) [(.int 0)]) E0 := fun t k => pre1 t (by rw [hc2]; exact k)
  obtain ⟨_, T4, L4, X4, hQ4, st4⟩ := yv X0 hx hZ hown hby hml (y := yn2) (own_w hw 42 rfl) (w_43 hw) (own_w hw 45 rfl) (w_44 hw) (own_w hw 46 rfl) (w_33 hw) e0 P6 [(.long q3)] [] (rm19 l Z a0 hw w1 kw1 G [] o9 o10 o7 kc11 ((0 : Int32)) q3 h0 n0 O0 g_o9 g_o10 g_o7 Ov_kc11 P6 P7 P8 P9 P10 P11 P12 P13 P2 P3) 267 (l431_1 dp1 dq2 q3 q4 dp3 dp4 zz52 dq50 da5 o6 o7 o8 o9) rfl at_267 (lenOf pd2 rfl) 0 7 46
  obtain ⟨rfl, Nq5, K6, f7, f8, f9, f10, f11, f12, f13, f14, f15⟩ := hQ4
  have N4 := Fr.app N0 Nq5
  have O4 := Old.keep O0 K6 (allS g_o7 (allS g_o9 all0))
  have pre16 : Go p e below T4 (mkF m 270 (l431_1 dp1 dq2 q3 q4 dp3 dp4 zz52 dq50 da5 o6 o7 o8 o9) []) E0 := fun t k => by
   refine pre3 _ ?_
   refine XS.ifYes X0.here hx rfl (pc0 := 252) (pc' := 264) rfl (hb hby at_252) rfl ((if0 _ _).trans (teq (by decide : (0 : Int32) = (0 : Int32))).1) (by decide) (by decide) ?_
   refine yal X0 hx hby at_264 rfl rfl ?_
   refine XS.lloadN X0.here hx rfl (hb hby at_266) rfl ?_
   refine st4 _ ?_
   exact k
  have f17 := (P0.keep K6)
  have ne18 : o6 ≠ o9 := ne_exa f17 f9 (by decide)
  have f19 := (P1.keep K6 (ninS ne_o6_o7 (ninS ne18 nin0)))
  have f20 := (P4.keep K6)
  exact ct8 hw w1 kw1 G o6 o7 o8 o9 q3 zz52 dp1 dq2 q4 dp3 dp4 dq50 da5 p1 q2 T4.heap n0 O4 hx hby hml hown hret hlk hZ (X4.more (by decide) (by decide)) rfl N4 pre16 g_o6 g_o7 g_o8 g_o9 f17 f19 f7 f8 f20 f9 f10 f11 f12 f13 f14 f15 (by have q0 := bzz52; omega)
 ·
  have hq21 : zz51 = (1 : Int32) := (own_geq (n := 1) (k := (1 : Int32)) (by decide) (by have q0 := bzz51; have q1 := own_neq (n := 0) (k := (0 : Int32)) (by decide) hc2; omega))
  have pre22 : Go p e below T0 (mkF m 252 (l431_2 dp1 dq2 q3 q4 dp3 dp4 zz52 dq50 da5 o6 o7 o8 o9) [(.int 1)]) E0 := fun t k => pre1 t (by rw [hq21]; exact k)
  obtain ⟨_, T23, L23, X23, hQ23, st23⟩ := yv X0 hx hZ hown hby hml (y := yn15) (own_w hw 119 rfl) (own_w hw 120 rfl) (own_w hw 122 rfl) (own_w hw 121 rfl) (own_w hw 123 rfl) (w_33 hw) e0 P6 [(.ref o7), (.long dq50)] [] (rm22 l Z a0 hw [] o9 o7 o10 kc11 dq50 h0 n0 O0 g_o9 g_o7 g_o10 Ov_kc11 hC0 P6 P7 P8 P9 P10 P11 P12 P2 P3 P13 P14) 261 (l431_2 dp1 dq2 q3 q4 dp3 dp4 zz52 dq50 da5 o6 o7 o8 o9) rfl at_261 (lenOf pd10 rfl) 0 7 46
  obtain ⟨rfl, Nq24, K25, f26, f27, f28, f29, f30, f31, f32, f33, f34⟩ := hQ23
  have N23 := Fr.app N0 Nq24
  have O23 := Old.keep O0 K25 (allS g_o7 (allS g_o9 all0))
  obtain ⟨_, T35, L35, X35, hQ35, st35⟩ := yv X23 hx hZ hown hby hml (y := yn2) (own_w hw 42 rfl) (w_43 hw) (own_w hw 45 rfl) (w_44 hw) (own_w hw 46 rfl) (w_33 hw) rfl f28 [(.long q3)] [] (rm23 l Z a0 hw w1 kw1 G [] o9 o10 ((0 : Int32)) ((1 : Int32)) q3 T23.heap n0 O23 g_o9 g_o10 f28 f29 f30 f31 f32 f33 f34) 267 (l431_2 dp1 dq2 q3 q4 dp3 dp4 zz52 dq50 da5 o6 o7 o8 o9) rfl at_267 (lenOf pd2 rfl) 0 7 46
  obtain ⟨rfl, Nq36, K37, f38, f39, f40, f41, f42, f43, f44⟩ := hQ35
  have N35 := Fr.app N23 Nq36
  have O35 := Old.keep O23 K37 (allS g_o9 all0)
  have pre45 : Go p e below T35 (mkF m 270 (l431_2 dp1 dq2 q3 q4 dp3 dp4 zz52 dq50 da5 o6 o7 o8 o9) []) E0 := fun t k => by
   refine pre22 _ ?_
   refine yfn X0 hx hby at_252 ((if0 _ _).trans (feq (by decide : ¬ ((1 : Int32) = (0 : Int32)))).1) ?_
   refine yal X0 hx hby at_255 rfl rfl ?_
   refine yal X0 hx hby at_257 rfl rfl ?_
   refine XS.lload X0.here hx rfl (hb hby at_259) rfl ?_
   refine st23 _ ?_
   refine yal X23 hx hby at_264 rfl rfl ?_
   refine XS.lloadN X23.here hx rfl (hb hby at_266) rfl ?_
   refine st35 _ ?_
   exact k
  have f46 := ((P0.keep K25).keep K37)
  have ne47 : o6 ≠ o9 := ne_exa f46 f38 (by decide)
  have f48 := ((P1.keep K25 (ninS ne_o6_o7 (ninS ne47 nin0))).keep K37 (ninS ne47 nin0))
  have f49 := (f26.keep K37)
  have ne50 : o7 ≠ o9 := ne_exa f49 f38 (by decide)
  have f51 := (f27.keep K37 (ninS ne50 nin0))
  have f52 := ((P4.keep K25).keep K37)
  exact ct9 hw w1 kw1 G o6 o7 o8 o9 dq50 zz52 dp1 dq2 q3 q4 dp3 dp4 da5 p1 q2 T35.heap n0 O35 hx hby hml hown hret hlk hZ (X35.more (by decide) (by decide)) rfl N35 pre45 g_o6 g_o7 g_o8 g_o9 f46 f48 f49 f51 f52 f38 f39 f40 f41 f42 f43 f44 (by have q0 := bzz52; omega)
def l432_0 (o1 : Addr) (q2 : Int64) : Array Slot := #[.val (.ref o1), .val (.long q2), .second, .val (.int 3)]
def l432_1 (o1 : Addr) (q2 : Int64) : Array Slot := #[.val (.ref o1), .val (.long q2), .second, .val (.int 4)]
theorem ef24 (m : MethodId) (x0 : Addr) (x1 : Int64) : entryFrame m #[(.ref x0), (.long x1)] 4 = mkF m 0 #[.val (.ref x0), .val (.long x1), .second, .unset] [] := by first | (simp [entryFrame, mkF, argsToLocals, Value.category]; done) | rfl
def Q24 (Z : State) (w1 : Addr) (kw1 : ClassId) (o1 o6 o8 : Addr) (kc7 : ClassId) (p3 p4 p5 : Int32) (q2 : Int64) (h0 : Heap) (n0 : Nat) (v : Option Value) (h : Heap) (L : List Loc) : Prop :=
  (v = none ∧ Fr n0 L ∧ Keep h0 h [o8, o1] ∧ (Exa Z h o8 cn6) ∧ (Fld Z h o8 cn6 "removed" "J" (.long q2)) ∧ (Exa Z h o1 cn7) ∧ (Fld Z h o1 cn7 "addsFirst" "Z" (.int 0)) ∧ (Fld Z h o1 cn7 "end" "I" (.int 0)) ∧ (Fld Z h o1 cn7 "first" "I" (.int 0)) ∧ (Fld Z h o1 cn7 "low" "I" (.int 0)) ∧ (Fld Z h o1 cn7 "removed" "I" (.int 0)) ∧ (Fld Z h o1 cn7 "slots" cn3 (.ref w1)))
set_option maxRecDepth 65536 in
set_option maxHeartbeats 40000000 in
theorem rm24 (l : Launch) (Z : State) (a0 : Array Value) (hw : HW a0 Z) (w1 : Addr) (kw1 : ClassId) (G : GW Z w1 kw1) (ws : List Jvm.Cond) (o1 o6 o8 : Addr) (kc7 : ClassId) (p3 p4 p5 : Int32) (q2 : Int64) (h0 : Heap) (n0 : Nat) (O0 : Old Z n0 h0) (g_o1 : n0 ≤ o1) (g_o6 : n0 ≤ o6) (g_o8 : n0 ≤ o8) (Ov_kc7 : Ovr Z kc7 cn6) (P0 : Exa Z h0 o1 cn7) (P1 : Fld Z h0 o1 cn7 "addsFirst" "Z" (.int p3)) (P2 : Fld Z h0 o1 cn7 "end" "I" (.int 4)) (P3 : Fld Z h0 o1 cn7 "first" "I" (.int 3)) (P4 : Fld Z h0 o1 cn7 "low" "I" (.int p4)) (P5 : Fld Z h0 o1 cn7 "removed" "I" (.int p5)) (P6 : Fld Z h0 o1 cn7 "slots" cn3 (.ref o6)) (P7 : Arv Z h0 o6 kc7 (.object cn6) (8 : Int32) [.null, .null, .null, (.ref o8), .null, .null, .null, .null] .null) (P9 : Exa Z h0 o8 cn6) (P10 : Fld Z h0 o8 cn6 "removed" "J" (.long 9223372036854775807)) :
    MF l yn2 prog_41_method_9_code 4 none ws ({ frames := 1, cells := 0, slots := 0, locals := 14 } : Room) #[(.ref o1), (.long q2)] Z h0 (Q24 Z w1 kw1 o1 o6 o8 kc7 p3 p4 p5 q2 h0 n0) := by
 obtain ⟨S_w1, A_w1⟩ := id G
 refine MetFree.of_bodySF (plainFor_of_name pn1) hisR ?_
 intro p e s m args below meth c s₁ Bd hml hP hK
 obtain ⟨rfl, hZ, hh⟩ := hP
 obtain ⟨hx, hby, hown, hret, hlk, X0, e0, N0⟩ := own_bd Bd hh n0
 have pre0 := own_ct s₁ (p := p) (e := e) (below := below) (ef24 m o1 q2)
 obtain ⟨T1, X1, e1, st1⟩ := yag X0 hx hZ hown hby (w_47 hw) e0 P3 0 #[.val (.ref o1), .val (.long q2), .second, .unset] [] d2_0 d2_1 rfl
 obtain ⟨T2, X2, e2, st2⟩ := yag X1 hx hZ hown hby (w_49 hw) e1 P2 6 (l432_0 o1 q2) [(.int 3)] d2_6 d2_7 rfl
 obtain ⟨T3, X3, e3, st3⟩ := yag X2 hx hZ hown hby (w_40 hw) e2 P6 13 (l432_0 o1 q2) [] d2_13 d2_14 rfl
 obtain ⟨cl4, Ar4, qa4, Sa4, Na4, Ha4, Ga4⟩ := id (P7)
 have hin4 := inb_of (j := (3 : Int32)) Sa4 ⟨by decide, by decide⟩
 have hat4 : cl4.slots[((3 : Int32)).toNatClampNeg]? = some (.ref o8) := Has.at Ha4 hin4 rfl
 obtain ⟨_, T5, L5, X5, hQ5, st5⟩ := yv X3 hx hZ hown hby hml (y := yn7) (w_113 hw) (w_82 hw) (w_84 hw) (w_83 hw) (w_85 hw) (w_5 hw) e3 P9 [] [] (rm17 l Z a0 hw [] o8 ((9223372036854775807 : Int64)) h0 n0 O0 g_o8 (by decide : (9223372036854775807 : Int64) = (9223372036854775807 : Int64)) P10) 19 (l432_0 o1 q2) rfl d2_19 (lenOf pd5 rfl) 0 0 0
 obtain ⟨rfl, Nq6, e7⟩ := hQ5
 have N5 := Fr.app N0 Nq6
 obtain ⟨T8, X8, e8, st8⟩ := yag X5 hx hZ hown hby (w_40 hw) e7 P6 25 (l432_0 o1 q2) [] d2_25 d2_26 rfl
 obtain ⟨cl9, Ar9, qa9, Sa9, Na9, Ha9, Ga9⟩ := id (P7)
 have hin9 := inb_of (j := (3 : Int32)) Sa9 ⟨by decide, by decide⟩
 have hat9 : cl9.slots[((3 : Int32)).toNatClampNeg]? = some (.ref o8) := Has.at Ha9 hin9 rfl
 obtain ⟨_, T10, L10, X10, hQ10, st10⟩ := yv X8 hx hZ hown hby hml (y := yn14) (w_114 hw) (w_115 hw) (own_w hw 117 rfl) (w_116 hw) (w_118 hw) (w_5 hw) e8 P9 [(.long q2)] [] (rm18 l Z a0 hw [] o8 q2 h0 n0 O0 g_o8 P9 P10) 32 (l432_0 o1 q2) rfl d2_32 (lenOf pd2 rfl) 0 0 0
 obtain ⟨rfl, Nq11, K12, f13, f14⟩ := hQ10
 have N10 := Fr.app N5 Nq11
 have O10 := Old.keep O0 K12 (allS g_o8 all0)
 have f15 := (P0.keep K12)
 have ne16 : o1 ≠ o8 := ne_exa f15 f13 (by decide)
 have f17 := (P2.keep K12 (ninS ne16 nin0))
 obtain ⟨T18, X18, e18, st18⟩ := yag X10 hx hZ hown hby (w_49 hw) rfl f17 6 (l432_1 o1 q2) [(.int 4)] d2_6 d2_7 rfl
 obtain ⟨T19, X19, e19, st19⟩ := getS2 X18 hx hZ hown (host := "") (Or.inl (own_w hw 38 rfl)) Via.refl e18 (S_w1.ext O10.2) (g := (mkF m 42 (l432_1 o1 q2) [(.ref o1)])) rfl (hb hby d2_42)
 have f20 := (P6.keep K12 (ninS ne16 nin0))
 obtain ⟨T21, h21, X21, e21, W21, st21⟩ := yp X19 hx hZ hown hby (w_40 hw) e19 f20 f15 (w_41 hw) (w_32 hw) (ty := (.array (.object cn6))) (v := (.ref w1)) (by decide) rfl rfl 45 (l432_1 o1 q2) [] d2_45
 have N21 := Fr.snoc X21 N10 g_o1
 have Fw21 := f20.same W21
 have f22 := ((P4.keep K12 (ninS ne16 nin0)).other W21 (Or.inr (sn47 hw)))
 have f23 := (f15.wr W21)
 obtain ⟨T24, h24, X24, e24, W24, st24⟩ := yp X21 hx hZ hown hby (w_51 hw) e21 f22 f23 (w_52 hw) (w_32 hw) (ty := .int) (v := (.int 0)) (by decide) rfl rfl 50 (l432_1 o1 q2) [] d2_50
 have N24 := Fr.snoc X24 N21 g_o1
 have Fw24 := f22.same W24
 have f25 := (((P3.keep K12 (ninS ne16 nin0)).other W21 (Or.inr (sn46 hw))).other W24 (Or.inr (sn49 hw)))
 have f26 := (f23.wr W24)
 obtain ⟨T27, h27, X27, e27, W27, st27⟩ := yp X24 hx hZ hown hby (w_47 hw) e24 f25 f26 (w_48 hw) (w_32 hw) (ty := .int) (v := (.int 0)) (by decide) rfl rfl 55 (l432_1 o1 q2) [] d2_55
 have N27 := Fr.snoc X27 N24 g_o1
 have Fw27 := f25.same W27
 have f28 := (((f17.other W21 (Or.inr (sn45 hw))).other W24 (Or.inr (sn50 hw))).other W27 (Or.inr (sn51 hw)))
 have f29 := (f26.wr W27)
 obtain ⟨T30, h30, X30, e30, W30, st30⟩ := yp X27 hx hZ hown hby (w_49 hw) e27 f28 f29 (w_50 hw) (w_32 hw) (ty := .int) (v := (.int 0)) (by decide) rfl rfl 60 (l432_1 o1 q2) [] d2_60
 have N30 := Fr.snoc X30 N27 g_o1
 have Fw30 := f28.same W30
 have f31 := (((((P5.keep K12 (ninS ne16 nin0)).other W21 (Or.inr (sn48 hw))).other W24 (Or.inr (sn52 hw))).other W27 (Or.inr (sn53 hw))).other W30 (Or.inr (sn54 hw)))
 have f32 := (f29.wr W30)
 obtain ⟨T33, h33, X33, e33, W33, st33⟩ := yp X30 hx hZ hown hby (w_53 hw) e30 f31 f32 (w_54 hw) (w_32 hw) (ty := .int) (v := (.int 0)) (by decide) rfl rfl 65 (l432_1 o1 q2) [] d2_65
 have N33 := Fr.snoc X33 N30 g_o1
 have Fw33 := f31.same W33
 have f34 := ((((((P1.keep K12 (ninS ne16 nin0)).other W21 (Or.inr (sn44 hw))).other W24 (Or.inr (sn55 hw))).other W27 (Or.inr (sn56 hw))).other W30 (Or.inr (sn57 hw))).other W33 (Or.inr (sn58 hw)))
 have f35 := (f32.wr W33)
 obtain ⟨T36, h36, X36, e36, W36, st36⟩ := putFN X33 hx hZ hown (own_w hw 55 rfl) Via.refl e33 f34 f35 (Or.inl (w_56 hw)) (w_32 hw) (ty := .boolean) (v' := (.int 0)) (by decide) rfl (by decide) (g := (mkF m 70 (l432_1 o1 q2) [(.int 0), (.ref o1)])) rfl rfl (hb hby d2_70)
 have N36 := Fr.snoc X36 N33 g_o1
 have Fw36 := f34.same W36
 obtain ⟨fs, hr, hrun, hended, hW, hsame⟩ := X36.leave (v := none) (fun _ => rfl)
 have KL : Keep h0 h36 [o8, o1] := ((((((((Keep.refl h0 [o8, o1]).trans K12 (allS (Or.inl (List.mem_of_getElem? (i := 0) rfl)) all0)).wr W21 (Or.inl (List.mem_of_getElem? (i := 1) rfl))).wr W24 (Or.inl (List.mem_of_getElem? (i := 1) rfl))).wr W27 (Or.inl (List.mem_of_getElem? (i := 1) rfl))).wr W30 (Or.inl (List.mem_of_getElem? (i := 1) rfl))).wr W33 (Or.inl (List.mem_of_getElem? (i := 1) rfl))).wr W36 (Or.inl (List.mem_of_getElem? (i := 1) rfl)))
 have f37 := ((((((f13.wr W21).wr W24).wr W27).wr W30).wr W33).wr W36)
 have f38 := ((((((f14.other W21 (Or.inl (Ne.symm ne16))).other W24 (Or.inl (Ne.symm ne16))).other W27 (Or.inl (Ne.symm ne16))).other W30 (Or.inl (Ne.symm ne16))).other W33 (Or.inl (Ne.symm ne16))).other W36 (Or.inl (Ne.symm ne16)))
 have f39 := (f35.wr W36)
 have f40 := ((Fw30.other W33 (Or.inr (sn59 hw))).other W36 (Or.inr (sn60 hw)))
 have f41 := (((Fw27.other W30 (Or.inr (sn61 hw))).other W33 (Or.inr (sn62 hw))).other W36 (Or.inr (sn63 hw)))
 have f42 := ((((Fw24.other W27 (Or.inr (sn64 hw))).other W30 (Or.inr (sn65 hw))).other W33 (Or.inr (sn66 hw))).other W36 (Or.inr (sn67 hw)))
 have f43 := (Fw33.other W36 (Or.inr (sn68 hw)))
 have f44 := (((((Fw21.other W24 (Or.inr (sn69 hw))).other W27 (Or.inr (sn70 hw))).other W30 (Or.inr (sn71 hw))).other W33 (Or.inr (sn72 hw))).other W36 (Or.inr (sn73 hw)))
 refine ⟨_, _, pre0 _ ?_, hrun, hended, _, _, rfl, ?_, ⟨_, rfl⟩, hW, hsame.mono (by decide) (by decide)⟩
 ·
  refine st1 _ ?_
  refine yit X1 hx hby d2_4 (l' := (l432_0 o1 q2)) rfl ?_
  refine yin X1 hx hby d2_5 rfl ?_
  refine st2 _ ?_
  refine yno X2 hx hby d2_10 (tlt (by decide : (3 : Int32) < (4 : Int32))).2.1 ?_
  refine st3 _ ?_
  refine yin X3 hx hby d2_17 rfl ?_
  refine X3.aaload hx (j := (3 : Int32)) (v := (.ref o8)) (by rw [e3]; exact Ar4.1) (State.isArrayOf_alike hZ.alike Ar4.2.1) rfl Ar4.2.2 hin4 hat4 (g := (mkF m 18 (l432_0 o1 q2) [(.int 3), (.ref o6)])) rfl rfl (hb hby d2_18) _ ?_
  refine st5 _ ?_
  refine yfn X5 hx hby d2_22 ((if0 _ _).trans (feq (by decide : ¬ ((1 : Int32) = (0 : Int32)))).1) ?_
  refine st8 _ ?_
  refine yin X8 hx hby d2_29 rfl ?_
  refine X8.aaload hx (j := (3 : Int32)) (v := (.ref o8)) (by rw [e8]; exact Ar9.1) (State.isArrayOf_alike hZ.alike Ar9.2.1) rfl Ar9.2.2 hin9 hat9 (g := (mkF m 30 (l432_0 o1 q2) [(.int 3), (.ref o6)])) rfl rfl (hb hby d2_30) _ ?_
  refine XS.lloadN X8.here hx rfl (hb hby d2_31) rfl ?_
  refine st10 _ ?_
  refine XS.iinc X10.here hx rfl (hb hby d2_35) rfl (l' := (l432_1 o1 q2)) rfl ?_
  refine ygo X10 hx hby 38 5 rfl d2_38 (by decide) ?_
  refine yin X10 hx hby d2_5 rfl ?_
  refine st18 _ ?_
  refine yye X18 hx hby 10 41 rfl d2_10 (flt (by decide : ¬ ((4 : Int32) < (4 : Int32)))).2.1 (by decide) ?_
  refine yan X18 hx hby d2_41 rfl rfl ?_
  refine st19 _ ?_
  refine st21 _ ?_
  refine yan X21 hx hby d2_48 rfl rfl ?_
  refine yic X21 hx hby d2_49 ?_
  refine st24 _ ?_
  refine yan X24 hx hby d2_53 rfl rfl ?_
  refine yic X24 hx hby d2_54 ?_
  refine st27 _ ?_
  refine yan X27 hx hby d2_58 rfl rfl ?_
  refine yic X27 hx hby d2_59 ?_
  refine st30 _ ?_
  refine yan X30 hx hby d2_63 rfl rfl ?_
  refine yic X30 hx hby d2_64 ?_
  refine st33 _ ?_
  show Steps p.tables e below (T33.setTop (mkF m 68 (l432_1 o1 q2) [])) _
  refine yan X33 hx hby d2_68 rfl rfl ?_
  refine yic X33 hx hby d2_69 ?_
  refine st36 _ ?_
  show Steps p.tables e below (T36.setTop (mkF m 73 (l432_1 o1 q2) [])) _
  exact X36.returnOut hx hret (hb hby d2_73) hr
 ·
  show Q24 Z w1 kw1 o1 o6 o8 kc7 p3 p4 p5 q2 h0 n0 _ T36.heap _
  rw [e36]
  exact ⟨rfl, N36, KL, f37, f38, f39, Fw36, f40, f41, f42, f43, f44⟩
def l433_0 (o1 o2 : Addr) (q3 : Int64) : Array Slot := #[.val (.ref o1), .val (.ref o2), .val (.long q3), .second]
theorem ef25 (m : MethodId) (x0 x1 : Addr) (x2 : Int64) : entryFrame m #[(.ref x0), (.ref x1), (.long x2)] 4 = mkF m 0 #[.val (.ref x0), .val (.ref x1), .val (.long x2), .second] [] := by first | (simp [entryFrame, mkF, argsToLocals, Value.category]; done) | rfl
def Q25 (Z : State) (o1 o2 o4 : Addr) (kc5 : ClassId) (q3 : Int64) (h0 : Heap) (n0 : Nat) (v : Option Value) (h : Heap) (L : List Loc) : Prop :=
  (v = none ∧ Fr n0 L ∧ Keep h0 h [o2, o1] ∧ (Exa Z h o2 cn6) ∧ (Fld Z h o2 cn6 "removed" "J" (.long q3)) ∧ (Exa Z h o1 cn7) ∧ (Fld Z h o1 cn7 "addsFirst" "Z" (.int 1)) ∧ (Fld Z h o1 cn7 "end" "I" (.int 4)) ∧ (Fld Z h o1 cn7 "first" "I" (.int 4)) ∧ (Fld Z h o1 cn7 "low" "I" (.int 3)) ∧ (Fld Z h o1 cn7 "removed" "I" (.int 0)) ∧ (Fld Z h o1 cn7 "slots" cn3 (.ref o4)))
set_option maxRecDepth 65536 in
set_option maxHeartbeats 40000000 in
theorem rm25 (l : Launch) (Z : State) (a0 : Array Value) (hw : HW a0 Z) (ws : List Jvm.Cond) (o1 o2 o4 : Addr) (kc5 : ClassId) (q3 : Int64) (h0 : Heap) (n0 : Nat) (O0 : Old Z n0 h0) (g_o1 : n0 ≤ o1) (g_o2 : n0 ≤ o2) (g_o4 : n0 ≤ o4) (Ov_kc5 : Ovr Z kc5 cn6) (hp0 : ¬ (q3 = (9223372036854775807 : Int64))) (P0 : Exa Z h0 o1 cn7) (P1 : Fld Z h0 o1 cn7 "addsFirst" "Z" (.int 1)) (P2 : Fld Z h0 o1 cn7 "end" "I" (.int 4)) (P3 : Fld Z h0 o1 cn7 "first" "I" (.int 3)) (P4 : Fld Z h0 o1 cn7 "low" "I" (.int 3)) (P5 : Fld Z h0 o1 cn7 "removed" "I" (.int 0)) (P6 : Fld Z h0 o1 cn7 "slots" cn3 (.ref o4)) (P7 : Exa Z h0 o2 cn6) (P8 : Fld Z h0 o2 cn6 "removed" "J" (.long 9223372036854775807)) (P9 : Arv Z h0 o4 kc5 (.object cn6) (8 : Int32) [.null, .null, .null, (.ref o2), .null, .null, .null, .null] .null) (P10 : Exa Z h0 o4 cn3) :
    MF l yn15 prog_41_method_8_code 4 none ws ({ frames := 1, cells := 0, slots := 0, locals := 14 } : Room) #[(.ref o1), (.ref o2), (.long q3)] Z h0 (Q25 Z o1 o2 o4 kc5 q3 h0 n0) := by
 refine MetFree.of_bodySF (plainFor_of_name pn1) hisR ?_
 intro p e s m args below meth c s₁ Bd hml hP hK
 obtain ⟨rfl, hZ, hh⟩ := hP
 obtain ⟨hx, hby, hown, hret, hlk, X0, e0, N0⟩ := own_bd Bd hh n0
 have pre0 := own_ct s₁ (p := p) (e := e) (below := below) (ef25 m o1 o2 q3)
 revert pre0
 generalize s₁.setTop (entryFrame m #[(.ref o1), (.ref o2), (.long q3)] 4) = E0
 intro pre0
 obtain ⟨_, T1, L1, X1, hQ1, st1⟩ := yv X0 hx hZ hown hby hml (y := yn14) (w_114 hw) (w_115 hw) (own_w hw 117 rfl) (w_116 hw) (w_118 hw) (w_5 hw) e0 P7 [(.long q3)] [] (rm20 l Z a0 hw [] o2 q3 h0 n0 O0 g_o2 hp0 P7 P8) 2 (l433_0 o1 o2 q3) rfl d15_2 (lenOf pd2 rfl) 0 0 0
 obtain ⟨rfl, Nq2, K3, f4, f5⟩ := hQ1
 have N1 := Fr.app N0 Nq2
 have O1 := Old.keep O0 K3 (allS g_o2 all0)
 have f6 := (P0.keep K3)
 have ne7 : o1 ≠ o2 := ne_exa f6 f4 (by decide)
 have f8 := (P5.keep K3 (ninS ne7 nin0))
 obtain ⟨T9, X9, e9, st9⟩ := yg X1 hx hZ hown hby (w_53 hw) rfl f8 7 (l433_0 o1 o2 q3) [(.ref o1)] d15_7
 obtain ⟨T10, h10, X10, e10, W10, st10⟩ := yp X9 hx hZ hown hby (w_53 hw) e9 f8 f6 (w_54 hw) (w_32 hw) (ty := .int) (v := (.int 1)) (by decide) rfl rfl 12 (l433_0 o1 o2 q3) [] d15_12
 have N10 := Fr.snoc X10 N1 g_o1
 have Fw10 := f8.same W10
 have O10 := Old.wr O1 W10 g_o1
 have f11 := ((P3.keep K3 (ninS ne7 nin0)).other W10 (Or.inr (sn62 hw)))
 obtain ⟨T12, X12, e12, st12⟩ := yag X10 hx hZ hown hby (w_47 hw) e10 f11 15 (l433_0 o1 o2 q3) [] d15_15 d15_16 rfl
 have f13 := ((P2.keep K3 (ninS ne7 nin0)).other W10 (Or.inr (sn59 hw)))
 obtain ⟨T14, X14, e14, st14⟩ := yag X12 hx hZ hown hby (w_49 hw) e12 f13 19 (l433_0 o1 o2 q3) [(.int 3)] d15_19 d15_20 rfl
 have f15 := ((P6.keep K3 (ninS ne7 nin0)).other W10 (Or.inr (sn72 hw)))
 obtain ⟨T16, X16, e16, st16⟩ := yag X14 hx hZ hown hby (w_40 hw) e14 f15 26 (l433_0 o1 o2 q3) [] d15_26 d15_27 rfl
 obtain ⟨T17, X17, e17, st17⟩ := yag X16 hx hZ hown hby (w_47 hw) e16 f11 30 (l433_0 o1 o2 q3) [(.ref o4)] d15_30 d15_31 rfl
 have f18 := ((P10.keep K3).wr W10)
 have f19 := (f4.wr W10)
 have ne20 : o4 ≠ o2 := ne_exa f18 f19 (by decide)
 have f21 := (f6.wr W10)
 have ne22 : o4 ≠ o1 := ne_exa f18 f21 (by decide)
 have f23 := ((P9.keep K3 (ninS ne20 nin0)).other W10 ne22)
 obtain ⟨cl24, Ar24, qa24, Sa24, Na24, Ha24, Ga24⟩ := id (f23)
 have hin24 := inb_of (j := (3 : Int32)) Sa24 ⟨by decide, by decide⟩
 have hat24 : cl24.slots[((3 : Int32)).toNatClampNeg]? = some (.ref o2) := Has.at Ha24 hin24 rfl
 have f25 := (f5.other W10 (Or.inl (Ne.symm ne7)))
 obtain ⟨_, T26, L26, X26, hQ26, st26⟩ := yv X17 hx hZ hown hby hml (y := yn7) (w_113 hw) (w_82 hw) (w_84 hw) (w_83 hw) (w_85 hw) (w_5 hw) e17 f19 [] [] (rm21 l Z a0 hw [] o2 q3 h10 n0 O10 g_o2 hp0 f25) 35 (l433_0 o1 o2 q3) rfl d15_35 (lenOf pd5 rfl) 0 0 0
 obtain ⟨rfl, Nq27, e28⟩ := hQ26
 have N26 := Fr.app N10 Nq27
 obtain ⟨T29, X29, e29, st29⟩ := yg X26 hx hZ hown hby (w_47 hw) e28 f11 43 (l433_0 o1 o2 q3) [(.ref o1)] d15_43
 obtain ⟨T30, h30, X30, e30, W30, st30⟩ := yp X29 hx hZ hown hby (w_47 hw) e29 f11 f21 (w_48 hw) (w_32 hw) (ty := .int) (v := (.int 4)) (by decide) rfl rfl 48 (l433_0 o1 o2 q3) [] d15_48
 have N30 := Fr.snoc X30 N26 g_o1
 have Fw30 := f11.same W30
 have O30 := Old.wr O10 W30 g_o1
 have f31 := (Fw10.other W30 (Or.inr (sn53 hw)))
 obtain ⟨T32, X32, e32, st32⟩ := yg X30 hx hZ hown hby (w_53 hw) e30 f31 53 (l433_0 o1 o2 q3) [(.ref o1)] d15_53
 have f33 := (f21.wr W30)
 obtain ⟨T34, h34, X34, e34, W34, st34⟩ := yp X32 hx hZ hown hby (w_53 hw) e32 f31 f33 (w_54 hw) (w_32 hw) (ty := .int) (v := (.int 0)) (by decide) rfl rfl 58 (l433_0 o1 o2 q3) [] d15_58
 have N34 := Fr.snoc X34 N30 g_o1
 have Fw34 := f31.same W34
 have O34 := Old.wr O30 W34 g_o1
 have f35 := (Fw30.other W34 (Or.inr (sn62 hw)))
 obtain ⟨T36, X36, e36, st36⟩ := yag X34 hx hZ hown hby (w_47 hw) e34 f35 15 (l433_0 o1 o2 q3) [] d15_15 d15_16 rfl
 have f37 := ((f13.other W30 (Or.inr (sn51 hw))).other W34 (Or.inr (sn59 hw)))
 obtain ⟨T38, X38, e38, st38⟩ := yag X36 hx hZ hown hby (w_49 hw) e36 f37 19 (l433_0 o1 o2 q3) [(.int 4)] d15_19 d15_20 rfl
 obtain ⟨T39, X39, e39, st39⟩ := yag X38 hx hZ hown hby (w_47 hw) e38 f35 64 (l433_0 o1 o2 q3) [] d15_64 d15_65 rfl
 have f40 := ((((P4.keep K3 (ninS ne7 nin0)).other W10 (Or.inr (sn66 hw))).other W30 (Or.inr (sn64 hw))).other W34 (Or.inr (sn66 hw)))
 obtain ⟨T41, X41, e41, st41⟩ := yag X39 hx hZ hown hby (w_51 hw) e39 f40 68 (l433_0 o1 o2 q3) [(.int 4)] d15_68 d15_69 rfl
 obtain ⟨T42, X42, e42, st42⟩ := yag X41 hx hZ hown hby (w_53 hw) e41 Fw34 73 (l433_0 o1 o2 q3) [(.int 1)] d15_73 d15_74 rfl
 have f43 := (f33.wr W34)
 obtain ⟨_, T44, L44, X44, hQ44, st44⟩ := yv X42 hx hZ hown hby hml (y := yn3) (own_w hw 100 rfl) (w_58 hw) (own_w hw 60 rfl) (w_59 hw) (own_w hw 61 rfl) (w_33 hw) e42 f43 [] [(.int 1)] (rm4 l Z a0 hw [] o1 ((4 : Int32)) ((4 : Int32)) ((0 : Int32)) h34 n0 O34 g_o1 f37 f35 Fw34) 79 (l433_0 o1 o2 q3) rfl d15_79 (lenOf pd3 rfl) 1 0 0
 obtain ⟨rfl, Nq45, e46⟩ := hQ44
 have N44 := Fr.app N34 Nq45
 obtain ⟨_, T47, L47, X47, hQ47, st47⟩ := own_cs X44 hx hZ hown (y := yn10) (own_w hw 101 rfl) (own_w hw 102 rfl) (own_w hw 104 rfl) (w_103 hw) e46 (argsL := [(.int (((4 : Int32) - (4 : Int32)) - (0 : Int32))), (.int 4)]) (rest := [(.int 1)]) (rm11 l Z a0 hw [] ((((4 : Int32) - (4 : Int32)) - (0 : Int32))) ((4 : Int32)) h34 n0 O34 ) (g := (mkF m 83 (l433_0 o1 o2 q3) [(.int 4), (.int (((4 : Int32) - (4 : Int32)) - (0 : Int32))), (.int 1)])) rfl (by rw [hml]; rfl) rfl (hb hby d15_83) (lenOf pd8 rfl) (W := 1) (c1 := 0) (s1 := 0)
 have pre48 : Go p e below T44 (mkF m 83 (l433_0 o1 o2 q3) [(.int 4), (.int (((4 : Int32) - (4 : Int32)) - (0 : Int32))), (.int 1)]) E0 := fun t k => by
  refine pre0 _ ?_
  refine yan X0 hx hby d15_0 rfl rfl ?_
  refine XS.lloadN X0.here hx rfl (hb hby d15_1) rfl ?_
  refine st1 _ ?_
  refine yan X1 hx hby d15_5 rfl rfl ?_
  refine XS.dup X1.here hx rfl (hb hby d15_6) rfl rfl ?_
  refine st9 _ ?_
  refine yic X9 hx hby d15_10 ?_
  refine yad X9 hx hby d15_11 ?_
  refine st10 _ ?_
  refine st12 _ ?_
  refine st14 _ ?_
  refine yno X14 hx hby d15_23 (tlt (by decide : (3 : Int32) < (4 : Int32))).2.1 ?_
  refine st16 _ ?_
  refine st17 _ ?_
  refine X17.aaload hx (j := (3 : Int32)) (v := (.ref o2)) (by rw [e17]; exact Ar24.1) (State.isArrayOf_alike hZ.alike Ar24.2.1) rfl Ar24.2.2 hin24 hat24 (g := (mkF m 34 (l433_0 o1 o2 q3) [(.int 3), (.ref o4)])) rfl rfl (hb hby d15_34) _ ?_
  refine st26 _ ?_
  refine yfn X26 hx hby d15_38 ((if0 _ _).trans (teq (by decide : (0 : Int32) = (0 : Int32))).2) ?_
  refine yan X26 hx hby d15_41 rfl rfl ?_
  refine XS.dup X26.here hx rfl (hb hby d15_42) rfl rfl ?_
  refine st29 _ ?_
  refine yic X29 hx hby d15_46 ?_
  refine yad X29 hx hby d15_47 ?_
  refine st30 _ ?_
  refine yan X30 hx hby d15_51 rfl rfl ?_
  refine XS.dup X30.here hx rfl (hb hby d15_52) rfl rfl ?_
  refine st32 _ ?_
  refine yic X32 hx hby d15_56 ?_
  refine ysu X32 hx hby d15_57 ?_
  refine st34 _ ?_
  refine ygo X34 hx hby 61 15 rfl d15_61 (by decide) ?_
  refine st36 _ ?_
  refine st38 _ ?_
  refine yye X38 hx hby 23 64 rfl d15_23 (flt (by decide : ¬ ((4 : Int32) < (4 : Int32)))).2.1 (by decide) ?_
  show Steps p.tables e below (T38.setTop (mkF m 64 (l433_0 o1 o2 q3) [])) _
  refine st39 _ ?_
  refine st41 _ ?_
  refine ysu X41 hx hby d15_72 ?_
  refine st42 _ ?_
  refine yad X42 hx hby d15_77 ?_
  refine yan X42 hx hby d15_78 rfl rfl ?_
  refine st44 _ ?_
  refine yic X44 hx hby d15_82 ?_
  exact k
 rcases hQ47 with ⟨hc49, rfl, Nq50, e51⟩ | ⟨hc52, rfl, Nq53, e54⟩
 ·
  have N47 := Fr.app N44 Nq50
  obtain ⟨fs, hr, hrun, hended, hW, hsame⟩ := X47.leave (v := none) (fun _ => rfl)
  have KL : Keep h0 h34 [o2, o1] := (((((Keep.refl h0 [o2, o1]).trans K3 (allS (Or.inl (List.mem_of_getElem? (i := 0) rfl)) all0)).wr W10 (Or.inl (List.mem_of_getElem? (i := 1) rfl))).wr W30 (Or.inl (List.mem_of_getElem? (i := 1) rfl))).wr W34 (Or.inl (List.mem_of_getElem? (i := 1) rfl)))
  have f55 := ((f19.wr W30).wr W34)
  have f56 := ((f25.other W30 (Or.inl (Ne.symm ne7))).other W34 (Or.inl (Ne.symm ne7)))
  have f57 := ((((P1.keep K3 (ninS ne7 nin0)).other W10 (Or.inr (sn58 hw))).other W30 (Or.inr (sn56 hw))).other W34 (Or.inr (sn58 hw)))
  have f58 := ((f15.other W30 (Or.inr (sn70 hw))).other W34 (Or.inr (sn72 hw)))
  refine ⟨_, _, pre48 _ ?_, hrun, hended, _, _, rfl, ?_, ⟨_, rfl⟩, hW, hsame.mono (by decide) (by decide)⟩
  ·
   refine st47 _ ?_
   refine yye X47 hx hby 86 93 rfl d15_86 (flt (by decide : ¬ ((4 : Int32) < (1 : Int32)))).2.2.2 (by decide) ?_
   show Steps p.tables e below (T47.setTop (mkF m 93 (l433_0 o1 o2 q3) [])) _
   exact X47.returnOut hx hret (hb hby d15_93) hr
  ·
   show Q25 Z o1 o2 o4 kc5 q3 h0 n0 _ T47.heap _
   rw [e51]
   exact ⟨rfl, N47, KL, f55, f56, f43, f57, f37, f35, f40, Fw34, f58⟩
 ·
  exact absurd (own_glt1 (n := 4) (k := (4 : Int32)) (by decide) (by have q0 := own_sub (x := ((4 : Int32) - (4 : Int32))) (k := (0 : Int32)) (n := 0) (lo := 0) (hi := 0) (by decide) (by have q0 := own_sub (x := (4 : Int32)) (k := (4 : Int32)) (n := 4) (lo := 4) (hi := 4) (by decide) (by have q0 := (by decide : ((4 : Int32)).toInt = 4); omega) (by decide) (by decide); omega) (by decide) (by decide); omega)) hc52
def l434_0 (o1 : Addr) (q2 : Int64) (p4 : Int32) : Array Slot := #[.val (.ref o1), .val (.long q2), .second, .val (.int p4)]
theorem ef26 (m : MethodId) (x0 : Addr) (x1 : Int64) : entryFrame m #[(.ref x0), (.long x1)] 4 = mkF m 0 #[.val (.ref x0), .val (.long x1), .second, .unset] [] := by first | (simp [entryFrame, mkF, argsToLocals, Value.category]; done) | rfl
def Q26 (Z : State) (w1 : Addr) (kw1 : ClassId) (o1 o7 : Addr) (p3 p4 : Int32) (p5 p6 : Int32) (q2 : Int64) (h0 : Heap) (n0 : Nat) (v : Option Value) (h : Heap) (L : List Loc) : Prop :=
  (v = none ∧ Fr n0 L ∧ Keep h0 h [o1] ∧ (Exa Z h o1 cn7) ∧ (Fld Z h o1 cn7 "addsFirst" "Z" (.int 0)) ∧ (Fld Z h o1 cn7 "end" "I" (.int 0)) ∧ (Fld Z h o1 cn7 "first" "I" (.int 0)) ∧ (Fld Z h o1 cn7 "low" "I" (.int 0)) ∧ (Fld Z h o1 cn7 "removed" "I" (.int 0)) ∧ (Fld Z h o1 cn7 "slots" cn3 (.ref w1)))
set_option maxRecDepth 65536 in
set_option maxHeartbeats 40000000 in
theorem rm26 (l : Launch) (Z : State) (a0 : Array Value) (hw : HW a0 Z) (w1 : Addr) (kw1 : ClassId) (G : GW Z w1 kw1) (ws : List Jvm.Cond) (o1 o7 : Addr) (p3 p4 : Int32) (p5 p6 : Int32) (q2 : Int64) (h0 : Heap) (n0 : Nat) (O0 : Old Z n0 h0) (g_o1 : n0 ≤ o1) (g_o7 : n0 ≤ o7) (P0 : Exa Z h0 o1 cn7) (P1 : Fld Z h0 o1 cn7 "addsFirst" "Z" (.int p3)) (P2 : Fld Z h0 o1 cn7 "end" "I" (.int p4)) (P3 : Fld Z h0 o1 cn7 "first" "I" (.int p4)) (P4 : Fld Z h0 o1 cn7 "low" "I" (.int p5)) (P5 : Fld Z h0 o1 cn7 "removed" "I" (.int p6)) (P6 : Fld Z h0 o1 cn7 "slots" cn3 (.ref o7)) :
    MF l yn2 prog_41_method_9_code 4 none ws ({ frames := 0, cells := 0, slots := 0, locals := 0 } : Room) #[(.ref o1), (.long q2)] Z h0 (Q26 Z w1 kw1 o1 o7 p3 p4 p5 p6 q2 h0 n0) := by
 obtain ⟨S_w1, A_w1⟩ := id G
 refine MetFree.of_bodySF (plainFor_of_name pn1) hisR ?_
 intro p e s m args below meth c s₁ Bd hml hP hK
 obtain ⟨rfl, hZ, hh⟩ := hP
 obtain ⟨hx, hby, hown, hret, hlk, X0, e0, N0⟩ := own_bd Bd hh n0
 have pre0 := own_ct s₁ (p := p) (e := e) (below := below) (ef26 m o1 q2)
 obtain ⟨T1, X1, e1, st1⟩ := yag X0 hx hZ hown hby (w_47 hw) e0 P3 0 #[.val (.ref o1), .val (.long q2), .second, .unset] [] d2_0 d2_1 rfl
 obtain ⟨T2, X2, e2, st2⟩ := yag X1 hx hZ hown hby (w_49 hw) e1 P2 6 (l434_0 o1 q2 p4) [(.int p4)] d2_6 d2_7 rfl
 obtain ⟨T3, X3, e3, st3⟩ := getS2 X2 hx hZ hown (host := "") (Or.inl (own_w hw 38 rfl)) Via.refl e2 (S_w1.ext O0.2) (g := (mkF m 42 (l434_0 o1 q2 p4) [(.ref o1)])) rfl (hb hby d2_42)
 obtain ⟨T4, h4, X4, e4, W4, st4⟩ := yp X3 hx hZ hown hby (w_40 hw) e3 P6 P0 (w_41 hw) (w_32 hw) (ty := (.array (.object cn6))) (v := (.ref w1)) (by decide) rfl rfl 45 (l434_0 o1 q2 p4) [] d2_45
 have N4 := Fr.snoc X4 N0 g_o1
 have Fw4 := P6.same W4
 have f5 := (P4.other W4 (Or.inr (sn47 hw)))
 have f6 := (P0.wr W4)
 obtain ⟨T7, h7, X7, e7, W7, st7⟩ := yp X4 hx hZ hown hby (w_51 hw) e4 f5 f6 (w_52 hw) (w_32 hw) (ty := .int) (v := (.int 0)) (by decide) rfl rfl 50 (l434_0 o1 q2 p4) [] d2_50
 have N7 := Fr.snoc X7 N4 g_o1
 have Fw7 := f5.same W7
 have f8 := ((P3.other W4 (Or.inr (sn46 hw))).other W7 (Or.inr (sn49 hw)))
 have f9 := (f6.wr W7)
 obtain ⟨T10, h10, X10, e10, W10, st10⟩ := yp X7 hx hZ hown hby (w_47 hw) e7 f8 f9 (w_48 hw) (w_32 hw) (ty := .int) (v := (.int 0)) (by decide) rfl rfl 55 (l434_0 o1 q2 p4) [] d2_55
 have N10 := Fr.snoc X10 N7 g_o1
 have Fw10 := f8.same W10
 have f11 := (((P2.other W4 (Or.inr (sn45 hw))).other W7 (Or.inr (sn50 hw))).other W10 (Or.inr (sn51 hw)))
 have f12 := (f9.wr W10)
 obtain ⟨T13, h13, X13, e13, W13, st13⟩ := yp X10 hx hZ hown hby (w_49 hw) e10 f11 f12 (w_50 hw) (w_32 hw) (ty := .int) (v := (.int 0)) (by decide) rfl rfl 60 (l434_0 o1 q2 p4) [] d2_60
 have N13 := Fr.snoc X13 N10 g_o1
 have Fw13 := f11.same W13
 have f14 := ((((P5.other W4 (Or.inr (sn48 hw))).other W7 (Or.inr (sn52 hw))).other W10 (Or.inr (sn53 hw))).other W13 (Or.inr (sn54 hw)))
 have f15 := (f12.wr W13)
 obtain ⟨T16, h16, X16, e16, W16, st16⟩ := yp X13 hx hZ hown hby (w_53 hw) e13 f14 f15 (w_54 hw) (w_32 hw) (ty := .int) (v := (.int 0)) (by decide) rfl rfl 65 (l434_0 o1 q2 p4) [] d2_65
 have N16 := Fr.snoc X16 N13 g_o1
 have Fw16 := f14.same W16
 have f17 := (((((P1.other W4 (Or.inr (sn44 hw))).other W7 (Or.inr (sn55 hw))).other W10 (Or.inr (sn56 hw))).other W13 (Or.inr (sn57 hw))).other W16 (Or.inr (sn58 hw)))
 have f18 := (f15.wr W16)
 obtain ⟨T19, h19, X19, e19, W19, st19⟩ := putFN X16 hx hZ hown (own_w hw 55 rfl) Via.refl e16 f17 f18 (Or.inl (w_56 hw)) (w_32 hw) (ty := .boolean) (v' := (.int 0)) (by decide) rfl (by decide) (g := (mkF m 70 (l434_0 o1 q2 p4) [(.int 0), (.ref o1)])) rfl rfl (hb hby d2_70)
 have N19 := Fr.snoc X19 N16 g_o1
 have Fw19 := f17.same W19
 obtain ⟨fs, hr, hrun, hended, hW, hsame⟩ := X19.leave (v := none) (fun _ => rfl)
 have KL : Keep h0 h19 [o1] := (((((((Keep.refl h0 [o1]).wr W4 (Or.inl (List.mem_of_getElem? (i := 0) rfl))).wr W7 (Or.inl (List.mem_of_getElem? (i := 0) rfl))).wr W10 (Or.inl (List.mem_of_getElem? (i := 0) rfl))).wr W13 (Or.inl (List.mem_of_getElem? (i := 0) rfl))).wr W16 (Or.inl (List.mem_of_getElem? (i := 0) rfl))).wr W19 (Or.inl (List.mem_of_getElem? (i := 0) rfl)))
 have f20 := (f18.wr W19)
 have f21 := ((Fw13.other W16 (Or.inr (sn59 hw))).other W19 (Or.inr (sn60 hw)))
 have f22 := (((Fw10.other W13 (Or.inr (sn61 hw))).other W16 (Or.inr (sn62 hw))).other W19 (Or.inr (sn63 hw)))
 have f23 := ((((Fw7.other W10 (Or.inr (sn64 hw))).other W13 (Or.inr (sn65 hw))).other W16 (Or.inr (sn66 hw))).other W19 (Or.inr (sn67 hw)))
 have f24 := (Fw16.other W19 (Or.inr (sn68 hw)))
 have f25 := (((((Fw4.other W7 (Or.inr (sn69 hw))).other W10 (Or.inr (sn70 hw))).other W13 (Or.inr (sn71 hw))).other W16 (Or.inr (sn72 hw))).other W19 (Or.inr (sn73 hw)))
 refine ⟨_, _, pre0 _ ?_, hrun, hended, _, _, rfl, ?_, ⟨_, rfl⟩, hW, hsame.mono (by decide) (by decide)⟩
 ·
  refine st1 _ ?_
  refine yit X1 hx hby d2_4 (l' := (l434_0 o1 q2 p4)) rfl ?_
  refine yin X1 hx hby d2_5 rfl ?_
  refine st2 _ ?_
  refine yye X2 hx hby 10 41 rfl d2_10 (flt (Int32.lt_irrefl : ¬ (p4 < p4))).2.1 (by decide) ?_
  refine yan X2 hx hby d2_41 rfl rfl ?_
  refine st3 _ ?_
  refine st4 _ ?_
  refine yan X4 hx hby d2_48 rfl rfl ?_
  refine yic X4 hx hby d2_49 ?_
  refine st7 _ ?_
  refine yan X7 hx hby d2_53 rfl rfl ?_
  refine yic X7 hx hby d2_54 ?_
  refine st10 _ ?_
  refine yan X10 hx hby d2_58 rfl rfl ?_
  refine yic X10 hx hby d2_59 ?_
  refine st13 _ ?_
  refine yan X13 hx hby d2_63 rfl rfl ?_
  refine yic X13 hx hby d2_64 ?_
  refine st16 _ ?_
  refine yan X16 hx hby d2_68 rfl rfl ?_
  refine yic X16 hx hby d2_69 ?_
  refine st19 _ ?_
  show Steps p.tables e below (T19.setTop (mkF m 73 (l434_0 o1 q2 p4) [])) _
  exact X19.returnOut hx hret (hb hby d2_73) hr
 ·
  show Q26 Z w1 kw1 o1 o7 p3 p4 p5 p6 q2 h0 n0 _ T19.heap _
  rw [e19]
  exact ⟨rfl, N19, KL, f20, Fw19, f21, f22, f23, f24, f25⟩
def l435_0 (dp1 : Int32) (dq2 q3 q4 : Int64) (dp3 dp4 : Int32) (zz51 zz52 : Int32) (dq50 : Int64) (da5 o6 : Addr) (o7 o8 o9 : Addr) : Array Slot := #[.val (.int dp1), .val (.long dq2), .second, .val (.long q3), .second, .val (.long q4), .second, .val (.int 0), .val (.int 1), .val (.int dp3), .val (.int dp4), .val (.int 0), .val (.int zz51), .val (.int zz52), .val (.long dq50), .second, .val (.ref da5), .val (.ref o6), .val (.ref o7), .val (.ref o8), .val (.ref o9), .unset, .unset, .unset, .unset, .unset, .unset, .unset, .unset, .unset]
def l435_1 (dp1 : Int32) (dq2 q3 q4 : Int64) (dp3 dp4 zz52 : Int32) (dq50 : Int64) (da5 o6 : Addr) (o7 o8 o9 : Addr) : Array Slot := #[.val (.int dp1), .val (.long dq2), .second, .val (.long q3), .second, .val (.long q4), .second, .val (.int 0), .val (.int 1), .val (.int dp3), .val (.int dp4), .val (.int 0), .val (.int 0), .val (.int zz52), .val (.long dq50), .second, .val (.ref da5), .val (.ref o6), .val (.ref o7), .val (.ref o8), .val (.ref o9), .unset, .unset, .unset, .unset, .unset, .unset, .unset, .unset, .unset]
def l435_2 (dp1 : Int32) (dq2 q3 q4 : Int64) (dp3 dp4 zz52 : Int32) (dq50 : Int64) (da5 o6 : Addr) (o7 o8 o9 : Addr) : Array Slot := #[.val (.int dp1), .val (.long dq2), .second, .val (.long q3), .second, .val (.long q4), .second, .val (.int 0), .val (.int 1), .val (.int dp3), .val (.int dp4), .val (.int 0), .val (.int 1), .val (.int zz52), .val (.long dq50), .second, .val (.ref da5), .val (.ref o6), .val (.ref o7), .val (.ref o8), .val (.ref o9), .unset, .unset, .unset, .unset, .unset, .unset, .unset, .unset, .unset]
set_option maxRecDepth 65536 in
set_option maxHeartbeats 40000000 in
theorem ct10 {p : Program} {l : Launch} {e : Env} {s : State} {m : MethodId} {below : List Frame} {meth : Method} {c : Code} {E0 T0 : State} {locs : List Loc} {Z : State} {a0 : Array Value} (hw : HW a0 Z) (w1 : Addr) (kw1 : ClassId) (G : GW Z w1 kw1) (o6 o7 : Addr) (o8 o9 o10 : Addr) (kc11 : ClassId) (dq50 : Int64) (zz51 zz52 dp1 : Int32) (dq2 q3 q4 : Int64) (dp3 dp4 : Int32) (da5 : Addr) (p1 : Int32) (q2 : Int64) (h0 : Heap) (n0 : Nat) (O0 : Old Z n0 h0)
    (hx : p.tables.exec = Jvm.exec) (hby : c.code = code) (hml : c.maxLocals = 30) (hown : s.vm.findClass cn8 = some m.cls) (hret : meth.sig.returnType = ret) (hlk : meth.locks = false) (hZ : Z.Warmed39 s.vm)
    (X0 : Stand p l e room_1 s m #[(.int p1), (.long q2), (.long q3), (.long q4)] below meth c T0 locs 7 46) (e0 : T0.heap = h0) (N0 : Fr n0 locs) (pre0 : Go p e below T0 (mkF m 236 (l435_0 dp1 dq2 q3 q4 dp3 dp4 zz51 zz52 dq50 da5 o6 o7 o8 o9) []) E0) (g_o6 : n0 ≤ o6) (g_o7 : n0 ≤ o7) (g_o8 : n0 ≤ o8) (g_o9 : n0 ≤ o9) (g_o10 : n0 ≤ o10) (ne_o6_o7 : o6 ≠ o7) (Ov_kc11 : Ovr Z kc11 cn6) (P0 : Exa Z h0 o6 cn6) (P1 : Fld Z h0 o6 cn6 "removed" "J" (.long 9223372036854775807)) (P2 : Exa Z h0 o7 cn6) (P3 : Fld Z h0 o7 cn6 "removed" "J" (.long 9223372036854775807)) (P4 : Exa Z h0 o8 cn6) (P6 : Exa Z h0 o9 cn7) (P7 : Fld Z h0 o9 cn7 "addsFirst" "Z" (.int 1)) (P8 : Fld Z h0 o9 cn7 "end" "I" (.int 4)) (P9 : Fld Z h0 o9 cn7 "first" "I" (.int 3)) (P10 : Fld Z h0 o9 cn7 "low" "I" (.int 3)) (P11 : Fld Z h0 o9 cn7 "removed" "I" (.int 0)) (P12 : Fld Z h0 o9 cn7 "slots" cn3 (.ref o10)) (P13 : Arv Z h0 o10 kc11 (.object cn6) (8 : Int32) [.null, .null, .null, (.ref o7), .null, .null, .null, .null] .null) (P14 : Exa Z h0 o10 cn3) (hC0 : ¬ (dq50 = (9223372036854775807 : Int64))) (bzz51 : 0 ≤ zz51.toInt ∧ zz51.toInt ≤ 1) (bzz52 : 0 ≤ zz52.toInt ∧ zz52.toInt ≤ 1) :
    ∃ (s₂ : State) (o : Outcome), Steps p.tables e below E0 s₂ ∧ s₂.status = .running ∧ Ended s₂ below o ∧ ∃ v L, o = .returned v ∧ Q0 n0 v s₂.heap L ∧ FrameEnd s o s₂ L 24 192 := by
 obtain ⟨S_w1, A_w1⟩ := id G
 have pre1 : Go p e below T0 (mkF m 252 (l435_0 dp1 dq2 q3 q4 dp3 dp4 zz51 zz52 dq50 da5 o6 o7 o8 o9) [(.int zz51)]) E0 := fun t k => by
  refine pre0 _ ?_
  refine yil X0 hx hby at_236 rfl ?_
  refine XS.ifYes X0.here hx rfl (pc0 := 238) (pc' := 250) rfl (hb hby at_238) rfl ((if0 _ _).trans (teq (by decide : (0 : Int32) = (0 : Int32))).1) (by decide) (by decide) ?_
  refine yil X0 hx hby at_250 rfl ?_
  exact k
 by_cases hc2 : zz51 = (0 : Int32)
 ·
  have pre3 : Go p e below T0 (mkF m 252 (l435_1 dp1 dq2 q3 q4 dp3 dp4 zz52 dq50 da5 o6 o7 o8 o9) [(.int 0)]) E0 := fun t k => pre1 t (by rw [hc2]; exact k)
  obtain ⟨_, T4, L4, X4, hQ4, st4⟩ := yv X0 hx hZ hown hby hml (y := yn2) (own_w hw 42 rfl) (w_43 hw) (own_w hw 45 rfl) (w_44 hw) (own_w hw 46 rfl) (w_33 hw) e0 P6 [(.long q3)] [] (rm24 l Z a0 hw w1 kw1 G [] o9 o10 o7 kc11 ((1 : Int32)) ((3 : Int32)) ((0 : Int32)) q3 h0 n0 O0 g_o9 g_o10 g_o7 Ov_kc11 P6 P7 P8 P9 P10 P11 P12 P13 P2 P3) 267 (l435_1 dp1 dq2 q3 q4 dp3 dp4 zz52 dq50 da5 o6 o7 o8 o9) rfl at_267 (lenOf pd2 rfl) 0 7 46
  obtain ⟨rfl, Nq5, K6, f7, f8, f9, f10, f11, f12, f13, f14, f15⟩ := hQ4
  have N4 := Fr.app N0 Nq5
  have O4 := Old.keep O0 K6 (allS g_o7 (allS g_o9 all0))
  have pre16 : Go p e below T4 (mkF m 270 (l435_1 dp1 dq2 q3 q4 dp3 dp4 zz52 dq50 da5 o6 o7 o8 o9) []) E0 := fun t k => by
   refine pre3 _ ?_
   refine XS.ifYes X0.here hx rfl (pc0 := 252) (pc' := 264) rfl (hb hby at_252) rfl ((if0 _ _).trans (teq (by decide : (0 : Int32) = (0 : Int32))).1) (by decide) (by decide) ?_
   refine yal X0 hx hby at_264 rfl rfl ?_
   refine XS.lloadN X0.here hx rfl (hb hby at_266) rfl ?_
   refine st4 _ ?_
   exact k
  have f17 := (P0.keep K6)
  have ne18 : o6 ≠ o9 := ne_exa f17 f9 (by decide)
  have f19 := (P1.keep K6 (ninS ne_o6_o7 (ninS ne18 nin0)))
  have f20 := (P4.keep K6)
  exact ct8 hw w1 kw1 G o6 o7 o8 o9 q3 zz52 dp1 dq2 q4 dp3 dp4 dq50 da5 p1 q2 T4.heap n0 O4 hx hby hml hown hret hlk hZ (X4.more (by decide) (by decide)) rfl N4 pre16 g_o6 g_o7 g_o8 g_o9 f17 f19 f7 f8 f20 f9 f10 f11 f12 f13 f14 f15 (by have q0 := bzz52; omega)
 ·
  have hq21 : zz51 = (1 : Int32) := (own_geq (n := 1) (k := (1 : Int32)) (by decide) (by have q0 := bzz51; have q1 := own_neq (n := 0) (k := (0 : Int32)) (by decide) hc2; omega))
  have pre22 : Go p e below T0 (mkF m 252 (l435_2 dp1 dq2 q3 q4 dp3 dp4 zz52 dq50 da5 o6 o7 o8 o9) [(.int 1)]) E0 := fun t k => pre1 t (by rw [hq21]; exact k)
  obtain ⟨_, T23, L23, X23, hQ23, st23⟩ := yv X0 hx hZ hown hby hml (y := yn15) (own_w hw 119 rfl) (own_w hw 120 rfl) (own_w hw 122 rfl) (own_w hw 121 rfl) (own_w hw 123 rfl) (w_33 hw) e0 P6 [(.ref o7), (.long dq50)] [] (rm25 l Z a0 hw [] o9 o7 o10 kc11 dq50 h0 n0 O0 g_o9 g_o7 g_o10 Ov_kc11 hC0 P6 P7 P8 P9 P10 P11 P12 P2 P3 P13 P14) 261 (l435_2 dp1 dq2 q3 q4 dp3 dp4 zz52 dq50 da5 o6 o7 o8 o9) rfl at_261 (lenOf pd10 rfl) 0 7 46
  obtain ⟨rfl, Nq24, K25, f26, f27, f28, f29, f30, f31, f32, f33, f34⟩ := hQ23
  have N23 := Fr.app N0 Nq24
  have O23 := Old.keep O0 K25 (allS g_o7 (allS g_o9 all0))
  obtain ⟨_, T35, L35, X35, hQ35, st35⟩ := yv X23 hx hZ hown hby hml (y := yn2) (own_w hw 42 rfl) (w_43 hw) (own_w hw 45 rfl) (w_44 hw) (own_w hw 46 rfl) (w_33 hw) rfl f28 [(.long q3)] [] (rm26 l Z a0 hw w1 kw1 G [] o9 o10 ((1 : Int32)) ((4 : Int32)) ((3 : Int32)) ((0 : Int32)) q3 T23.heap n0 O23 g_o9 g_o10 f28 f29 f30 f31 f32 f33 f34) 267 (l435_2 dp1 dq2 q3 q4 dp3 dp4 zz52 dq50 da5 o6 o7 o8 o9) rfl at_267 (lenOf pd2 rfl) 0 7 46
  obtain ⟨rfl, Nq36, K37, f38, f39, f40, f41, f42, f43, f44⟩ := hQ35
  have N35 := Fr.app N23 Nq36
  have O35 := Old.keep O23 K37 (allS g_o9 all0)
  have pre45 : Go p e below T35 (mkF m 270 (l435_2 dp1 dq2 q3 q4 dp3 dp4 zz52 dq50 da5 o6 o7 o8 o9) []) E0 := fun t k => by
   refine pre22 _ ?_
   refine yfn X0 hx hby at_252 ((if0 _ _).trans (feq (by decide : ¬ ((1 : Int32) = (0 : Int32)))).1) ?_
   refine yal X0 hx hby at_255 rfl rfl ?_
   refine yal X0 hx hby at_257 rfl rfl ?_
   refine XS.lload X0.here hx rfl (hb hby at_259) rfl ?_
   refine st23 _ ?_
   refine yal X23 hx hby at_264 rfl rfl ?_
   refine XS.lloadN X23.here hx rfl (hb hby at_266) rfl ?_
   refine st35 _ ?_
   exact k
  have f46 := ((P0.keep K25).keep K37)
  have ne47 : o6 ≠ o9 := ne_exa f46 f38 (by decide)
  have f48 := ((P1.keep K25 (ninS ne_o6_o7 (ninS ne47 nin0))).keep K37 (ninS ne47 nin0))
  have f49 := (f26.keep K37)
  have ne50 : o7 ≠ o9 := ne_exa f49 f38 (by decide)
  have f51 := (f27.keep K37 (ninS ne50 nin0))
  have f52 := ((P4.keep K25).keep K37)
  exact ct9 hw w1 kw1 G o6 o7 o8 o9 dq50 zz52 dp1 dq2 q3 q4 dp3 dp4 da5 p1 q2 T35.heap n0 O35 hx hby hml hown hret hlk hZ (X35.more (by decide) (by decide)) rfl N35 pre45 g_o6 g_o7 g_o8 g_o9 f46 f48 f49 f51 f52 f38 f39 f40 f41 f42 f43 f44 (by have q0 := bzz52; omega)
def l436_0 (dp1 : Int32) (dq2 q3 q4 : Int64) (dp3 dp4 zz50 : Int32) (dq50 : Int64) (da5 o6 : Addr) (o7 o8 o9 : Addr) : Array Slot := #[.val (.int dp1), .val (.long dq2), .second, .val (.long q3), .second, .val (.long q4), .second, .val (.int 1), .val (.int 0), .val (.int dp3), .val (.int dp4), .val (.int 0), .val (.int 0), .val (.int zz50), .val (.long dq50), .second, .val (.ref da5), .val (.ref o6), .val (.ref o7), .val (.ref o8), .val (.ref o9), .val (.int 1), .val (.long q3), .second, .val (.long 9223372036854775807), .second, .unset, .unset, .unset, .unset]
def l436_1 (dp1 : Int32) (dq2 q3 q4 : Int64) (dp3 dp4 zz50 : Int32) (dq50 : Int64) (da5 o6 : Addr) (o7 o8 o9 : Addr) : Array Slot := #[.val (.int dp1), .val (.long dq2), .second, .val (.long q3), .second, .val (.long q4), .second, .val (.int 1), .val (.int 0), .val (.int dp3), .val (.int dp4), .val (.int 0), .val (.int 0), .val (.int zz50), .val (.long dq50), .second, .val (.ref da5), .val (.ref o6), .val (.ref o7), .val (.ref o8), .val (.ref o9), .val (.int 1), .val (.long q3), .second, .unset, .unset, .unset, .unset, .unset, .unset]
def l436_2 (dp1 : Int32) (dq2 q3 q4 : Int64) (dp3 dp4 zz50 : Int32) (dq50 : Int64) (da5 o6 : Addr) (o7 o8 o9 : Addr) : Array Slot := #[.val (.int dp1), .val (.long dq2), .second, .val (.long q3), .second, .val (.long q4), .second, .val (.int 1), .val (.int 0), .val (.int dp3), .val (.int dp4), .val (.int 0), .val (.int 0), .val (.int zz50), .val (.long dq50), .second, .val (.ref da5), .val (.ref o6), .val (.ref o7), .val (.ref o8), .val (.ref o9), .unset, .unset, .unset, .unset, .unset, .unset, .unset, .unset, .unset]
set_option maxRecDepth 65536 in
set_option maxHeartbeats 40000000 in
theorem ct12 {p : Program} {l : Launch} {e : Env} {s : State} {m : MethodId} {below : List Frame} {meth : Method} {c : Code} {E0 T0 : State} {locs : List Loc} {Z : State} {a0 : Array Value} (hw : HW a0 Z) (w1 : Addr) (kw1 : ClassId) (G : GW Z w1 kw1) (o6 o7 : Addr) (o8 o9 : Addr) (q3 : Int64) (zz50 dp1 : Int32) (dq2 q4 : Int64) (dp3 dp4 : Int32) (dq50 : Int64) (da5 : Addr) (p1 : Int32) (q2 : Int64) (h0 : Heap) (n0 : Nat) (O0 : Old Z n0 h0)
    (hx : p.tables.exec = Jvm.exec) (hby : c.code = code) (hml : c.maxLocals = 30) (hown : s.vm.findClass cn8 = some m.cls) (hret : meth.sig.returnType = ret) (hlk : meth.locks = false) (hZ : Z.Warmed39 s.vm)
    (X0 : Stand p l e room_1 s m #[(.int p1), (.long q2), (.long q3), (.long q4)] below meth c T0 locs 7 46) (e0 : T0.heap = h0) (N0 : Fr n0 locs) (pre0 : Go p e below T0 (mkF m 270 (l436_2 dp1 dq2 q3 q4 dp3 dp4 zz50 dq50 da5 o6 o7 o8 o9) []) E0) (g_o6 : n0 ≤ o6) (g_o7 : n0 ≤ o7) (g_o8 : n0 ≤ o8) (g_o9 : n0 ≤ o9) (P0 : Exa Z h0 o6 cn6) (P1 : Fld Z h0 o6 cn6 "removed" "J" (.long q3)) (P2 : Exa Z h0 o7 cn6) (P3 : Fld Z h0 o7 cn6 "removed" "J" (.long 9223372036854775807)) (P4 : Exa Z h0 o8 cn6) (P6 : Exa Z h0 o9 cn7) (P7 : Fld Z h0 o9 cn7 "addsFirst" "Z" (.int 0)) (P8 : Fld Z h0 o9 cn7 "end" "I" (.int 0)) (P9 : Fld Z h0 o9 cn7 "first" "I" (.int 0)) (P10 : Fld Z h0 o9 cn7 "low" "I" (.int 0)) (P11 : Fld Z h0 o9 cn7 "removed" "I" (.int 0)) (P12 : Fld Z h0 o9 cn7 "slots" cn3 (.ref w1)) (bzz50 : 0 ≤ zz50.toInt ∧ zz50.toInt ≤ 1) :
    ∃ (s₂ : State) (o : Outcome), Steps p.tables e below E0 s₂ ∧ s₂.status = .running ∧ Ended s₂ below o ∧ ∃ v L, o = .returned v ∧ Q0 n0 v s₂.heap L ∧ FrameEnd s o s₂ L 24 192 := by
 obtain ⟨S_w1, A_w1⟩ := id G
 obtain ⟨_, T1, L1, X1, hQ1, st1⟩ := yv X0 hx hZ hown hby hml (y := yn3) (own_w hw 57 rfl) (w_58 hw) (own_w hw 60 rfl) (w_59 hw) (own_w hw 61 rfl) (w_33 hw) e0 P6 [] [] (rm4 l Z a0 hw [] o9 ((0 : Int32)) ((0 : Int32)) ((0 : Int32)) h0 n0 O0 g_o9 P8 P9 P11) 272 (l436_2 dp1 dq2 q3 q4 dp3 dp4 zz50 dq50 da5 o6 o7 o8 o9) rfl at_272 (lenOf pd3 rfl) 0 7 46
 obtain ⟨rfl, Nq2, e3⟩ := hQ1
 have N1 := Fr.app N0 Nq2
 obtain ⟨_, T4, L4, X4, hQ4, st4⟩ := yv X1 hx hZ hown hby hml (y := yn4) (own_w hw 62 rfl) (own_w hw 63 rfl) (own_w hw 65 rfl) (own_w hw 64 rfl) (own_w hw 66 rfl) (w_33 hw) e3 P6 [] [] (rm5 l Z a0 hw [] o9 ((0 : Int32)) h0 n0 O0 g_o9 P9) 280 (l436_2 dp1 dq2 q3 q4 dp3 dp4 zz50 dq50 da5 o6 o7 o8 o9) rfl at_280 (lenOf pd3 rfl) 0 7 46
 obtain ⟨rfl, Nq5, e6⟩ := hQ4
 have N4 := Fr.app N1 Nq5
 obtain ⟨_, T7, L7, X7, hQ7, st7⟩ := yv X4 hx hZ hown hby hml (y := yn5) (own_w hw 67 rfl) (own_w hw 68 rfl) (own_w hw 70 rfl) (own_w hw 69 rfl) (own_w hw 71 rfl) (w_33 hw) e6 P6 [] [] (rm6 l Z a0 hw [] o9 ((0 : Int32)) h0 n0 O0 g_o9 P8) 288 (l436_2 dp1 dq2 q3 q4 dp3 dp4 zz50 dq50 da5 o6 o7 o8 o9) rfl at_288 (lenOf pd3 rfl) 0 7 46
 obtain ⟨rfl, Nq8, e9⟩ := hQ7
 have N7 := Fr.app N4 Nq8
 obtain ⟨_, T10, L10, X10, hQ10, st10⟩ := yv X7 hx hZ hown hby hml (y := yn6) (own_w hw 72 rfl) (own_w hw 73 rfl) (own_w hw 75 rfl) (own_w hw 74 rfl) (own_w hw 76 rfl) (w_33 hw) e9 P6 [] [] (rm7 l Z a0 hw w1 kw1 G [] o9 h0 n0 O0 g_o9 P12) 296 (l436_2 dp1 dq2 q3 q4 dp3 dp4 zz50 dq50 da5 o6 o7 o8 o9) rfl at_296 (lenOf pd4 rfl) 0 7 46
 obtain ⟨rfl, Nq11, e12⟩ := hQ10
 have N10 := Fr.app N7 Nq11
 obtain ⟨cl13, Ar13, qa13, Sa13, Na13, Ha13, Ga13⟩ := id ((A_w1.ext O0.2))
 have pre14 : Go p e below T10 (mkF m 358 (l436_0 dp1 dq2 q3 q4 dp3 dp4 zz50 dq50 da5 o6 o7 o8 o9) []) E0 := fun t k => by
  refine pre0 _ ?_
  refine yal X0 hx hby at_270 rfl rfl ?_
  refine st1 _ ?_
  refine yfn X1 hx hby at_275 ((if0 _ _).trans (teq (own_geq (n := 0) (k := (0 : Int32)) (by decide) (by have q0 := own_sub (x := ((0 : Int32) - (0 : Int32))) (k := (0 : Int32)) (n := 0) (lo := 0) (hi := 0) (by decide) (by have q0 := own_sub (x := (0 : Int32)) (k := (0 : Int32)) (n := 0) (lo := 0) (hi := 0) (by decide) (by have q0 := (by decide : ((0 : Int32)).toInt = 0); omega) (by decide) (by decide); omega) (by decide) (by decide); omega))).2) ?_
  refine yal X1 hx hby at_278 rfl rfl ?_
  refine st4 _ ?_
  refine yfn X4 hx hby at_283 ((if0 _ _).trans (teq (by decide : (0 : Int32) = (0 : Int32))).2) ?_
  refine yal X4 hx hby at_286 rfl rfl ?_
  refine st7 _ ?_
  refine yfn X7 hx hby at_291 ((if0 _ _).trans (teq (by decide : (0 : Int32) = (0 : Int32))).2) ?_
  refine yal X7 hx hby at_294 rfl rfl ?_
  refine st10 _ ?_
  refine X10.arraylength hx (by rw [e12]; exact Ar13.1) (State.isArrayOf_alike hZ.alike Ar13.2.1) (g := (mkF m 299 (l436_2 dp1 dq2 q3 q4 dp3 dp4 zz50 dq50 da5 o6 o7 o8 o9) [(.ref w1)])) rfl rfl (hb hby at_299) _ ?_
  rw [len_of Sa13 Na13]
  refine yfn X10 hx hby at_300 ((if0 _ _).trans (teq (by decide : (0 : Int32) = (0 : Int32))).2) ?_
  refine yic X10 hx hby at_303 ?_
  refine ygo X10 hx hby 304 308 rfl at_304 (by decide) ?_
  refine yis X10 hx hby at_308 (l' := #[.val (.int dp1), .val (.long dq2), .second, .val (.long q3), .second, .val (.long q4), .second, .val (.int 1), .val (.int 0), .val (.int dp3), .val (.int dp4), .val (.int 0), .val (.int 0), .val (.int zz50), .val (.long dq50), .second, .val (.ref da5), .val (.ref o6), .val (.ref o7), .val (.ref o8), .val (.ref o9), .val (.int 1), .unset, .unset, .unset, .unset, .unset, .unset, .unset, .unset]) rfl ?_
  refine yil X10 hx hby at_310 rfl ?_
  refine XS.ifYes X10.here hx rfl (pc0 := 312) (pc' := 320) rfl (hb hby at_312) rfl ((if0 _ _).trans (teq (by decide : (0 : Int32) = (0 : Int32))).1) (by decide) (by decide) ?_
  refine yil X10 hx hby at_320 rfl ?_
  refine yfn X10 hx hby at_322 ((if0 _ _).trans (feq (by decide : ¬ ((1 : Int32) = (0 : Int32)))).1) ?_
  refine XS.lloadN X10.here hx rfl (hb hby at_325) rfl ?_
  refine ygo X10 hx hby 326 332 rfl at_326 (by decide) ?_
  refine XS.lstore X10.here hx rfl (hb hby at_332) rfl (l' := (l436_1 dp1 dq2 q3 q4 dp3 dp4 zz50 dq50 da5 o6 o7 o8 o9)) rfl ?_
  refine yil X10 hx hby at_334 rfl ?_
  refine XS.ifYes X10.here hx rfl (pc0 := 336) (pc' := 344) rfl (hb hby at_336) rfl ((if0 _ _).trans (teq (by decide : (0 : Int32) = (0 : Int32))).1) (by decide) (by decide) ?_
  refine yil X10 hx hby at_344 rfl ?_
  refine XS.ifYes X10.here hx rfl (pc0 := 346) (pc' := 353) rfl (hb hby at_346) rfl ((if0 _ _).trans (teq (by decide : (0 : Int32) = (0 : Int32))).1) (by decide) (by decide) ?_
  refine X10.ldc2Long hx hown (mvT hZ (own_w hw 0 rfl)) (g := (mkF m 353 (l436_1 dp1 dq2 q3 q4 dp3 dp4 zz50 dq50 da5 o6 o7 o8 o9) [])) rfl (hb hby at_353) _ ?_
  refine XS.lstore X10.here hx rfl (hb hby at_356) rfl (l' := (l436_0 dp1 dq2 q3 q4 dp3 dp4 zz50 dq50 da5 o6 o7 o8 o9)) rfl ?_
  exact k
 exact ct5 hw w1 kw1 G o6 o7 o8 o9 q3 ((9223372036854775807 : Int64)) zz50 dp1 dq2 q3 q4 ((1 : Int32)) ((0 : Int32)) dp3 dp4 ((0 : Int32)) ((0 : Int32)) dq50 da5 p1 q2 q3 h0 n0 O0 hx hby hml hown hret hlk hZ (X10.more (by decide) (by decide)) e12 N10 pre14 g_o6 g_o7 g_o8 g_o9 P0 P1 P2 P3 P4 P6 P7 P8 P9 P10 P11 P12 (by have q0 := bzz50; omega)
def l437_0 (dp1 : Int32) (dq2 q3 q4 : Int64) (dp3 dp4 zz50 : Int32) (dq50 : Int64) (da5 o6 : Addr) (o7 o8 o9 : Addr) : Array Slot := #[.val (.int dp1), .val (.long dq2), .second, .val (.long q3), .second, .val (.long q4), .second, .val (.int 1), .val (.int 0), .val (.int dp3), .val (.int dp4), .val (.int 1), .val (.int 0), .val (.int zz50), .val (.long dq50), .second, .val (.ref da5), .val (.ref o6), .val (.ref o7), .val (.ref o8), .val (.ref o9), .val (.int 1), .val (.long dq50), .second, .val (.long 9223372036854775807), .second, .unset, .unset, .unset, .unset]
def l437_1 (dp1 : Int32) (dq2 q3 q4 : Int64) (dp3 dp4 zz50 : Int32) (dq50 : Int64) (da5 o6 : Addr) (o7 o8 o9 : Addr) : Array Slot := #[.val (.int dp1), .val (.long dq2), .second, .val (.long q3), .second, .val (.long q4), .second, .val (.int 1), .val (.int 0), .val (.int dp3), .val (.int dp4), .val (.int 1), .val (.int 0), .val (.int zz50), .val (.long dq50), .second, .val (.ref da5), .val (.ref o6), .val (.ref o7), .val (.ref o8), .val (.ref o9), .val (.int 1), .val (.long dq50), .second, .unset, .unset, .unset, .unset, .unset, .unset]
def l437_2 (dp1 : Int32) (dq2 q3 q4 : Int64) (dp3 dp4 zz50 : Int32) (dq50 : Int64) (da5 o6 : Addr) (o7 o8 o9 : Addr) : Array Slot := #[.val (.int dp1), .val (.long dq2), .second, .val (.long q3), .second, .val (.long q4), .second, .val (.int 1), .val (.int 0), .val (.int dp3), .val (.int dp4), .val (.int 1), .val (.int 0), .val (.int zz50), .val (.long dq50), .second, .val (.ref da5), .val (.ref o6), .val (.ref o7), .val (.ref o8), .val (.ref o9), .unset, .unset, .unset, .unset, .unset, .unset, .unset, .unset, .unset]
set_option maxRecDepth 65536 in
set_option maxHeartbeats 40000000 in
theorem ct13 {p : Program} {l : Launch} {e : Env} {s : State} {m : MethodId} {below : List Frame} {meth : Method} {c : Code} {E0 T0 : State} {locs : List Loc} {Z : State} {a0 : Array Value} (hw : HW a0 Z) (w1 : Addr) (kw1 : ClassId) (G : GW Z w1 kw1) (o6 o7 : Addr) (o8 o9 : Addr) (dq50 : Int64) (zz50 dp1 : Int32) (dq2 q3 q4 : Int64) (dp3 dp4 : Int32) (da5 : Addr) (p1 : Int32) (q2 : Int64) (h0 : Heap) (n0 : Nat) (O0 : Old Z n0 h0)
    (hx : p.tables.exec = Jvm.exec) (hby : c.code = code) (hml : c.maxLocals = 30) (hown : s.vm.findClass cn8 = some m.cls) (hret : meth.sig.returnType = ret) (hlk : meth.locks = false) (hZ : Z.Warmed39 s.vm)
    (X0 : Stand p l e room_1 s m #[(.int p1), (.long q2), (.long q3), (.long q4)] below meth c T0 locs 7 46) (e0 : T0.heap = h0) (N0 : Fr n0 locs) (pre0 : Go p e below T0 (mkF m 270 (l437_2 dp1 dq2 q3 q4 dp3 dp4 zz50 dq50 da5 o6 o7 o8 o9) []) E0) (g_o6 : n0 ≤ o6) (g_o7 : n0 ≤ o7) (g_o8 : n0 ≤ o8) (g_o9 : n0 ≤ o9) (P0 : Exa Z h0 o6 cn6) (P1 : Fld Z h0 o6 cn6 "removed" "J" (.long dq50)) (P2 : Exa Z h0 o7 cn6) (P3 : Fld Z h0 o7 cn6 "removed" "J" (.long 9223372036854775807)) (P4 : Exa Z h0 o8 cn6) (P6 : Exa Z h0 o9 cn7) (P7 : Fld Z h0 o9 cn7 "addsFirst" "Z" (.int 0)) (P8 : Fld Z h0 o9 cn7 "end" "I" (.int 0)) (P9 : Fld Z h0 o9 cn7 "first" "I" (.int 0)) (P10 : Fld Z h0 o9 cn7 "low" "I" (.int 0)) (P11 : Fld Z h0 o9 cn7 "removed" "I" (.int 0)) (P12 : Fld Z h0 o9 cn7 "slots" cn3 (.ref w1)) (bzz50 : 0 ≤ zz50.toInt ∧ zz50.toInt ≤ 1) :
    ∃ (s₂ : State) (o : Outcome), Steps p.tables e below E0 s₂ ∧ s₂.status = .running ∧ Ended s₂ below o ∧ ∃ v L, o = .returned v ∧ Q0 n0 v s₂.heap L ∧ FrameEnd s o s₂ L 24 192 := by
 obtain ⟨S_w1, A_w1⟩ := id G
 obtain ⟨_, T1, L1, X1, hQ1, st1⟩ := yv X0 hx hZ hown hby hml (y := yn3) (own_w hw 57 rfl) (w_58 hw) (own_w hw 60 rfl) (w_59 hw) (own_w hw 61 rfl) (w_33 hw) e0 P6 [] [] (rm4 l Z a0 hw [] o9 ((0 : Int32)) ((0 : Int32)) ((0 : Int32)) h0 n0 O0 g_o9 P8 P9 P11) 272 (l437_2 dp1 dq2 q3 q4 dp3 dp4 zz50 dq50 da5 o6 o7 o8 o9) rfl at_272 (lenOf pd3 rfl) 0 7 46
 obtain ⟨rfl, Nq2, e3⟩ := hQ1
 have N1 := Fr.app N0 Nq2
 obtain ⟨_, T4, L4, X4, hQ4, st4⟩ := yv X1 hx hZ hown hby hml (y := yn4) (own_w hw 62 rfl) (own_w hw 63 rfl) (own_w hw 65 rfl) (own_w hw 64 rfl) (own_w hw 66 rfl) (w_33 hw) e3 P6 [] [] (rm5 l Z a0 hw [] o9 ((0 : Int32)) h0 n0 O0 g_o9 P9) 280 (l437_2 dp1 dq2 q3 q4 dp3 dp4 zz50 dq50 da5 o6 o7 o8 o9) rfl at_280 (lenOf pd3 rfl) 0 7 46
 obtain ⟨rfl, Nq5, e6⟩ := hQ4
 have N4 := Fr.app N1 Nq5
 obtain ⟨_, T7, L7, X7, hQ7, st7⟩ := yv X4 hx hZ hown hby hml (y := yn5) (own_w hw 67 rfl) (own_w hw 68 rfl) (own_w hw 70 rfl) (own_w hw 69 rfl) (own_w hw 71 rfl) (w_33 hw) e6 P6 [] [] (rm6 l Z a0 hw [] o9 ((0 : Int32)) h0 n0 O0 g_o9 P8) 288 (l437_2 dp1 dq2 q3 q4 dp3 dp4 zz50 dq50 da5 o6 o7 o8 o9) rfl at_288 (lenOf pd3 rfl) 0 7 46
 obtain ⟨rfl, Nq8, e9⟩ := hQ7
 have N7 := Fr.app N4 Nq8
 obtain ⟨_, T10, L10, X10, hQ10, st10⟩ := yv X7 hx hZ hown hby hml (y := yn6) (own_w hw 72 rfl) (own_w hw 73 rfl) (own_w hw 75 rfl) (own_w hw 74 rfl) (own_w hw 76 rfl) (w_33 hw) e9 P6 [] [] (rm7 l Z a0 hw w1 kw1 G [] o9 h0 n0 O0 g_o9 P12) 296 (l437_2 dp1 dq2 q3 q4 dp3 dp4 zz50 dq50 da5 o6 o7 o8 o9) rfl at_296 (lenOf pd4 rfl) 0 7 46
 obtain ⟨rfl, Nq11, e12⟩ := hQ10
 have N10 := Fr.app N7 Nq11
 obtain ⟨cl13, Ar13, qa13, Sa13, Na13, Ha13, Ga13⟩ := id ((A_w1.ext O0.2))
 have pre14 : Go p e below T10 (mkF m 358 (l437_0 dp1 dq2 q3 q4 dp3 dp4 zz50 dq50 da5 o6 o7 o8 o9) []) E0 := fun t k => by
  refine pre0 _ ?_
  refine yal X0 hx hby at_270 rfl rfl ?_
  refine st1 _ ?_
  refine yfn X1 hx hby at_275 ((if0 _ _).trans (teq (own_geq (n := 0) (k := (0 : Int32)) (by decide) (by have q0 := own_sub (x := ((0 : Int32) - (0 : Int32))) (k := (0 : Int32)) (n := 0) (lo := 0) (hi := 0) (by decide) (by have q0 := own_sub (x := (0 : Int32)) (k := (0 : Int32)) (n := 0) (lo := 0) (hi := 0) (by decide) (by have q0 := (by decide : ((0 : Int32)).toInt = 0); omega) (by decide) (by decide); omega) (by decide) (by decide); omega))).2) ?_
  refine yal X1 hx hby at_278 rfl rfl ?_
  refine st4 _ ?_
  refine yfn X4 hx hby at_283 ((if0 _ _).trans (teq (by decide : (0 : Int32) = (0 : Int32))).2) ?_
  refine yal X4 hx hby at_286 rfl rfl ?_
  refine st7 _ ?_
  refine yfn X7 hx hby at_291 ((if0 _ _).trans (teq (by decide : (0 : Int32) = (0 : Int32))).2) ?_
  refine yal X7 hx hby at_294 rfl rfl ?_
  refine st10 _ ?_
  refine X10.arraylength hx (by rw [e12]; exact Ar13.1) (State.isArrayOf_alike hZ.alike Ar13.2.1) (g := (mkF m 299 (l437_2 dp1 dq2 q3 q4 dp3 dp4 zz50 dq50 da5 o6 o7 o8 o9) [(.ref w1)])) rfl rfl (hb hby at_299) _ ?_
  rw [len_of Sa13 Na13]
  refine yfn X10 hx hby at_300 ((if0 _ _).trans (teq (by decide : (0 : Int32) = (0 : Int32))).2) ?_
  refine yic X10 hx hby at_303 ?_
  refine ygo X10 hx hby 304 308 rfl at_304 (by decide) ?_
  refine yis X10 hx hby at_308 (l' := #[.val (.int dp1), .val (.long dq2), .second, .val (.long q3), .second, .val (.long q4), .second, .val (.int 1), .val (.int 0), .val (.int dp3), .val (.int dp4), .val (.int 1), .val (.int 0), .val (.int zz50), .val (.long dq50), .second, .val (.ref da5), .val (.ref o6), .val (.ref o7), .val (.ref o8), .val (.ref o9), .val (.int 1), .unset, .unset, .unset, .unset, .unset, .unset, .unset, .unset]) rfl ?_
  refine yil X10 hx hby at_310 rfl ?_
  refine yfn X10 hx hby at_312 ((if0 _ _).trans (feq (by decide : ¬ ((1 : Int32) = (0 : Int32)))).1) ?_
  refine XS.lload X10.here hx rfl (hb hby at_315) rfl ?_
  refine ygo X10 hx hby 317 332 rfl at_317 (by decide) ?_
  refine XS.lstore X10.here hx rfl (hb hby at_332) rfl (l' := (l437_1 dp1 dq2 q3 q4 dp3 dp4 zz50 dq50 da5 o6 o7 o8 o9)) rfl ?_
  refine yil X10 hx hby at_334 rfl ?_
  refine XS.ifYes X10.here hx rfl (pc0 := 336) (pc' := 344) rfl (hb hby at_336) rfl ((if0 _ _).trans (teq (by decide : (0 : Int32) = (0 : Int32))).1) (by decide) (by decide) ?_
  refine yil X10 hx hby at_344 rfl ?_
  refine XS.ifYes X10.here hx rfl (pc0 := 346) (pc' := 353) rfl (hb hby at_346) rfl ((if0 _ _).trans (teq (by decide : (0 : Int32) = (0 : Int32))).1) (by decide) (by decide) ?_
  refine X10.ldc2Long hx hown (mvT hZ (own_w hw 0 rfl)) (g := (mkF m 353 (l437_1 dp1 dq2 q3 q4 dp3 dp4 zz50 dq50 da5 o6 o7 o8 o9) [])) rfl (hb hby at_353) _ ?_
  refine XS.lstore X10.here hx rfl (hb hby at_356) rfl (l' := (l437_0 dp1 dq2 q3 q4 dp3 dp4 zz50 dq50 da5 o6 o7 o8 o9)) rfl ?_
  exact k
 exact ct5 hw w1 kw1 G o6 o7 o8 o9 dq50 ((9223372036854775807 : Int64)) zz50 dp1 dq2 q3 q4 ((1 : Int32)) ((0 : Int32)) dp3 dp4 ((1 : Int32)) ((0 : Int32)) dq50 da5 p1 q2 q3 h0 n0 O0 hx hby hml hown hret hlk hZ (X10.more (by decide) (by decide)) e12 N10 pre14 g_o6 g_o7 g_o8 g_o9 P0 P1 P2 P3 P4 P6 P7 P8 P9 P10 P11 P12 (by have q0 := bzz50; omega)
def l438_0 (dp1 : Int32) (dq2 q3 q4 : Int64) (dp3 dp4 : Int32) (zz51 zz52 : Int32) (dq50 : Int64) (da5 o6 : Addr) (o7 o8 o9 : Addr) : Array Slot := #[.val (.int dp1), .val (.long dq2), .second, .val (.long q3), .second, .val (.long q4), .second, .val (.int 1), .val (.int 0), .val (.int dp3), .val (.int dp4), .val (.int zz51), .val (.int 0), .val (.int zz52), .val (.long dq50), .second, .val (.ref da5), .val (.ref o6), .val (.ref o7), .val (.ref o8), .val (.ref o9), .unset, .unset, .unset, .unset, .unset, .unset, .unset, .unset, .unset]
def l438_1 (dp1 : Int32) (dq2 q3 q4 : Int64) (dp3 dp4 zz52 : Int32) (dq50 : Int64) (da5 o6 : Addr) (o7 o8 o9 : Addr) : Array Slot := #[.val (.int dp1), .val (.long dq2), .second, .val (.long q3), .second, .val (.long q4), .second, .val (.int 1), .val (.int 0), .val (.int dp3), .val (.int dp4), .val (.int 0), .val (.int 0), .val (.int zz52), .val (.long dq50), .second, .val (.ref da5), .val (.ref o6), .val (.ref o7), .val (.ref o8), .val (.ref o9), .unset, .unset, .unset, .unset, .unset, .unset, .unset, .unset, .unset]
def l438_2 (dp1 : Int32) (dq2 q3 q4 : Int64) (dp3 dp4 zz52 : Int32) (dq50 : Int64) (da5 o6 : Addr) (o7 o8 o9 : Addr) : Array Slot := #[.val (.int dp1), .val (.long dq2), .second, .val (.long q3), .second, .val (.long q4), .second, .val (.int 1), .val (.int 0), .val (.int dp3), .val (.int dp4), .val (.int 1), .val (.int 0), .val (.int zz52), .val (.long dq50), .second, .val (.ref da5), .val (.ref o6), .val (.ref o7), .val (.ref o8), .val (.ref o9), .unset, .unset, .unset, .unset, .unset, .unset, .unset, .unset, .unset]
set_option maxRecDepth 65536 in
set_option maxHeartbeats 40000000 in
theorem ct11 {p : Program} {l : Launch} {e : Env} {s : State} {m : MethodId} {below : List Frame} {meth : Method} {c : Code} {E0 T0 : State} {locs : List Loc} {Z : State} {a0 : Array Value} (hw : HW a0 Z) (w1 : Addr) (kw1 : ClassId) (G : GW Z w1 kw1) (o6 o7 : Addr) (o8 o9 o10 : Addr) (kc11 : ClassId) (dq50 : Int64) (zz51 zz52 dp1 : Int32) (dq2 q3 q4 : Int64) (dp3 dp4 : Int32) (da5 : Addr) (p1 : Int32) (q2 : Int64) (h0 : Heap) (n0 : Nat) (O0 : Old Z n0 h0)
    (hx : p.tables.exec = Jvm.exec) (hby : c.code = code) (hml : c.maxLocals = 30) (hown : s.vm.findClass cn8 = some m.cls) (hret : meth.sig.returnType = ret) (hlk : meth.locks = false) (hZ : Z.Warmed39 s.vm)
    (X0 : Stand p l e room_1 s m #[(.int p1), (.long q2), (.long q3), (.long q4)] below meth c T0 locs 7 46) (e0 : T0.heap = h0) (N0 : Fr n0 locs) (pre0 : Go p e below T0 (mkF m 236 (l438_0 dp1 dq2 q3 q4 dp3 dp4 zz51 zz52 dq50 da5 o6 o7 o8 o9) []) E0) (g_o6 : n0 ≤ o6) (g_o7 : n0 ≤ o7) (g_o8 : n0 ≤ o8) (g_o9 : n0 ≤ o9) (g_o10 : n0 ≤ o10) (ne_o7_o6 : o7 ≠ o6) (Ov_kc11 : Ovr Z kc11 cn6) (P0 : Exa Z h0 o6 cn6) (P1 : Fld Z h0 o6 cn6 "removed" "J" (.long 9223372036854775807)) (P2 : Exa Z h0 o7 cn6) (P3 : Fld Z h0 o7 cn6 "removed" "J" (.long 9223372036854775807)) (P4 : Exa Z h0 o8 cn6) (P6 : Exa Z h0 o9 cn7) (P7 : Fld Z h0 o9 cn7 "addsFirst" "Z" (.int 0)) (P8 : Fld Z h0 o9 cn7 "end" "I" (.int 1)) (P9 : Fld Z h0 o9 cn7 "first" "I" (.int 0)) (P10 : Fld Z h0 o9 cn7 "low" "I" (.int 0)) (P11 : Fld Z h0 o9 cn7 "removed" "I" (.int 0)) (P12 : Fld Z h0 o9 cn7 "slots" cn3 (.ref o10)) (P13 : Arv Z h0 o10 kc11 (.object cn6) (4 : Int32) [(.ref o6), .null, .null, .null] .null) (P14 : Exa Z h0 o10 cn3) (hC0 : ¬ (dq50 = (9223372036854775807 : Int64))) (bzz51 : 0 ≤ zz51.toInt ∧ zz51.toInt ≤ 1) (bzz52 : 0 ≤ zz52.toInt ∧ zz52.toInt ≤ 1) :
    ∃ (s₂ : State) (o : Outcome), Steps p.tables e below E0 s₂ ∧ s₂.status = .running ∧ Ended s₂ below o ∧ ∃ v L, o = .returned v ∧ Q0 n0 v s₂.heap L ∧ FrameEnd s o s₂ L 24 192 := by
 obtain ⟨S_w1, A_w1⟩ := id G
 have pre1 : Go p e below T0 (mkF m 238 (l438_0 dp1 dq2 q3 q4 dp3 dp4 zz51 zz52 dq50 da5 o6 o7 o8 o9) [(.int zz51)]) E0 := fun t k => by
  refine pre0 _ ?_
  refine yil X0 hx hby at_236 rfl ?_
  exact k
 by_cases hc2 : zz51 = (0 : Int32)
 ·
  have pre3 : Go p e below T0 (mkF m 238 (l438_1 dp1 dq2 q3 q4 dp3 dp4 zz52 dq50 da5 o6 o7 o8 o9) [(.int 0)]) E0 := fun t k => pre1 t (by rw [hc2]; exact k)
  obtain ⟨_, T4, L4, X4, hQ4, st4⟩ := yv X0 hx hZ hown hby hml (y := yn2) (own_w hw 42 rfl) (w_43 hw) (own_w hw 45 rfl) (w_44 hw) (own_w hw 46 rfl) (w_33 hw) e0 P6 [(.long q3)] [] (rm19 l Z a0 hw w1 kw1 G [] o9 o10 o6 kc11 ((0 : Int32)) q3 h0 n0 O0 g_o9 g_o10 g_o6 Ov_kc11 P6 P7 P8 P9 P10 P11 P12 P13 P0 P1) 267 (l438_1 dp1 dq2 q3 q4 dp3 dp4 zz52 dq50 da5 o6 o7 o8 o9) rfl at_267 (lenOf pd2 rfl) 0 7 46
  obtain ⟨rfl, Nq5, K6, f7, f8, f9, f10, f11, f12, f13, f14, f15⟩ := hQ4
  have N4 := Fr.app N0 Nq5
  have O4 := Old.keep O0 K6 (allS g_o6 (allS g_o9 all0))
  have pre16 : Go p e below T4 (mkF m 270 (l438_1 dp1 dq2 q3 q4 dp3 dp4 zz52 dq50 da5 o6 o7 o8 o9) []) E0 := fun t k => by
   refine pre3 _ ?_
   refine XS.ifYes X0.here hx rfl (pc0 := 238) (pc' := 250) rfl (hb hby at_238) rfl ((if0 _ _).trans (teq (by decide : (0 : Int32) = (0 : Int32))).1) (by decide) (by decide) ?_
   refine yil X0 hx hby at_250 rfl ?_
   refine XS.ifYes X0.here hx rfl (pc0 := 252) (pc' := 264) rfl (hb hby at_252) rfl ((if0 _ _).trans (teq (by decide : (0 : Int32) = (0 : Int32))).1) (by decide) (by decide) ?_
   refine yal X0 hx hby at_264 rfl rfl ?_
   refine XS.lloadN X0.here hx rfl (hb hby at_266) rfl ?_
   refine st4 _ ?_
   exact k
  have f17 := (P2.keep K6)
  have ne18 : o7 ≠ o9 := ne_exa f17 f9 (by decide)
  have f19 := (P3.keep K6 (ninS ne_o7_o6 (ninS ne18 nin0)))
  have f20 := (P4.keep K6)
  exact ct12 hw w1 kw1 G o6 o7 o8 o9 q3 zz52 dp1 dq2 q4 dp3 dp4 dq50 da5 p1 q2 T4.heap n0 O4 hx hby hml hown hret hlk hZ (X4.more (by decide) (by decide)) rfl N4 pre16 g_o6 g_o7 g_o8 g_o9 f7 f8 f17 f19 f20 f9 f10 f11 f12 f13 f14 f15 (by have q0 := bzz52; omega)
 ·
  have hq21 : zz51 = (1 : Int32) := (own_geq (n := 1) (k := (1 : Int32)) (by decide) (by have q0 := bzz51; have q1 := own_neq (n := 0) (k := (0 : Int32)) (by decide) hc2; omega))
  have pre22 : Go p e below T0 (mkF m 238 (l438_2 dp1 dq2 q3 q4 dp3 dp4 zz52 dq50 da5 o6 o7 o8 o9) [(.int 1)]) E0 := fun t k => pre1 t (by rw [hq21]; exact k)
  obtain ⟨_, T23, L23, X23, hQ23, st23⟩ := yv X0 hx hZ hown hby hml (y := yn15) (own_w hw 119 rfl) (own_w hw 120 rfl) (own_w hw 122 rfl) (own_w hw 121 rfl) (own_w hw 123 rfl) (w_33 hw) e0 P6 [(.ref o6), (.long dq50)] [] (rm22 l Z a0 hw [] o9 o6 o10 kc11 dq50 h0 n0 O0 g_o9 g_o6 g_o10 Ov_kc11 hC0 P6 P7 P8 P9 P10 P11 P12 P0 P1 P13 P14) 247 (l438_2 dp1 dq2 q3 q4 dp3 dp4 zz52 dq50 da5 o6 o7 o8 o9) rfl at_247 (lenOf pd10 rfl) 0 7 46
  obtain ⟨rfl, Nq24, K25, f26, f27, f28, f29, f30, f31, f32, f33, f34⟩ := hQ23
  have N23 := Fr.app N0 Nq24
  have O23 := Old.keep O0 K25 (allS g_o6 (allS g_o9 all0))
  obtain ⟨_, T35, L35, X35, hQ35, st35⟩ := yv X23 hx hZ hown hby hml (y := yn2) (own_w hw 42 rfl) (w_43 hw) (own_w hw 45 rfl) (w_44 hw) (own_w hw 46 rfl) (w_33 hw) rfl f28 [(.long q3)] [] (rm23 l Z a0 hw w1 kw1 G [] o9 o10 ((0 : Int32)) ((1 : Int32)) q3 T23.heap n0 O23 g_o9 g_o10 f28 f29 f30 f31 f32 f33 f34) 267 (l438_2 dp1 dq2 q3 q4 dp3 dp4 zz52 dq50 da5 o6 o7 o8 o9) rfl at_267 (lenOf pd2 rfl) 0 7 46
  obtain ⟨rfl, Nq36, K37, f38, f39, f40, f41, f42, f43, f44⟩ := hQ35
  have N35 := Fr.app N23 Nq36
  have O35 := Old.keep O23 K37 (allS g_o9 all0)
  have pre45 : Go p e below T35 (mkF m 270 (l438_2 dp1 dq2 q3 q4 dp3 dp4 zz52 dq50 da5 o6 o7 o8 o9) []) E0 := fun t k => by
   refine pre22 _ ?_
   refine yfn X0 hx hby at_238 ((if0 _ _).trans (feq (by decide : ¬ ((1 : Int32) = (0 : Int32)))).1) ?_
   refine yal X0 hx hby at_241 rfl rfl ?_
   refine yal X0 hx hby at_243 rfl rfl ?_
   refine XS.lload X0.here hx rfl (hb hby at_245) rfl ?_
   refine st23 _ ?_
   refine yil X23 hx hby at_250 rfl ?_
   refine XS.ifYes X23.here hx rfl (pc0 := 252) (pc' := 264) rfl (hb hby at_252) rfl ((if0 _ _).trans (teq (by decide : (0 : Int32) = (0 : Int32))).1) (by decide) (by decide) ?_
   refine yal X23 hx hby at_264 rfl rfl ?_
   refine XS.lloadN X23.here hx rfl (hb hby at_266) rfl ?_
   refine st35 _ ?_
   exact k
  have f46 := (f26.keep K37)
  have ne47 : o6 ≠ o9 := ne_exa f46 f38 (by decide)
  have f48 := (f27.keep K37 (ninS ne47 nin0))
  have f49 := ((P2.keep K25).keep K37)
  have ne50 : o7 ≠ o9 := ne_exa f49 f38 (by decide)
  have f51 := ((P3.keep K25 (ninS ne_o7_o6 (ninS ne50 nin0))).keep K37 (ninS ne50 nin0))
  have f52 := ((P4.keep K25).keep K37)
  exact ct13 hw w1 kw1 G o6 o7 o8 o9 dq50 zz52 dp1 dq2 q3 q4 dp3 dp4 da5 p1 q2 T35.heap n0 O35 hx hby hml hown hret hlk hZ (X35.more (by decide) (by decide)) rfl N35 pre45 g_o6 g_o7 g_o8 g_o9 f46 f48 f49 f51 f52 f38 f39 f40 f41 f42 f43 f44 (by have q0 := bzz52; omega)
def l439_0 (o1 o2 : Addr) : Array Slot := #[.val (.ref o1), .val (.ref o2)]
theorem ef27 (m : MethodId) (x0 x1 : Addr) : entryFrame m #[(.ref x0), (.ref x1)] 2 = mkF m 0 #[.val (.ref x0), .val (.ref x1)] [] := by first | (simp [entryFrame, mkF, argsToLocals, Value.category]; done) | rfl
def Q27 (Z : State) (o1 o2 : Addr) (o3 o5 : Addr) (kc4 : ClassId) (h0 : Heap) (n0 : Nat) (v : Option Value) (h : Heap) (L : List Loc) : Prop :=
  (v = none ∧ Fr n0 L ∧ Keep h0 h [o3, o1] ∧ (Arv Z h o3 kc4 (.object cn6) (4 : Int32) [(.ref o5), (.ref o2), .null, .null] .null) ∧ (Exa Z h o3 cn3) ∧ (Exa Z h o1 cn7) ∧ (Fld Z h o1 cn7 "addsFirst" "Z" (.int 0)) ∧ (Fld Z h o1 cn7 "end" "I" (.int 2)) ∧ (Fld Z h o1 cn7 "first" "I" (.int 0)) ∧ (Fld Z h o1 cn7 "low" "I" (.int 0)) ∧ (Fld Z h o1 cn7 "removed" "I" (.int 0)) ∧ (Fld Z h o1 cn7 "slots" cn3 (.ref o3)))
set_option maxRecDepth 65536 in
set_option maxHeartbeats 40000000 in
theorem rm27 (l : Launch) (Z : State) (a0 : Array Value) (hw : HW a0 Z) (ws : List Jvm.Cond) (o1 o2 : Addr) (o3 o5 : Addr) (kc4 : ClassId) (h0 : Heap) (n0 : Nat) (O0 : Old Z n0 h0) (g_o1 : n0 ≤ o1) (g_o2 : n0 ≤ o2) (g_o3 : n0 ≤ o3) (g_o5 : n0 ≤ o5) (Ov_kc4 : Ovr Z kc4 cn6) (P0 : Exa Z h0 o1 cn7) (P1 : Fld Z h0 o1 cn7 "addsFirst" "Z" (.int 0)) (P2 : Fld Z h0 o1 cn7 "end" "I" (.int 1)) (P3 : Fld Z h0 o1 cn7 "first" "I" (.int 0)) (P4 : Fld Z h0 o1 cn7 "low" "I" (.int 0)) (P5 : Fld Z h0 o1 cn7 "removed" "I" (.int 0)) (P6 : Fld Z h0 o1 cn7 "slots" cn3 (.ref o3)) (P7 : Exa Z h0 o2 cn6) (P9 : Arv Z h0 o3 kc4 (.object cn6) (4 : Int32) [(.ref o5), .null, .null, .null] .null) (P10 : Exa Z h0 o3 cn3) :
    MF l yn12 prog_41_method_6_code 2 none ws ({ frames := 0, cells := 0, slots := 0, locals := 0 } : Room) #[(.ref o1), (.ref o2)] Z h0 (Q27 Z o1 o2 o3 o5 kc4 h0 n0) := by
 refine MetFree.of_bodySF (plainFor_of_name pn1) hisR ?_
 intro p e s m args below meth c s₁ Bd hml hP hK
 obtain ⟨rfl, hZ, hh⟩ := hP
 obtain ⟨hx, hby, hown, hret, hlk, X0, e0, N0⟩ := own_bd Bd hh n0
 have pre0 := own_ct s₁ (p := p) (e := e) (below := below) (ef27 m o1 o2)
 obtain ⟨T1, X1, e1, st1⟩ := yag X0 hx hZ hown hby (w_49 hw) e0 P2 0 (l439_0 o1 o2) [] d10_0 d10_1 rfl
 obtain ⟨T2, X2, e2, st2⟩ := yag X1 hx hZ hown hby (w_40 hw) e1 P6 4 (l439_0 o1 o2) [(.int 1)] d10_4 d10_5 rfl
 obtain ⟨cl3, Ar3, qa3, Sa3, Na3, Ha3, Ga3⟩ := id (P9)
 obtain ⟨T4, X4, e4, st4⟩ := yag X2 hx hZ hown hby (w_40 hw) e2 P6 16 (l439_0 o1 o2) [] d10_16 d10_17 rfl
 obtain ⟨T5, X5, e5, st5⟩ := yag X4 hx hZ hown hby (w_49 hw) e4 P2 20 (l439_0 o1 o2) [(.ref o3)] d10_20 d10_21 rfl
 obtain ⟨cl6, Ar6, qa6, Sa6, Na6, Ha6, Ga6⟩ := id (P9)
 have hin6 := inb_of (j := (1 : Int32)) Sa6 ⟨by decide, by decide⟩
 obtain ⟨T7, h7, X7, e7, W7, st7⟩ := stR X5 hx hZ e5 Ar6 (j := (1 : Int32)) hin6 rfl (Sto.ofV Ar6 qa6 Ov_kc4 (Ins.self P7)) (g := (mkF m 25 (l439_0 o1 o2) [(.ref o2), (.int 1), (.ref o3)])) rfl rfl (hb hby d10_25)
 have V7 : Arv Z h7 o3 kc4 (.object cn6) (4 : Int32) [(.ref o5), (.ref o2), .null, .null] .null := Arv.set Ar6 qa6 Sa6 Na6 Ha6 Ga6 rfl W7 1 rfl (Nat.le_of_ble_eq_true rfl)
 have N7 := Fr.snoc X7 N0 g_o3
 have f8 := (P0.wr W7)
 have f9 := (P10.wr W7)
 have ne10 : o1 ≠ o3 := ne_exa f8 f9 (by decide)
 have f11 := (P2.other W7 (Or.inl ne10))
 obtain ⟨T12, X12, e12, st12⟩ := yg X7 hx hZ hown hby (w_49 hw) e7 f11 28 (l439_0 o1 o2) [(.ref o1)] d10_28
 obtain ⟨T13, h13, X13, e13, W13, st13⟩ := yp X12 hx hZ hown hby (w_49 hw) e12 f11 f8 (w_50 hw) (w_32 hw) (ty := .int) (v := (.int 2)) (by decide) rfl rfl 33 (l439_0 o1 o2) [] d10_33
 have N13 := Fr.snoc X13 N7 g_o1
 have Fw13 := f11.same W13
 obtain ⟨fs, hr, hrun, hended, hW, hsame⟩ := X13.leave (v := none) (fun _ => rfl)
 have KL : Keep h0 h13 [o3, o1] := (((Keep.refl h0 [o3, o1]).wr W7 (Or.inl (List.mem_of_getElem? (i := 0) rfl))).wr W13 (Or.inl (List.mem_of_getElem? (i := 1) rfl)))
 have f14 := (V7.other W13 (Ne.symm ne10))
 have f15 := (f9.wr W13)
 have f16 := (f8.wr W13)
 have f17 := ((P1.other W7 (Or.inl ne10)).other W13 (Or.inr (sn57 hw)))
 have f18 := ((P3.other W7 (Or.inl ne10)).other W13 (Or.inr (sn61 hw)))
 have f19 := ((P4.other W7 (Or.inl ne10)).other W13 (Or.inr (sn65 hw)))
 have f20 := ((P5.other W7 (Or.inl ne10)).other W13 (Or.inr (sn54 hw)))
 have f21 := ((P6.other W7 (Or.inl ne10)).other W13 (Or.inr (sn71 hw)))
 refine ⟨_, _, pre0 _ ?_, hrun, hended, _, _, rfl, ?_, ⟨_, rfl⟩, hW, hsame.mono (by decide) (by decide)⟩
 ·
  refine st1 _ ?_
  refine st2 _ ?_
  refine X2.arraylength hx (by rw [e2]; exact Ar3.1) (State.isArrayOf_alike hZ.alike Ar3.2.1) (g := (mkF m 8 (l439_0 o1 o2) [(.ref o3), (.int 1)])) rfl rfl (hb hby d10_8) _ ?_
  rw [len_of Sa3 Na3]
  refine yye X2 hx hby 9 16 rfl d10_9 (feq (by decide : ¬ ((1 : Int32) = (4 : Int32)))).2 (by decide) ?_
  refine st4 _ ?_
  refine st5 _ ?_
  refine yan X5 hx hby d10_24 rfl rfl ?_
  refine st7 _ ?_
  refine yan X7 hx hby d10_26 rfl rfl ?_
  refine XS.dup X7.here hx rfl (hb hby d10_27) rfl rfl ?_
  refine st12 _ ?_
  refine yic X12 hx hby d10_31 ?_
  refine yad X12 hx hby d10_32 ?_
  refine st13 _ ?_
  show Steps p.tables e below (T13.setTop (mkF m 36 (l439_0 o1 o2) [])) _
  exact X13.returnOut hx hret (hb hby d10_36) hr
 ·
  show Q27 Z o1 o2 o3 o5 kc4 h0 n0 _ T13.heap _
  rw [e13]
  exact ⟨rfl, N13, KL, f14, f15, f16, f17, Fw13, f18, f19, f20, f21⟩
def l440_0 (o1 : Addr) (q2 : Int64) : Array Slot := #[.val (.ref o1), .val (.long q2), .second, .val (.int 0)]
def l440_1 (o1 : Addr) (q2 : Int64) : Array Slot := #[.val (.ref o1), .val (.long q2), .second, .val (.int 1)]
def l440_2 (o1 : Addr) (q2 : Int64) : Array Slot := #[.val (.ref o1), .val (.long q2), .second, .val (.int 2)]
theorem ef28 (m : MethodId) (x0 : Addr) (x1 : Int64) : entryFrame m #[(.ref x0), (.long x1)] 4 = mkF m 0 #[.val (.ref x0), .val (.long x1), .second, .unset] [] := by first | (simp [entryFrame, mkF, argsToLocals, Value.category]; done) | rfl
def Q28 (Z : State) (w1 : Addr) (kw1 : ClassId) (o1 o4 : Addr) (o6 o7 : Addr) (kc5 : ClassId) (p3 : Int32) (q2 : Int64) (h0 : Heap) (n0 : Nat) (v : Option Value) (h : Heap) (L : List Loc) : Prop :=
  (v = none ∧ Fr n0 L ∧ Keep h0 h [o6, o7, o1] ∧ (Exa Z h o6 cn6) ∧ (Fld Z h o6 cn6 "removed" "J" (.long q2)) ∧ (Exa Z h o7 cn6) ∧ (Fld Z h o7 cn6 "removed" "J" (.long q2)) ∧ (Exa Z h o1 cn7) ∧ (Fld Z h o1 cn7 "addsFirst" "Z" (.int 0)) ∧ (Fld Z h o1 cn7 "end" "I" (.int 0)) ∧ (Fld Z h o1 cn7 "first" "I" (.int 0)) ∧ (Fld Z h o1 cn7 "low" "I" (.int 0)) ∧ (Fld Z h o1 cn7 "removed" "I" (.int 0)) ∧ (Fld Z h o1 cn7 "slots" cn3 (.ref w1)))
set_option maxRecDepth 65536 in
set_option maxHeartbeats 40000000 in
theorem rm28 (l : Launch) (Z : State) (a0 : Array Value) (hw : HW a0 Z) (w1 : Addr) (kw1 : ClassId) (G : GW Z w1 kw1) (ws : List Jvm.Cond) (o1 o4 : Addr) (o6 o7 : Addr) (kc5 : ClassId) (p3 : Int32) (q2 : Int64) (h0 : Heap) (n0 : Nat) (O0 : Old Z n0 h0) (g_o1 : n0 ≤ o1) (g_o4 : n0 ≤ o4) (g_o6 : n0 ≤ o6) (g_o7 : n0 ≤ o7) (ne_o7_o6 : o7 ≠ o6) (Ov_kc5 : Ovr Z kc5 cn6) (P0 : Exa Z h0 o1 cn7) (P1 : Fld Z h0 o1 cn7 "addsFirst" "Z" (.int p3)) (P2 : Fld Z h0 o1 cn7 "end" "I" (.int 2)) (P3 : Fld Z h0 o1 cn7 "first" "I" (.int 0)) (P4 : Fld Z h0 o1 cn7 "low" "I" (.int p3)) (P5 : Fld Z h0 o1 cn7 "removed" "I" (.int p3)) (P6 : Fld Z h0 o1 cn7 "slots" cn3 (.ref o4)) (P7 : Arv Z h0 o4 kc5 (.object cn6) (4 : Int32) [(.ref o6), (.ref o7), .null, .null] .null) (P8 : Exa Z h0 o4 cn3) (P9 : Exa Z h0 o6 cn6) (P10 : Fld Z h0 o6 cn6 "removed" "J" (.long 9223372036854775807)) (P11 : Exa Z h0 o7 cn6) (P12 : Fld Z h0 o7 cn6 "removed" "J" (.long 9223372036854775807)) :
    MF l yn2 prog_41_method_9_code 4 none ws ({ frames := 1, cells := 0, slots := 0, locals := 14 } : Room) #[(.ref o1), (.long q2)] Z h0 (Q28 Z w1 kw1 o1 o4 o6 o7 kc5 p3 q2 h0 n0) := by
 obtain ⟨S_w1, A_w1⟩ := id G
 refine MetFree.of_bodySF (plainFor_of_name pn1) hisR ?_
 intro p e s m args below meth c s₁ Bd hml hP hK
 obtain ⟨rfl, hZ, hh⟩ := hP
 obtain ⟨hx, hby, hown, hret, hlk, X0, e0, N0⟩ := own_bd Bd hh n0
 have pre0 := own_ct s₁ (p := p) (e := e) (below := below) (ef28 m o1 q2)
 obtain ⟨T1, X1, e1, st1⟩ := yag X0 hx hZ hown hby (w_47 hw) e0 P3 0 #[.val (.ref o1), .val (.long q2), .second, .unset] [] d2_0 d2_1 rfl
 obtain ⟨T2, X2, e2, st2⟩ := yag X1 hx hZ hown hby (w_49 hw) e1 P2 6 (l440_0 o1 q2) [(.int 0)] d2_6 d2_7 rfl
 obtain ⟨T3, X3, e3, st3⟩ := yag X2 hx hZ hown hby (w_40 hw) e2 P6 13 (l440_0 o1 q2) [] d2_13 d2_14 rfl
 obtain ⟨cl4, Ar4, qa4, Sa4, Na4, Ha4, Ga4⟩ := id (P7)
 have hin4 := inb_of (j := (0 : Int32)) Sa4 ⟨by decide, by decide⟩
 have hat4 : cl4.slots[((0 : Int32)).toNatClampNeg]? = some (.ref o6) := Has.at Ha4 hin4 rfl
 obtain ⟨_, T5, L5, X5, hQ5, st5⟩ := yv X3 hx hZ hown hby hml (y := yn7) (w_113 hw) (w_82 hw) (w_84 hw) (w_83 hw) (w_85 hw) (w_5 hw) e3 P9 [] [] (rm17 l Z a0 hw [] o6 ((9223372036854775807 : Int64)) h0 n0 O0 g_o6 (by decide : (9223372036854775807 : Int64) = (9223372036854775807 : Int64)) P10) 19 (l440_0 o1 q2) rfl d2_19 (lenOf pd5 rfl) 0 0 0
 obtain ⟨rfl, Nq6, e7⟩ := hQ5
 have N5 := Fr.app N0 Nq6
 obtain ⟨T8, X8, e8, st8⟩ := yag X5 hx hZ hown hby (w_40 hw) e7 P6 25 (l440_0 o1 q2) [] d2_25 d2_26 rfl
 obtain ⟨cl9, Ar9, qa9, Sa9, Na9, Ha9, Ga9⟩ := id (P7)
 have hin9 := inb_of (j := (0 : Int32)) Sa9 ⟨by decide, by decide⟩
 have hat9 : cl9.slots[((0 : Int32)).toNatClampNeg]? = some (.ref o6) := Has.at Ha9 hin9 rfl
 obtain ⟨_, T10, L10, X10, hQ10, st10⟩ := yv X8 hx hZ hown hby hml (y := yn14) (w_114 hw) (w_115 hw) (own_w hw 117 rfl) (w_116 hw) (w_118 hw) (w_5 hw) e8 P9 [(.long q2)] [] (rm18 l Z a0 hw [] o6 q2 h0 n0 O0 g_o6 P9 P10) 32 (l440_0 o1 q2) rfl d2_32 (lenOf pd2 rfl) 0 0 0
 obtain ⟨rfl, Nq11, K12, f13, f14⟩ := hQ10
 have N10 := Fr.app N5 Nq11
 have O10 := Old.keep O0 K12 (allS g_o6 all0)
 have f15 := (P0.keep K12)
 have ne16 : o1 ≠ o6 := ne_exa f15 f13 (by decide)
 have f17 := (P2.keep K12 (ninS ne16 nin0))
 obtain ⟨T18, X18, e18, st18⟩ := yag X10 hx hZ hown hby (w_49 hw) rfl f17 6 (l440_1 o1 q2) [(.int 1)] d2_6 d2_7 rfl
 have f19 := (P6.keep K12 (ninS ne16 nin0))
 obtain ⟨T20, X20, e20, st20⟩ := yag X18 hx hZ hown hby (w_40 hw) e18 f19 13 (l440_1 o1 q2) [] d2_13 d2_14 rfl
 have f21 := (P8.keep K12)
 have ne22 : o4 ≠ o6 := ne_exa f21 f13 (by decide)
 have f23 := (P7.keep K12 (ninS ne22 nin0))
 obtain ⟨cl24, Ar24, qa24, Sa24, Na24, Ha24, Ga24⟩ := id (f23)
 have hin24 := inb_of (j := (1 : Int32)) Sa24 ⟨by decide, by decide⟩
 have hat24 : cl24.slots[((1 : Int32)).toNatClampNeg]? = some (.ref o7) := Has.at Ha24 hin24 rfl
 have f25 := (P12.keep K12 (ninS ne_o7_o6 nin0))
 have f26 := (P11.keep K12)
 obtain ⟨_, T27, L27, X27, hQ27, st27⟩ := yv X20 hx hZ hown hby hml (y := yn7) (w_113 hw) (w_82 hw) (w_84 hw) (w_83 hw) (w_85 hw) (w_5 hw) e20 f26 [] [] (rm17 l Z a0 hw [] o7 ((9223372036854775807 : Int64)) T10.heap n0 O10 g_o7 (by decide : (9223372036854775807 : Int64) = (9223372036854775807 : Int64)) f25) 19 (l440_1 o1 q2) rfl d2_19 (lenOf pd5 rfl) 0 0 0
 obtain ⟨rfl, Nq28, e29⟩ := hQ27
 have N27 := Fr.app N10 Nq28
 obtain ⟨T30, X30, e30, st30⟩ := yag X27 hx hZ hown hby (w_40 hw) e29 f19 25 (l440_1 o1 q2) [] d2_25 d2_26 rfl
 obtain ⟨cl31, Ar31, qa31, Sa31, Na31, Ha31, Ga31⟩ := id (f23)
 have hin31 := inb_of (j := (1 : Int32)) Sa31 ⟨by decide, by decide⟩
 have hat31 : cl31.slots[((1 : Int32)).toNatClampNeg]? = some (.ref o7) := Has.at Ha31 hin31 rfl
 obtain ⟨_, T32, L32, X32, hQ32, st32⟩ := yv X30 hx hZ hown hby hml (y := yn14) (w_114 hw) (w_115 hw) (own_w hw 117 rfl) (w_116 hw) (w_118 hw) (w_5 hw) e30 f26 [(.long q2)] [] (rm18 l Z a0 hw [] o7 q2 T10.heap n0 O10 g_o7 f26 f25) 32 (l440_1 o1 q2) rfl d2_32 (lenOf pd2 rfl) 0 0 0
 obtain ⟨rfl, Nq33, K34, f35, f36⟩ := hQ32
 have N32 := Fr.app N27 Nq33
 have O32 := Old.keep O10 K34 (allS g_o7 all0)
 have f37 := (f15.keep K34)
 have ne38 : o1 ≠ o7 := ne_exa f37 f35 (by decide)
 have f39 := (f17.keep K34 (ninS ne38 nin0))
 obtain ⟨T40, X40, e40, st40⟩ := yag X32 hx hZ hown hby (w_49 hw) rfl f39 6 (l440_2 o1 q2) [(.int 2)] d2_6 d2_7 rfl
 obtain ⟨T41, X41, e41, st41⟩ := getS2 X40 hx hZ hown (host := "") (Or.inl (own_w hw 38 rfl)) Via.refl e40 (S_w1.ext O32.2) (g := (mkF m 42 (l440_2 o1 q2) [(.ref o1)])) rfl (hb hby d2_42)
 have f42 := (f19.keep K34 (ninS ne38 nin0))
 obtain ⟨T43, h43, X43, e43, W43, st43⟩ := yp X41 hx hZ hown hby (w_40 hw) e41 f42 f37 (w_41 hw) (w_32 hw) (ty := (.array (.object cn6))) (v := (.ref w1)) (by decide) rfl rfl 45 (l440_2 o1 q2) [] d2_45
 have N43 := Fr.snoc X43 N32 g_o1
 have Fw43 := f42.same W43
 have f44 := (((P4.keep K12 (ninS ne16 nin0)).keep K34 (ninS ne38 nin0)).other W43 (Or.inr (sn47 hw)))
 have f45 := (f37.wr W43)
 obtain ⟨T46, h46, X46, e46, W46, st46⟩ := yp X43 hx hZ hown hby (w_51 hw) e43 f44 f45 (w_52 hw) (w_32 hw) (ty := .int) (v := (.int 0)) (by decide) rfl rfl 50 (l440_2 o1 q2) [] d2_50
 have N46 := Fr.snoc X46 N43 g_o1
 have Fw46 := f44.same W46
 have f47 := ((((P3.keep K12 (ninS ne16 nin0)).keep K34 (ninS ne38 nin0)).other W43 (Or.inr (sn46 hw))).other W46 (Or.inr (sn49 hw)))
 have f48 := (f45.wr W46)
 obtain ⟨T49, h49, X49, e49, W49, st49⟩ := yp X46 hx hZ hown hby (w_47 hw) e46 f47 f48 (w_48 hw) (w_32 hw) (ty := .int) (v := (.int 0)) (by decide) rfl rfl 55 (l440_2 o1 q2) [] d2_55
 have N49 := Fr.snoc X49 N46 g_o1
 have Fw49 := f47.same W49
 have f50 := (((f39.other W43 (Or.inr (sn45 hw))).other W46 (Or.inr (sn50 hw))).other W49 (Or.inr (sn51 hw)))
 have f51 := (f48.wr W49)
 obtain ⟨T52, h52, X52, e52, W52, st52⟩ := yp X49 hx hZ hown hby (w_49 hw) e49 f50 f51 (w_50 hw) (w_32 hw) (ty := .int) (v := (.int 0)) (by decide) rfl rfl 60 (l440_2 o1 q2) [] d2_60
 have N52 := Fr.snoc X52 N49 g_o1
 have Fw52 := f50.same W52
 have f53 := ((((((P5.keep K12 (ninS ne16 nin0)).keep K34 (ninS ne38 nin0)).other W43 (Or.inr (sn48 hw))).other W46 (Or.inr (sn52 hw))).other W49 (Or.inr (sn53 hw))).other W52 (Or.inr (sn54 hw)))
 have f54 := (f51.wr W52)
 obtain ⟨T55, h55, X55, e55, W55, st55⟩ := yp X52 hx hZ hown hby (w_53 hw) e52 f53 f54 (w_54 hw) (w_32 hw) (ty := .int) (v := (.int 0)) (by decide) rfl rfl 65 (l440_2 o1 q2) [] d2_65
 have N55 := Fr.snoc X55 N52 g_o1
 have Fw55 := f53.same W55
 have f56 := (((((((P1.keep K12 (ninS ne16 nin0)).keep K34 (ninS ne38 nin0)).other W43 (Or.inr (sn44 hw))).other W46 (Or.inr (sn55 hw))).other W49 (Or.inr (sn56 hw))).other W52 (Or.inr (sn57 hw))).other W55 (Or.inr (sn58 hw)))
 have f57 := (f54.wr W55)
 obtain ⟨T58, h58, X58, e58, W58, st58⟩ := putFN X55 hx hZ hown (own_w hw 55 rfl) Via.refl e55 f56 f57 (Or.inl (w_56 hw)) (w_32 hw) (ty := .boolean) (v' := (.int 0)) (by decide) rfl (by decide) (g := (mkF m 70 (l440_2 o1 q2) [(.int 0), (.ref o1)])) rfl rfl (hb hby d2_70)
 have N58 := Fr.snoc X58 N55 g_o1
 have Fw58 := f56.same W58
 obtain ⟨fs, hr, hrun, hended, hW, hsame⟩ := X58.leave (v := none) (fun _ => rfl)
 have KL : Keep h0 h58 [o6, o7, o1] := (((((((((Keep.refl h0 [o6, o7, o1]).trans K12 (allS (Or.inl (List.mem_of_getElem? (i := 0) rfl)) all0)).trans K34 (allS (Or.inl (List.mem_of_getElem? (i := 1) rfl)) all0)).wr W43 (Or.inl (List.mem_of_getElem? (i := 2) rfl))).wr W46 (Or.inl (List.mem_of_getElem? (i := 2) rfl))).wr W49 (Or.inl (List.mem_of_getElem? (i := 2) rfl))).wr W52 (Or.inl (List.mem_of_getElem? (i := 2) rfl))).wr W55 (Or.inl (List.mem_of_getElem? (i := 2) rfl))).wr W58 (Or.inl (List.mem_of_getElem? (i := 2) rfl)))
 have f59 := (((((((f13.keep K34).wr W43).wr W46).wr W49).wr W52).wr W55).wr W58)
 have f60 := (((((((f14.keep K34 (ninS (Ne.symm ne_o7_o6) nin0)).other W43 (Or.inl (Ne.symm ne16))).other W46 (Or.inl (Ne.symm ne16))).other W49 (Or.inl (Ne.symm ne16))).other W52 (Or.inl (Ne.symm ne16))).other W55 (Or.inl (Ne.symm ne16))).other W58 (Or.inl (Ne.symm ne16)))
 have f61 := ((((((f35.wr W43).wr W46).wr W49).wr W52).wr W55).wr W58)
 have f62 := ((((((f36.other W43 (Or.inl (Ne.symm ne38))).other W46 (Or.inl (Ne.symm ne38))).other W49 (Or.inl (Ne.symm ne38))).other W52 (Or.inl (Ne.symm ne38))).other W55 (Or.inl (Ne.symm ne38))).other W58 (Or.inl (Ne.symm ne38)))
 have f63 := (f57.wr W58)
 have f64 := ((Fw52.other W55 (Or.inr (sn59 hw))).other W58 (Or.inr (sn60 hw)))
 have f65 := (((Fw49.other W52 (Or.inr (sn61 hw))).other W55 (Or.inr (sn62 hw))).other W58 (Or.inr (sn63 hw)))
 have f66 := ((((Fw46.other W49 (Or.inr (sn64 hw))).other W52 (Or.inr (sn65 hw))).other W55 (Or.inr (sn66 hw))).other W58 (Or.inr (sn67 hw)))
 have f67 := (Fw55.other W58 (Or.inr (sn68 hw)))
 have f68 := (((((Fw43.other W46 (Or.inr (sn69 hw))).other W49 (Or.inr (sn70 hw))).other W52 (Or.inr (sn71 hw))).other W55 (Or.inr (sn72 hw))).other W58 (Or.inr (sn73 hw)))
 refine ⟨_, _, pre0 _ ?_, hrun, hended, _, _, rfl, ?_, ⟨_, rfl⟩, hW, hsame.mono (by decide) (by decide)⟩
 ·
  refine st1 _ ?_
  refine yit X1 hx hby d2_4 (l' := (l440_0 o1 q2)) rfl ?_
  refine yin X1 hx hby d2_5 rfl ?_
  refine st2 _ ?_
  refine yno X2 hx hby d2_10 (tlt (by decide : (0 : Int32) < (2 : Int32))).2.1 ?_
  refine st3 _ ?_
  refine yin X3 hx hby d2_17 rfl ?_
  refine X3.aaload hx (j := (0 : Int32)) (v := (.ref o6)) (by rw [e3]; exact Ar4.1) (State.isArrayOf_alike hZ.alike Ar4.2.1) rfl Ar4.2.2 hin4 hat4 (g := (mkF m 18 (l440_0 o1 q2) [(.int 0), (.ref o4)])) rfl rfl (hb hby d2_18) _ ?_
  refine st5 _ ?_
  refine yfn X5 hx hby d2_22 ((if0 _ _).trans (feq (by decide : ¬ ((1 : Int32) = (0 : Int32)))).1) ?_
  refine st8 _ ?_
  refine yin X8 hx hby d2_29 rfl ?_
  refine X8.aaload hx (j := (0 : Int32)) (v := (.ref o6)) (by rw [e8]; exact Ar9.1) (State.isArrayOf_alike hZ.alike Ar9.2.1) rfl Ar9.2.2 hin9 hat9 (g := (mkF m 30 (l440_0 o1 q2) [(.int 0), (.ref o4)])) rfl rfl (hb hby d2_30) _ ?_
  refine XS.lloadN X8.here hx rfl (hb hby d2_31) rfl ?_
  refine st10 _ ?_
  refine XS.iinc X10.here hx rfl (hb hby d2_35) rfl (l' := (l440_1 o1 q2)) rfl ?_
  refine ygo X10 hx hby 38 5 rfl d2_38 (by decide) ?_
  refine yin X10 hx hby d2_5 rfl ?_
  refine st18 _ ?_
  refine yno X18 hx hby d2_10 (tlt (by decide : (1 : Int32) < (2 : Int32))).2.1 ?_
  refine st20 _ ?_
  refine yin X20 hx hby d2_17 rfl ?_
  refine X20.aaload hx (j := (1 : Int32)) (v := (.ref o7)) (by rw [e20]; exact Ar24.1) (State.isArrayOf_alike hZ.alike Ar24.2.1) rfl Ar24.2.2 hin24 hat24 (g := (mkF m 18 (l440_1 o1 q2) [(.int 1), (.ref o4)])) rfl rfl (hb hby d2_18) _ ?_
  refine st27 _ ?_
  refine yfn X27 hx hby d2_22 ((if0 _ _).trans (feq (by decide : ¬ ((1 : Int32) = (0 : Int32)))).1) ?_
  refine st30 _ ?_
  refine yin X30 hx hby d2_29 rfl ?_
  refine X30.aaload hx (j := (1 : Int32)) (v := (.ref o7)) (by rw [e30]; exact Ar31.1) (State.isArrayOf_alike hZ.alike Ar31.2.1) rfl Ar31.2.2 hin31 hat31 (g := (mkF m 30 (l440_1 o1 q2) [(.int 1), (.ref o4)])) rfl rfl (hb hby d2_30) _ ?_
  refine XS.lloadN X30.here hx rfl (hb hby d2_31) rfl ?_
  refine st32 _ ?_
  refine XS.iinc X32.here hx rfl (hb hby d2_35) rfl (l' := (l440_2 o1 q2)) rfl ?_
  refine ygo X32 hx hby 38 5 rfl d2_38 (by decide) ?_
  refine yin X32 hx hby d2_5 rfl ?_
  refine st40 _ ?_
  refine yye X40 hx hby 10 41 rfl d2_10 (flt (by decide : ¬ ((2 : Int32) < (2 : Int32)))).2.1 (by decide) ?_
  refine yan X40 hx hby d2_41 rfl rfl ?_
  refine st41 _ ?_
  refine st43 _ ?_
  refine yan X43 hx hby d2_48 rfl rfl ?_
  refine yic X43 hx hby d2_49 ?_
  refine st46 _ ?_
  refine yan X46 hx hby d2_53 rfl rfl ?_
  refine yic X46 hx hby d2_54 ?_
  refine st49 _ ?_
  refine yan X49 hx hby d2_58 rfl rfl ?_
  refine yic X49 hx hby d2_59 ?_
  refine st52 _ ?_
  refine yan X52 hx hby d2_63 rfl rfl ?_
  refine yic X52 hx hby d2_64 ?_
  refine st55 _ ?_
  refine yan X55 hx hby d2_68 rfl rfl ?_
  refine yic X55 hx hby d2_69 ?_
  refine st58 _ ?_
  show Steps p.tables e below (T58.setTop (mkF m 73 (l440_2 o1 q2) [])) _
  exact X58.returnOut hx hret (hb hby d2_73) hr
 ·
  show Q28 Z w1 kw1 o1 o4 o6 o7 kc5 p3 q2 h0 n0 _ T58.heap _
  rw [e58]
  exact ⟨rfl, N58, KL, f59, f60, f61, f62, f63, Fw58, f64, f65, f66, f67, f68⟩
def l441_0 (dp1 : Int32) (dq2 q3 q4 : Int64) (dp3 dp4 zz50 : Int32) (dq50 : Int64) (da5 o6 : Addr) (o7 o8 o9 : Addr) : Array Slot := #[.val (.int dp1), .val (.long dq2), .second, .val (.long q3), .second, .val (.long q4), .second, .val (.int 1), .val (.int 1), .val (.int dp3), .val (.int dp4), .val (.int 0), .val (.int 0), .val (.int zz50), .val (.long dq50), .second, .val (.ref da5), .val (.ref o6), .val (.ref o7), .val (.ref o8), .val (.ref o9), .val (.int 1), .val (.long q3), .second, .val (.long q3), .second, .unset, .unset, .unset, .unset]
def l441_1 (dp1 : Int32) (dq2 q3 q4 : Int64) (dp3 dp4 zz50 : Int32) (dq50 : Int64) (da5 o6 : Addr) (o7 o8 o9 : Addr) : Array Slot := #[.val (.int dp1), .val (.long dq2), .second, .val (.long q3), .second, .val (.long q4), .second, .val (.int 1), .val (.int 1), .val (.int dp3), .val (.int dp4), .val (.int 0), .val (.int 0), .val (.int zz50), .val (.long dq50), .second, .val (.ref da5), .val (.ref o6), .val (.ref o7), .val (.ref o8), .val (.ref o9), .unset, .unset, .unset, .unset, .unset, .unset, .unset, .unset, .unset]
set_option maxRecDepth 65536 in
set_option maxHeartbeats 40000000 in
theorem ct15 {p : Program} {l : Launch} {e : Env} {s : State} {m : MethodId} {below : List Frame} {meth : Method} {c : Code} {E0 T0 : State} {locs : List Loc} {Z : State} {a0 : Array Value} (hw : HW a0 Z) (w1 : Addr) (kw1 : ClassId) (G : GW Z w1 kw1) (o6 o7 : Addr) (o8 o9 : Addr) (q3 : Int64) (zz50 dp1 : Int32) (dq2 q4 : Int64) (dp3 dp4 : Int32) (dq50 : Int64) (da5 : Addr) (p1 : Int32) (q2 : Int64) (h0 : Heap) (n0 : Nat) (O0 : Old Z n0 h0)
    (hx : p.tables.exec = Jvm.exec) (hby : c.code = code) (hml : c.maxLocals = 30) (hown : s.vm.findClass cn8 = some m.cls) (hret : meth.sig.returnType = ret) (hlk : meth.locks = false) (hZ : Z.Warmed39 s.vm)
    (X0 : Stand p l e room_1 s m #[(.int p1), (.long q2), (.long q3), (.long q4)] below meth c T0 locs 7 46) (e0 : T0.heap = h0) (N0 : Fr n0 locs) (pre0 : Go p e below T0 (mkF m 270 (l441_1 dp1 dq2 q3 q4 dp3 dp4 zz50 dq50 da5 o6 o7 o8 o9) []) E0) (g_o6 : n0 ≤ o6) (g_o7 : n0 ≤ o7) (g_o8 : n0 ≤ o8) (g_o9 : n0 ≤ o9) (P0 : Exa Z h0 o6 cn6) (P1 : Fld Z h0 o6 cn6 "removed" "J" (.long q3)) (P2 : Exa Z h0 o7 cn6) (P3 : Fld Z h0 o7 cn6 "removed" "J" (.long q3)) (P4 : Exa Z h0 o8 cn6) (P6 : Exa Z h0 o9 cn7) (P7 : Fld Z h0 o9 cn7 "addsFirst" "Z" (.int 0)) (P8 : Fld Z h0 o9 cn7 "end" "I" (.int 0)) (P9 : Fld Z h0 o9 cn7 "first" "I" (.int 0)) (P10 : Fld Z h0 o9 cn7 "low" "I" (.int 0)) (P11 : Fld Z h0 o9 cn7 "removed" "I" (.int 0)) (P12 : Fld Z h0 o9 cn7 "slots" cn3 (.ref w1)) (bzz50 : 0 ≤ zz50.toInt ∧ zz50.toInt ≤ 1) :
    ∃ (s₂ : State) (o : Outcome), Steps p.tables e below E0 s₂ ∧ s₂.status = .running ∧ Ended s₂ below o ∧ ∃ v L, o = .returned v ∧ Q0 n0 v s₂.heap L ∧ FrameEnd s o s₂ L 24 192 := by
 obtain ⟨S_w1, A_w1⟩ := id G
 obtain ⟨_, T1, L1, X1, hQ1, st1⟩ := yv X0 hx hZ hown hby hml (y := yn3) (own_w hw 57 rfl) (w_58 hw) (own_w hw 60 rfl) (w_59 hw) (own_w hw 61 rfl) (w_33 hw) e0 P6 [] [] (rm4 l Z a0 hw [] o9 ((0 : Int32)) ((0 : Int32)) ((0 : Int32)) h0 n0 O0 g_o9 P8 P9 P11) 272 (l441_1 dp1 dq2 q3 q4 dp3 dp4 zz50 dq50 da5 o6 o7 o8 o9) rfl at_272 (lenOf pd3 rfl) 0 7 46
 obtain ⟨rfl, Nq2, e3⟩ := hQ1
 have N1 := Fr.app N0 Nq2
 obtain ⟨_, T4, L4, X4, hQ4, st4⟩ := yv X1 hx hZ hown hby hml (y := yn4) (own_w hw 62 rfl) (own_w hw 63 rfl) (own_w hw 65 rfl) (own_w hw 64 rfl) (own_w hw 66 rfl) (w_33 hw) e3 P6 [] [] (rm5 l Z a0 hw [] o9 ((0 : Int32)) h0 n0 O0 g_o9 P9) 280 (l441_1 dp1 dq2 q3 q4 dp3 dp4 zz50 dq50 da5 o6 o7 o8 o9) rfl at_280 (lenOf pd3 rfl) 0 7 46
 obtain ⟨rfl, Nq5, e6⟩ := hQ4
 have N4 := Fr.app N1 Nq5
 obtain ⟨_, T7, L7, X7, hQ7, st7⟩ := yv X4 hx hZ hown hby hml (y := yn5) (own_w hw 67 rfl) (own_w hw 68 rfl) (own_w hw 70 rfl) (own_w hw 69 rfl) (own_w hw 71 rfl) (w_33 hw) e6 P6 [] [] (rm6 l Z a0 hw [] o9 ((0 : Int32)) h0 n0 O0 g_o9 P8) 288 (l441_1 dp1 dq2 q3 q4 dp3 dp4 zz50 dq50 da5 o6 o7 o8 o9) rfl at_288 (lenOf pd3 rfl) 0 7 46
 obtain ⟨rfl, Nq8, e9⟩ := hQ7
 have N7 := Fr.app N4 Nq8
 obtain ⟨_, T10, L10, X10, hQ10, st10⟩ := yv X7 hx hZ hown hby hml (y := yn6) (own_w hw 72 rfl) (own_w hw 73 rfl) (own_w hw 75 rfl) (own_w hw 74 rfl) (own_w hw 76 rfl) (w_33 hw) e9 P6 [] [] (rm7 l Z a0 hw w1 kw1 G [] o9 h0 n0 O0 g_o9 P12) 296 (l441_1 dp1 dq2 q3 q4 dp3 dp4 zz50 dq50 da5 o6 o7 o8 o9) rfl at_296 (lenOf pd4 rfl) 0 7 46
 obtain ⟨rfl, Nq11, e12⟩ := hQ10
 have N10 := Fr.app N7 Nq11
 obtain ⟨cl13, Ar13, qa13, Sa13, Na13, Ha13, Ga13⟩ := id ((A_w1.ext O0.2))
 have pre14 : Go p e below T10 (mkF m 358 (l441_0 dp1 dq2 q3 q4 dp3 dp4 zz50 dq50 da5 o6 o7 o8 o9) []) E0 := fun t k => by
  refine pre0 _ ?_
  refine yal X0 hx hby at_270 rfl rfl ?_
  refine st1 _ ?_
  refine yfn X1 hx hby at_275 ((if0 _ _).trans (teq (own_geq (n := 0) (k := (0 : Int32)) (by decide) (by have q0 := own_sub (x := ((0 : Int32) - (0 : Int32))) (k := (0 : Int32)) (n := 0) (lo := 0) (hi := 0) (by decide) (by have q0 := own_sub (x := (0 : Int32)) (k := (0 : Int32)) (n := 0) (lo := 0) (hi := 0) (by decide) (by have q0 := (by decide : ((0 : Int32)).toInt = 0); omega) (by decide) (by decide); omega) (by decide) (by decide); omega))).2) ?_
  refine yal X1 hx hby at_278 rfl rfl ?_
  refine st4 _ ?_
  refine yfn X4 hx hby at_283 ((if0 _ _).trans (teq (by decide : (0 : Int32) = (0 : Int32))).2) ?_
  refine yal X4 hx hby at_286 rfl rfl ?_
  refine st7 _ ?_
  refine yfn X7 hx hby at_291 ((if0 _ _).trans (teq (by decide : (0 : Int32) = (0 : Int32))).2) ?_
  refine yal X7 hx hby at_294 rfl rfl ?_
  refine st10 _ ?_
  refine X10.arraylength hx (by rw [e12]; exact Ar13.1) (State.isArrayOf_alike hZ.alike Ar13.2.1) (g := (mkF m 299 (l441_1 dp1 dq2 q3 q4 dp3 dp4 zz50 dq50 da5 o6 o7 o8 o9) [(.ref w1)])) rfl rfl (hb hby at_299) _ ?_
  rw [len_of Sa13 Na13]
  refine yfn X10 hx hby at_300 ((if0 _ _).trans (teq (by decide : (0 : Int32) = (0 : Int32))).2) ?_
  refine yic X10 hx hby at_303 ?_
  refine ygo X10 hx hby 304 308 rfl at_304 (by decide) ?_
  refine yis X10 hx hby at_308 (l' := #[.val (.int dp1), .val (.long dq2), .second, .val (.long q3), .second, .val (.long q4), .second, .val (.int 1), .val (.int 1), .val (.int dp3), .val (.int dp4), .val (.int 0), .val (.int 0), .val (.int zz50), .val (.long dq50), .second, .val (.ref da5), .val (.ref o6), .val (.ref o7), .val (.ref o8), .val (.ref o9), .val (.int 1), .unset, .unset, .unset, .unset, .unset, .unset, .unset, .unset]) rfl ?_
  refine yil X10 hx hby at_310 rfl ?_
  refine XS.ifYes X10.here hx rfl (pc0 := 312) (pc' := 320) rfl (hb hby at_312) rfl ((if0 _ _).trans (teq (by decide : (0 : Int32) = (0 : Int32))).1) (by decide) (by decide) ?_
  refine yil X10 hx hby at_320 rfl ?_
  refine yfn X10 hx hby at_322 ((if0 _ _).trans (feq (by decide : ¬ ((1 : Int32) = (0 : Int32)))).1) ?_
  refine XS.lloadN X10.here hx rfl (hb hby at_325) rfl ?_
  refine ygo X10 hx hby 326 332 rfl at_326 (by decide) ?_
  refine XS.lstore X10.here hx rfl (hb hby at_332) rfl (l' := #[.val (.int dp1), .val (.long dq2), .second, .val (.long q3), .second, .val (.long q4), .second, .val (.int 1), .val (.int 1), .val (.int dp3), .val (.int dp4), .val (.int 0), .val (.int 0), .val (.int zz50), .val (.long dq50), .second, .val (.ref da5), .val (.ref o6), .val (.ref o7), .val (.ref o8), .val (.ref o9), .val (.int 1), .val (.long q3), .second, .unset, .unset, .unset, .unset, .unset, .unset]) rfl ?_
  refine yil X10 hx hby at_334 rfl ?_
  refine XS.ifYes X10.here hx rfl (pc0 := 336) (pc' := 344) rfl (hb hby at_336) rfl ((if0 _ _).trans (teq (by decide : (0 : Int32) = (0 : Int32))).1) (by decide) (by decide) ?_
  refine yil X10 hx hby at_344 rfl ?_
  refine yfn X10 hx hby at_346 ((if0 _ _).trans (feq (by decide : ¬ ((1 : Int32) = (0 : Int32)))).1) ?_
  refine XS.lloadN X10.here hx rfl (hb hby at_349) rfl ?_
  refine ygo X10 hx hby 350 356 rfl at_350 (by decide) ?_
  refine XS.lstore X10.here hx rfl (hb hby at_356) rfl (l' := (l441_0 dp1 dq2 q3 q4 dp3 dp4 zz50 dq50 da5 o6 o7 o8 o9)) rfl ?_
  exact k
 exact ct5 hw w1 kw1 G o6 o7 o8 o9 q3 q3 zz50 dp1 dq2 q3 q4 ((1 : Int32)) ((1 : Int32)) dp3 dp4 ((0 : Int32)) ((0 : Int32)) dq50 da5 p1 q2 q3 h0 n0 O0 hx hby hml hown hret hlk hZ (X10.more (by decide) (by decide)) e12 N10 pre14 g_o6 g_o7 g_o8 g_o9 P0 P1 P2 P3 P4 P6 P7 P8 P9 P10 P11 P12 (by have q0 := bzz50; omega)
def l442_0 (o1 o2 : Addr) (q3 : Int64) : Array Slot := #[.val (.ref o1), .val (.ref o2), .val (.long q3), .second]
theorem ef29 (m : MethodId) (x0 x1 : Addr) (x2 : Int64) : entryFrame m #[(.ref x0), (.ref x1), (.long x2)] 4 = mkF m 0 #[.val (.ref x0), .val (.ref x1), .val (.long x2), .second] [] := by first | (simp [entryFrame, mkF, argsToLocals, Value.category]; done) | rfl
def Q29 (Z : State) (o1 o2 : Addr) (o4 o6 : Addr) (kc5 : ClassId) (q3 : Int64) (h0 : Heap) (n0 : Nat) (v : Option Value) (h : Heap) (L : List Loc) : Prop :=
  (v = none ∧ Fr n0 L ∧ Keep h0 h [o2, o1] ∧ (Exa Z h o2 cn6) ∧ (Fld Z h o2 cn6 "removed" "J" (.long q3)) ∧ (Exa Z h o1 cn7) ∧ (Fld Z h o1 cn7 "addsFirst" "Z" (.int 0)) ∧ (Fld Z h o1 cn7 "end" "I" (.int 2)) ∧ (Fld Z h o1 cn7 "first" "I" (.int 0)) ∧ (Fld Z h o1 cn7 "low" "I" (.int 0)) ∧ (Fld Z h o1 cn7 "removed" "I" (.int 1)) ∧ (Fld Z h o1 cn7 "slots" cn3 (.ref o4)))
set_option maxRecDepth 65536 in
set_option maxHeartbeats 40000000 in
theorem rm29 (l : Launch) (Z : State) (a0 : Array Value) (hw : HW a0 Z) (ws : List Jvm.Cond) (o1 o2 : Addr) (o4 o6 : Addr) (kc5 : ClassId) (q3 : Int64) (h0 : Heap) (n0 : Nat) (O0 : Old Z n0 h0) (g_o1 : n0 ≤ o1) (g_o2 : n0 ≤ o2) (g_o4 : n0 ≤ o4) (g_o6 : n0 ≤ o6) (ne_o6_o2 : o6 ≠ o2) (Ov_kc5 : Ovr Z kc5 cn6) (hp0 : ¬ (q3 = (9223372036854775807 : Int64))) (P0 : Exa Z h0 o1 cn7) (P1 : Fld Z h0 o1 cn7 "addsFirst" "Z" (.int 0)) (P2 : Fld Z h0 o1 cn7 "end" "I" (.int 2)) (P3 : Fld Z h0 o1 cn7 "first" "I" (.int 0)) (P4 : Fld Z h0 o1 cn7 "low" "I" (.int 0)) (P5 : Fld Z h0 o1 cn7 "removed" "I" (.int 0)) (P6 : Fld Z h0 o1 cn7 "slots" cn3 (.ref o4)) (P7 : Exa Z h0 o2 cn6) (P8 : Fld Z h0 o2 cn6 "removed" "J" (.long 9223372036854775807)) (P9 : Arv Z h0 o4 kc5 (.object cn6) (4 : Int32) [(.ref o6), (.ref o2), .null, .null] .null) (P10 : Exa Z h0 o4 cn3) (P11 : Exa Z h0 o6 cn6) (P12 : Fld Z h0 o6 cn6 "removed" "J" (.long 9223372036854775807)) :
    MF l yn15 prog_41_method_8_code 4 none ws ({ frames := 1, cells := 0, slots := 0, locals := 14 } : Room) #[(.ref o1), (.ref o2), (.long q3)] Z h0 (Q29 Z o1 o2 o4 o6 kc5 q3 h0 n0) := by
 refine MetFree.of_bodySF (plainFor_of_name pn1) hisR ?_
 intro p e s m args below meth c s₁ Bd hml hP hK
 obtain ⟨rfl, hZ, hh⟩ := hP
 obtain ⟨hx, hby, hown, hret, hlk, X0, e0, N0⟩ := own_bd Bd hh n0
 have pre0 := own_ct s₁ (p := p) (e := e) (below := below) (ef29 m o1 o2 q3)
 revert pre0
 generalize s₁.setTop (entryFrame m #[(.ref o1), (.ref o2), (.long q3)] 4) = E0
 intro pre0
 obtain ⟨_, T1, L1, X1, hQ1, st1⟩ := yv X0 hx hZ hown hby hml (y := yn14) (w_114 hw) (w_115 hw) (own_w hw 117 rfl) (w_116 hw) (w_118 hw) (w_5 hw) e0 P7 [(.long q3)] [] (rm20 l Z a0 hw [] o2 q3 h0 n0 O0 g_o2 hp0 P7 P8) 2 (l442_0 o1 o2 q3) rfl d15_2 (lenOf pd2 rfl) 0 0 0
 obtain ⟨rfl, Nq2, K3, f4, f5⟩ := hQ1
 have N1 := Fr.app N0 Nq2
 have O1 := Old.keep O0 K3 (allS g_o2 all0)
 have f6 := (P0.keep K3)
 have ne7 : o1 ≠ o2 := ne_exa f6 f4 (by decide)
 have f8 := (P5.keep K3 (ninS ne7 nin0))
 obtain ⟨T9, X9, e9, st9⟩ := yg X1 hx hZ hown hby (w_53 hw) rfl f8 7 (l442_0 o1 o2 q3) [(.ref o1)] d15_7
 obtain ⟨T10, h10, X10, e10, W10, st10⟩ := yp X9 hx hZ hown hby (w_53 hw) e9 f8 f6 (w_54 hw) (w_32 hw) (ty := .int) (v := (.int 1)) (by decide) rfl rfl 12 (l442_0 o1 o2 q3) [] d15_12
 have N10 := Fr.snoc X10 N1 g_o1
 have Fw10 := f8.same W10
 have O10 := Old.wr O1 W10 g_o1
 have f11 := ((P3.keep K3 (ninS ne7 nin0)).other W10 (Or.inr (sn62 hw)))
 obtain ⟨T12, X12, e12, st12⟩ := yag X10 hx hZ hown hby (w_47 hw) e10 f11 15 (l442_0 o1 o2 q3) [] d15_15 d15_16 rfl
 have f13 := ((P2.keep K3 (ninS ne7 nin0)).other W10 (Or.inr (sn59 hw)))
 obtain ⟨T14, X14, e14, st14⟩ := yag X12 hx hZ hown hby (w_49 hw) e12 f13 19 (l442_0 o1 o2 q3) [(.int 0)] d15_19 d15_20 rfl
 have f15 := ((P6.keep K3 (ninS ne7 nin0)).other W10 (Or.inr (sn72 hw)))
 obtain ⟨T16, X16, e16, st16⟩ := yag X14 hx hZ hown hby (w_40 hw) e14 f15 26 (l442_0 o1 o2 q3) [] d15_26 d15_27 rfl
 obtain ⟨T17, X17, e17, st17⟩ := yag X16 hx hZ hown hby (w_47 hw) e16 f11 30 (l442_0 o1 o2 q3) [(.ref o4)] d15_30 d15_31 rfl
 have f18 := ((P10.keep K3).wr W10)
 have f19 := (f4.wr W10)
 have ne20 : o4 ≠ o2 := ne_exa f18 f19 (by decide)
 have f21 := (f6.wr W10)
 have ne22 : o4 ≠ o1 := ne_exa f18 f21 (by decide)
 have f23 := ((P9.keep K3 (ninS ne20 nin0)).other W10 ne22)
 obtain ⟨cl24, Ar24, qa24, Sa24, Na24, Ha24, Ga24⟩ := id (f23)
 have hin24 := inb_of (j := (0 : Int32)) Sa24 ⟨by decide, by decide⟩
 have hat24 : cl24.slots[((0 : Int32)).toNatClampNeg]? = some (.ref o6) := Has.at Ha24 hin24 rfl
 have f25 := ((P11.keep K3).wr W10)
 have ne26 : o6 ≠ o1 := ne_exa f25 f21 (by decide)
 have f27 := ((P12.keep K3 (ninS ne_o6_o2 nin0)).other W10 (Or.inl ne26))
 obtain ⟨_, T28, L28, X28, hQ28, st28⟩ := yv X17 hx hZ hown hby hml (y := yn7) (w_113 hw) (w_82 hw) (w_84 hw) (w_83 hw) (w_85 hw) (w_5 hw) e17 f25 [] [] (rm17 l Z a0 hw [] o6 ((9223372036854775807 : Int64)) h10 n0 O10 g_o6 (by decide : (9223372036854775807 : Int64) = (9223372036854775807 : Int64)) f27) 35 (l442_0 o1 o2 q3) rfl d15_35 (lenOf pd5 rfl) 0 0 0
 obtain ⟨rfl, Nq29, e30⟩ := hQ28
 have N28 := Fr.app N10 Nq29
 obtain ⟨T31, X31, e31, st31⟩ := yag X28 hx hZ hown hby (w_47 hw) e30 f11 64 (l442_0 o1 o2 q3) [] d15_64 d15_65 rfl
 have f32 := ((P4.keep K3 (ninS ne7 nin0)).other W10 (Or.inr (sn66 hw)))
 obtain ⟨T33, X33, e33, st33⟩ := yag X31 hx hZ hown hby (w_51 hw) e31 f32 68 (l442_0 o1 o2 q3) [(.int 0)] d15_68 d15_69 rfl
 obtain ⟨T34, X34, e34, st34⟩ := yag X33 hx hZ hown hby (w_53 hw) e33 Fw10 73 (l442_0 o1 o2 q3) [(.int 0)] d15_73 d15_74 rfl
 obtain ⟨_, T35, L35, X35, hQ35, st35⟩ := yv X34 hx hZ hown hby hml (y := yn3) (own_w hw 100 rfl) (w_58 hw) (own_w hw 60 rfl) (w_59 hw) (own_w hw 61 rfl) (w_33 hw) e34 f21 [] [(.int 1)] (rm4 l Z a0 hw [] o1 ((2 : Int32)) ((0 : Int32)) ((1 : Int32)) h10 n0 O10 g_o1 f13 f11 Fw10) 79 (l442_0 o1 o2 q3) rfl d15_79 (lenOf pd3 rfl) 1 0 0
 obtain ⟨rfl, Nq36, e37⟩ := hQ35
 have N35 := Fr.app N28 Nq36
 obtain ⟨_, T38, L38, X38, hQ38, st38⟩ := own_cs X35 hx hZ hown (y := yn10) (own_w hw 101 rfl) (own_w hw 102 rfl) (own_w hw 104 rfl) (w_103 hw) e37 (argsL := [(.int (((2 : Int32) - (0 : Int32)) - (1 : Int32))), (.int 4)]) (rest := [(.int 1)]) (rm11 l Z a0 hw [] ((((2 : Int32) - (0 : Int32)) - (1 : Int32))) ((4 : Int32)) h10 n0 O10 ) (g := (mkF m 83 (l442_0 o1 o2 q3) [(.int 4), (.int (((2 : Int32) - (0 : Int32)) - (1 : Int32))), (.int 1)])) rfl (by rw [hml]; rfl) rfl (hb hby d15_83) (lenOf pd8 rfl) (W := 1) (c1 := 0) (s1 := 0)
 have pre39 : Go p e below T35 (mkF m 83 (l442_0 o1 o2 q3) [(.int 4), (.int (((2 : Int32) - (0 : Int32)) - (1 : Int32))), (.int 1)]) E0 := fun t k => by
  refine pre0 _ ?_
  refine yan X0 hx hby d15_0 rfl rfl ?_
  refine XS.lloadN X0.here hx rfl (hb hby d15_1) rfl ?_
  refine st1 _ ?_
  refine yan X1 hx hby d15_5 rfl rfl ?_
  refine XS.dup X1.here hx rfl (hb hby d15_6) rfl rfl ?_
  refine st9 _ ?_
  refine yic X9 hx hby d15_10 ?_
  refine yad X9 hx hby d15_11 ?_
  refine st10 _ ?_
  refine st12 _ ?_
  refine st14 _ ?_
  refine yno X14 hx hby d15_23 (tlt (by decide : (0 : Int32) < (2 : Int32))).2.1 ?_
  refine st16 _ ?_
  refine st17 _ ?_
  refine X17.aaload hx (j := (0 : Int32)) (v := (.ref o6)) (by rw [e17]; exact Ar24.1) (State.isArrayOf_alike hZ.alike Ar24.2.1) rfl Ar24.2.2 hin24 hat24 (g := (mkF m 34 (l442_0 o1 o2 q3) [(.int 0), (.ref o4)])) rfl rfl (hb hby d15_34) _ ?_
  refine st28 _ ?_
  refine XS.ifYes X28.here hx rfl (pc0 := 38) (pc' := 64) rfl (hb hby d15_38) rfl ((if0 _ _).trans (feq (by decide : ¬ ((1 : Int32) = (0 : Int32)))).2) (by decide) (by decide) ?_
  refine st31 _ ?_
  refine st33 _ ?_
  refine ysu X33 hx hby d15_72 ?_
  refine st34 _ ?_
  refine yad X34 hx hby d15_77 ?_
  refine yan X34 hx hby d15_78 rfl rfl ?_
  refine st35 _ ?_
  refine yic X35 hx hby d15_82 ?_
  exact k
 rcases hQ38 with ⟨hc40, rfl, Nq41, e42⟩ | ⟨hc43, rfl, Nq44, e45⟩
 ·
  have N38 := Fr.app N35 Nq41
  obtain ⟨fs, hr, hrun, hended, hW, hsame⟩ := X38.leave (v := none) (fun _ => rfl)
  have KL : Keep h0 h10 [o2, o1] := (((Keep.refl h0 [o2, o1]).trans K3 (allS (Or.inl (List.mem_of_getElem? (i := 0) rfl)) all0)).wr W10 (Or.inl (List.mem_of_getElem? (i := 1) rfl)))
  have f46 := (f5.other W10 (Or.inl (Ne.symm ne7)))
  have f47 := ((P1.keep K3 (ninS ne7 nin0)).other W10 (Or.inr (sn58 hw)))
  refine ⟨_, _, pre39 _ ?_, hrun, hended, _, _, rfl, ?_, ⟨_, rfl⟩, hW, hsame.mono (by decide) (by decide)⟩
  ·
   refine st38 _ ?_
   refine yye X38 hx hby 86 93 rfl d15_86 (flt (by decide : ¬ ((4 : Int32) < (1 : Int32)))).2.2.2 (by decide) ?_
   show Steps p.tables e below (T38.setTop (mkF m 93 (l442_0 o1 o2 q3) [])) _
   exact X38.returnOut hx hret (hb hby d15_93) hr
  ·
   show Q29 Z o1 o2 o4 o6 kc5 q3 h0 n0 _ T38.heap _
   rw [e42]
   exact ⟨rfl, N38, KL, f19, f46, f21, f47, f13, f11, f32, Fw10, f15⟩
 ·
  exact absurd (own_glt1 (n := 4) (k := (4 : Int32)) (by decide) (by have q0 := own_sub (x := ((2 : Int32) - (0 : Int32))) (k := (1 : Int32)) (n := 1) (lo := 2) (hi := 2) (by decide) (by have q0 := own_sub (x := (2 : Int32)) (k := (0 : Int32)) (n := 0) (lo := 2) (hi := 2) (by decide) (by have q0 := (by decide : ((2 : Int32)).toInt = 2); omega) (by decide) (by decide); omega) (by decide) (by decide); omega)) hc43
def l443_0 (o1 : Addr) (q2 : Int64) : Array Slot := #[.val (.ref o1), .val (.long q2), .second, .val (.int 0)]
def l443_1 (o1 : Addr) (q2 : Int64) : Array Slot := #[.val (.ref o1), .val (.long q2), .second, .val (.int 1)]
def l443_2 (o1 : Addr) (q2 : Int64) : Array Slot := #[.val (.ref o1), .val (.long q2), .second, .val (.int 2)]
theorem ef30 (m : MethodId) (x0 : Addr) (x1 : Int64) : entryFrame m #[(.ref x0), (.long x1)] 4 = mkF m 0 #[.val (.ref x0), .val (.long x1), .second, .unset] [] := by first | (simp [entryFrame, mkF, argsToLocals, Value.category]; done) | rfl
def Q30 (Z : State) (w1 : Addr) (kw1 : ClassId) (o1 o5 : Addr) (o7 o8 : Addr) (kc6 : ClassId) (q9 : Int64) (p3 p4 : Int32) (q2 : Int64) (h0 : Heap) (n0 : Nat) (v : Option Value) (h : Heap) (L : List Loc) : Prop :=
  (v = none ∧ Fr n0 L ∧ Keep h0 h [o7, o1] ∧ (Exa Z h o7 cn6) ∧ (Fld Z h o7 cn6 "removed" "J" (.long q2)) ∧ (Exa Z h o1 cn7) ∧ (Fld Z h o1 cn7 "addsFirst" "Z" (.int 0)) ∧ (Fld Z h o1 cn7 "end" "I" (.int 0)) ∧ (Fld Z h o1 cn7 "first" "I" (.int 0)) ∧ (Fld Z h o1 cn7 "low" "I" (.int 0)) ∧ (Fld Z h o1 cn7 "removed" "I" (.int 0)) ∧ (Fld Z h o1 cn7 "slots" cn3 (.ref w1)))
set_option maxRecDepth 65536 in
set_option maxHeartbeats 40000000 in
theorem rm30 (l : Launch) (Z : State) (a0 : Array Value) (hw : HW a0 Z) (w1 : Addr) (kw1 : ClassId) (G : GW Z w1 kw1) (ws : List Jvm.Cond) (o1 o5 : Addr) (o7 o8 : Addr) (kc6 : ClassId) (q9 : Int64) (p3 p4 : Int32) (q2 : Int64) (h0 : Heap) (n0 : Nat) (O0 : Old Z n0 h0) (g_o1 : n0 ≤ o1) (g_o5 : n0 ≤ o5) (g_o7 : n0 ≤ o7) (g_o8 : n0 ≤ o8) (ne_o8_o7 : o8 ≠ o7) (Ov_kc6 : Ovr Z kc6 cn6) (hp0 : ¬ (q9 = (9223372036854775807 : Int64))) (P0 : Exa Z h0 o1 cn7) (P1 : Fld Z h0 o1 cn7 "addsFirst" "Z" (.int p3)) (P2 : Fld Z h0 o1 cn7 "end" "I" (.int 2)) (P3 : Fld Z h0 o1 cn7 "first" "I" (.int 0)) (P4 : Fld Z h0 o1 cn7 "low" "I" (.int p3)) (P5 : Fld Z h0 o1 cn7 "removed" "I" (.int p4)) (P6 : Fld Z h0 o1 cn7 "slots" cn3 (.ref o5)) (P7 : Arv Z h0 o5 kc6 (.object cn6) (4 : Int32) [(.ref o7), (.ref o8), .null, .null] .null) (P8 : Exa Z h0 o5 cn3) (P9 : Exa Z h0 o7 cn6) (P10 : Fld Z h0 o7 cn6 "removed" "J" (.long 9223372036854775807)) (P11 : Exa Z h0 o8 cn6) (P12 : Fld Z h0 o8 cn6 "removed" "J" (.long q9)) :
    MF l yn2 prog_41_method_9_code 4 none ws ({ frames := 1, cells := 0, slots := 0, locals := 14 } : Room) #[(.ref o1), (.long q2)] Z h0 (Q30 Z w1 kw1 o1 o5 o7 o8 kc6 q9 p3 p4 q2 h0 n0) := by
 obtain ⟨S_w1, A_w1⟩ := id G
 refine MetFree.of_bodySF (plainFor_of_name pn1) hisR ?_
 intro p e s m args below meth c s₁ Bd hml hP hK
 obtain ⟨rfl, hZ, hh⟩ := hP
 obtain ⟨hx, hby, hown, hret, hlk, X0, e0, N0⟩ := own_bd Bd hh n0
 have pre0 := own_ct s₁ (p := p) (e := e) (below := below) (ef30 m o1 q2)
 obtain ⟨T1, X1, e1, st1⟩ := yag X0 hx hZ hown hby (w_47 hw) e0 P3 0 #[.val (.ref o1), .val (.long q2), .second, .unset] [] d2_0 d2_1 rfl
 obtain ⟨T2, X2, e2, st2⟩ := yag X1 hx hZ hown hby (w_49 hw) e1 P2 6 (l443_0 o1 q2) [(.int 0)] d2_6 d2_7 rfl
 obtain ⟨T3, X3, e3, st3⟩ := yag X2 hx hZ hown hby (w_40 hw) e2 P6 13 (l443_0 o1 q2) [] d2_13 d2_14 rfl
 obtain ⟨cl4, Ar4, qa4, Sa4, Na4, Ha4, Ga4⟩ := id (P7)
 have hin4 := inb_of (j := (0 : Int32)) Sa4 ⟨by decide, by decide⟩
 have hat4 : cl4.slots[((0 : Int32)).toNatClampNeg]? = some (.ref o7) := Has.at Ha4 hin4 rfl
 obtain ⟨_, T5, L5, X5, hQ5, st5⟩ := yv X3 hx hZ hown hby hml (y := yn7) (w_113 hw) (w_82 hw) (w_84 hw) (w_83 hw) (w_85 hw) (w_5 hw) e3 P9 [] [] (rm17 l Z a0 hw [] o7 ((9223372036854775807 : Int64)) h0 n0 O0 g_o7 (by decide : (9223372036854775807 : Int64) = (9223372036854775807 : Int64)) P10) 19 (l443_0 o1 q2) rfl d2_19 (lenOf pd5 rfl) 0 0 0
 obtain ⟨rfl, Nq6, e7⟩ := hQ5
 have N5 := Fr.app N0 Nq6
 obtain ⟨T8, X8, e8, st8⟩ := yag X5 hx hZ hown hby (w_40 hw) e7 P6 25 (l443_0 o1 q2) [] d2_25 d2_26 rfl
 obtain ⟨cl9, Ar9, qa9, Sa9, Na9, Ha9, Ga9⟩ := id (P7)
 have hin9 := inb_of (j := (0 : Int32)) Sa9 ⟨by decide, by decide⟩
 have hat9 : cl9.slots[((0 : Int32)).toNatClampNeg]? = some (.ref o7) := Has.at Ha9 hin9 rfl
 obtain ⟨_, T10, L10, X10, hQ10, st10⟩ := yv X8 hx hZ hown hby hml (y := yn14) (w_114 hw) (w_115 hw) (own_w hw 117 rfl) (w_116 hw) (w_118 hw) (w_5 hw) e8 P9 [(.long q2)] [] (rm18 l Z a0 hw [] o7 q2 h0 n0 O0 g_o7 P9 P10) 32 (l443_0 o1 q2) rfl d2_32 (lenOf pd2 rfl) 0 0 0
 obtain ⟨rfl, Nq11, K12, f13, f14⟩ := hQ10
 have N10 := Fr.app N5 Nq11
 have O10 := Old.keep O0 K12 (allS g_o7 all0)
 have f15 := (P0.keep K12)
 have ne16 : o1 ≠ o7 := ne_exa f15 f13 (by decide)
 have f17 := (P2.keep K12 (ninS ne16 nin0))
 obtain ⟨T18, X18, e18, st18⟩ := yag X10 hx hZ hown hby (w_49 hw) rfl f17 6 (l443_1 o1 q2) [(.int 1)] d2_6 d2_7 rfl
 have f19 := (P6.keep K12 (ninS ne16 nin0))
 obtain ⟨T20, X20, e20, st20⟩ := yag X18 hx hZ hown hby (w_40 hw) e18 f19 13 (l443_1 o1 q2) [] d2_13 d2_14 rfl
 have f21 := (P8.keep K12)
 have ne22 : o5 ≠ o7 := ne_exa f21 f13 (by decide)
 have f23 := (P7.keep K12 (ninS ne22 nin0))
 obtain ⟨cl24, Ar24, qa24, Sa24, Na24, Ha24, Ga24⟩ := id (f23)
 have hin24 := inb_of (j := (1 : Int32)) Sa24 ⟨by decide, by decide⟩
 have hat24 : cl24.slots[((1 : Int32)).toNatClampNeg]? = some (.ref o8) := Has.at Ha24 hin24 rfl
 have f25 := (P12.keep K12 (ninS ne_o8_o7 nin0))
 have f26 := (P11.keep K12)
 obtain ⟨_, T27, L27, X27, hQ27, st27⟩ := yv X20 hx hZ hown hby hml (y := yn7) (w_113 hw) (w_82 hw) (w_84 hw) (w_83 hw) (w_85 hw) (w_5 hw) e20 f26 [] [] (rm21 l Z a0 hw [] o8 q9 T10.heap n0 O10 g_o8 hp0 f25) 19 (l443_1 o1 q2) rfl d2_19 (lenOf pd5 rfl) 0 0 0
 obtain ⟨rfl, Nq28, e29⟩ := hQ27
 have N27 := Fr.app N10 Nq28
 obtain ⟨T30, X30, e30, st30⟩ := yag X27 hx hZ hown hby (w_49 hw) e29 f17 6 (l443_2 o1 q2) [(.int 2)] d2_6 d2_7 rfl
 obtain ⟨T31, X31, e31, st31⟩ := getS2 X30 hx hZ hown (host := "") (Or.inl (own_w hw 38 rfl)) Via.refl e30 (S_w1.ext O10.2) (g := (mkF m 42 (l443_2 o1 q2) [(.ref o1)])) rfl (hb hby d2_42)
 obtain ⟨T32, h32, X32, e32, W32, st32⟩ := yp X31 hx hZ hown hby (w_40 hw) e31 f19 f15 (w_41 hw) (w_32 hw) (ty := (.array (.object cn6))) (v := (.ref w1)) (by decide) rfl rfl 45 (l443_2 o1 q2) [] d2_45
 have N32 := Fr.snoc X32 N27 g_o1
 have Fw32 := f19.same W32
 have f33 := ((P4.keep K12 (ninS ne16 nin0)).other W32 (Or.inr (sn47 hw)))
 have f34 := (f15.wr W32)
 obtain ⟨T35, h35, X35, e35, W35, st35⟩ := yp X32 hx hZ hown hby (w_51 hw) e32 f33 f34 (w_52 hw) (w_32 hw) (ty := .int) (v := (.int 0)) (by decide) rfl rfl 50 (l443_2 o1 q2) [] d2_50
 have N35 := Fr.snoc X35 N32 g_o1
 have Fw35 := f33.same W35
 have f36 := (((P3.keep K12 (ninS ne16 nin0)).other W32 (Or.inr (sn46 hw))).other W35 (Or.inr (sn49 hw)))
 have f37 := (f34.wr W35)
 obtain ⟨T38, h38, X38, e38, W38, st38⟩ := yp X35 hx hZ hown hby (w_47 hw) e35 f36 f37 (w_48 hw) (w_32 hw) (ty := .int) (v := (.int 0)) (by decide) rfl rfl 55 (l443_2 o1 q2) [] d2_55
 have N38 := Fr.snoc X38 N35 g_o1
 have Fw38 := f36.same W38
 have f39 := (((f17.other W32 (Or.inr (sn45 hw))).other W35 (Or.inr (sn50 hw))).other W38 (Or.inr (sn51 hw)))
 have f40 := (f37.wr W38)
 obtain ⟨T41, h41, X41, e41, W41, st41⟩ := yp X38 hx hZ hown hby (w_49 hw) e38 f39 f40 (w_50 hw) (w_32 hw) (ty := .int) (v := (.int 0)) (by decide) rfl rfl 60 (l443_2 o1 q2) [] d2_60
 have N41 := Fr.snoc X41 N38 g_o1
 have Fw41 := f39.same W41
 have f42 := (((((P5.keep K12 (ninS ne16 nin0)).other W32 (Or.inr (sn48 hw))).other W35 (Or.inr (sn52 hw))).other W38 (Or.inr (sn53 hw))).other W41 (Or.inr (sn54 hw)))
 have f43 := (f40.wr W41)
 obtain ⟨T44, h44, X44, e44, W44, st44⟩ := yp X41 hx hZ hown hby (w_53 hw) e41 f42 f43 (w_54 hw) (w_32 hw) (ty := .int) (v := (.int 0)) (by decide) rfl rfl 65 (l443_2 o1 q2) [] d2_65
 have N44 := Fr.snoc X44 N41 g_o1
 have Fw44 := f42.same W44
 have f45 := ((((((P1.keep K12 (ninS ne16 nin0)).other W32 (Or.inr (sn44 hw))).other W35 (Or.inr (sn55 hw))).other W38 (Or.inr (sn56 hw))).other W41 (Or.inr (sn57 hw))).other W44 (Or.inr (sn58 hw)))
 have f46 := (f43.wr W44)
 obtain ⟨T47, h47, X47, e47, W47, st47⟩ := putFN X44 hx hZ hown (own_w hw 55 rfl) Via.refl e44 f45 f46 (Or.inl (w_56 hw)) (w_32 hw) (ty := .boolean) (v' := (.int 0)) (by decide) rfl (by decide) (g := (mkF m 70 (l443_2 o1 q2) [(.int 0), (.ref o1)])) rfl rfl (hb hby d2_70)
 have N47 := Fr.snoc X47 N44 g_o1
 have Fw47 := f45.same W47
 obtain ⟨fs, hr, hrun, hended, hW, hsame⟩ := X47.leave (v := none) (fun _ => rfl)
 have KL : Keep h0 h47 [o7, o1] := ((((((((Keep.refl h0 [o7, o1]).trans K12 (allS (Or.inl (List.mem_of_getElem? (i := 0) rfl)) all0)).wr W32 (Or.inl (List.mem_of_getElem? (i := 1) rfl))).wr W35 (Or.inl (List.mem_of_getElem? (i := 1) rfl))).wr W38 (Or.inl (List.mem_of_getElem? (i := 1) rfl))).wr W41 (Or.inl (List.mem_of_getElem? (i := 1) rfl))).wr W44 (Or.inl (List.mem_of_getElem? (i := 1) rfl))).wr W47 (Or.inl (List.mem_of_getElem? (i := 1) rfl)))
 have f48 := ((((((f13.wr W32).wr W35).wr W38).wr W41).wr W44).wr W47)
 have f49 := ((((((f14.other W32 (Or.inl (Ne.symm ne16))).other W35 (Or.inl (Ne.symm ne16))).other W38 (Or.inl (Ne.symm ne16))).other W41 (Or.inl (Ne.symm ne16))).other W44 (Or.inl (Ne.symm ne16))).other W47 (Or.inl (Ne.symm ne16)))
 have f50 := (f46.wr W47)
 have f51 := ((Fw41.other W44 (Or.inr (sn59 hw))).other W47 (Or.inr (sn60 hw)))
 have f52 := (((Fw38.other W41 (Or.inr (sn61 hw))).other W44 (Or.inr (sn62 hw))).other W47 (Or.inr (sn63 hw)))
 have f53 := ((((Fw35.other W38 (Or.inr (sn64 hw))).other W41 (Or.inr (sn65 hw))).other W44 (Or.inr (sn66 hw))).other W47 (Or.inr (sn67 hw)))
 have f54 := (Fw44.other W47 (Or.inr (sn68 hw)))
 have f55 := (((((Fw32.other W35 (Or.inr (sn69 hw))).other W38 (Or.inr (sn70 hw))).other W41 (Or.inr (sn71 hw))).other W44 (Or.inr (sn72 hw))).other W47 (Or.inr (sn73 hw)))
 refine ⟨_, _, pre0 _ ?_, hrun, hended, _, _, rfl, ?_, ⟨_, rfl⟩, hW, hsame.mono (by decide) (by decide)⟩
 ·
  refine st1 _ ?_
  refine yit X1 hx hby d2_4 (l' := (l443_0 o1 q2)) rfl ?_
  refine yin X1 hx hby d2_5 rfl ?_
  refine st2 _ ?_
  refine yno X2 hx hby d2_10 (tlt (by decide : (0 : Int32) < (2 : Int32))).2.1 ?_
  refine st3 _ ?_
  refine yin X3 hx hby d2_17 rfl ?_
  refine X3.aaload hx (j := (0 : Int32)) (v := (.ref o7)) (by rw [e3]; exact Ar4.1) (State.isArrayOf_alike hZ.alike Ar4.2.1) rfl Ar4.2.2 hin4 hat4 (g := (mkF m 18 (l443_0 o1 q2) [(.int 0), (.ref o5)])) rfl rfl (hb hby d2_18) _ ?_
  refine st5 _ ?_
  refine yfn X5 hx hby d2_22 ((if0 _ _).trans (feq (by decide : ¬ ((1 : Int32) = (0 : Int32)))).1) ?_
  refine st8 _ ?_
  refine yin X8 hx hby d2_29 rfl ?_
  refine X8.aaload hx (j := (0 : Int32)) (v := (.ref o7)) (by rw [e8]; exact Ar9.1) (State.isArrayOf_alike hZ.alike Ar9.2.1) rfl Ar9.2.2 hin9 hat9 (g := (mkF m 30 (l443_0 o1 q2) [(.int 0), (.ref o5)])) rfl rfl (hb hby d2_30) _ ?_
  refine XS.lloadN X8.here hx rfl (hb hby d2_31) rfl ?_
  refine st10 _ ?_
  refine XS.iinc X10.here hx rfl (hb hby d2_35) rfl (l' := (l443_1 o1 q2)) rfl ?_
  refine ygo X10 hx hby 38 5 rfl d2_38 (by decide) ?_
  refine yin X10 hx hby d2_5 rfl ?_
  refine st18 _ ?_
  refine yno X18 hx hby d2_10 (tlt (by decide : (1 : Int32) < (2 : Int32))).2.1 ?_
  refine st20 _ ?_
  refine yin X20 hx hby d2_17 rfl ?_
  refine X20.aaload hx (j := (1 : Int32)) (v := (.ref o8)) (by rw [e20]; exact Ar24.1) (State.isArrayOf_alike hZ.alike Ar24.2.1) rfl Ar24.2.2 hin24 hat24 (g := (mkF m 18 (l443_1 o1 q2) [(.int 1), (.ref o5)])) rfl rfl (hb hby d2_18) _ ?_
  refine st27 _ ?_
  refine XS.ifYes X27.here hx rfl (pc0 := 22) (pc' := 35) rfl (hb hby d2_22) rfl ((if0 _ _).trans (teq (by decide : (0 : Int32) = (0 : Int32))).1) (by decide) (by decide) ?_
  refine XS.iinc X27.here hx rfl (hb hby d2_35) rfl (l' := (l443_2 o1 q2)) rfl ?_
  refine ygo X27 hx hby 38 5 rfl d2_38 (by decide) ?_
  refine yin X27 hx hby d2_5 rfl ?_
  refine st30 _ ?_
  refine yye X30 hx hby 10 41 rfl d2_10 (flt (by decide : ¬ ((2 : Int32) < (2 : Int32)))).2.1 (by decide) ?_
  refine yan X30 hx hby d2_41 rfl rfl ?_
  refine st31 _ ?_
  refine st32 _ ?_
  show Steps p.tables e below (T32.setTop (mkF m 48 (l443_2 o1 q2) [])) _
  refine yan X32 hx hby d2_48 rfl rfl ?_
  refine yic X32 hx hby d2_49 ?_
  refine st35 _ ?_
  refine yan X35 hx hby d2_53 rfl rfl ?_
  refine yic X35 hx hby d2_54 ?_
  refine st38 _ ?_
  refine yan X38 hx hby d2_58 rfl rfl ?_
  refine yic X38 hx hby d2_59 ?_
  refine st41 _ ?_
  refine yan X41 hx hby d2_63 rfl rfl ?_
  refine yic X41 hx hby d2_64 ?_
  refine st44 _ ?_
  refine yan X44 hx hby d2_68 rfl rfl ?_
  refine yic X44 hx hby d2_69 ?_
  refine st47 _ ?_
  show Steps p.tables e below (T47.setTop (mkF m 73 (l443_2 o1 q2) [])) _
  exact X47.returnOut hx hret (hb hby d2_73) hr
 ·
  show Q30 Z w1 kw1 o1 o5 o7 o8 kc6 q9 p3 p4 q2 h0 n0 _ T47.heap _
  rw [e47]
  exact ⟨rfl, N47, KL, f48, f49, f50, Fw47, f51, f52, f53, f54, f55⟩
def l444_0 (dp1 : Int32) (dq2 q3 q4 : Int64) (dp3 dp4 zz50 : Int32) (dq50 : Int64) (da5 o6 : Addr) (o7 o8 o9 : Addr) : Array Slot := #[.val (.int dp1), .val (.long dq2), .second, .val (.long q3), .second, .val (.long q4), .second, .val (.int 1), .val (.int 1), .val (.int dp3), .val (.int dp4), .val (.int 0), .val (.int 1), .val (.int zz50), .val (.long dq50), .second, .val (.ref da5), .val (.ref o6), .val (.ref o7), .val (.ref o8), .val (.ref o9), .val (.int 1), .val (.long q3), .second, .val (.long dq50), .second, .unset, .unset, .unset, .unset]
def l444_1 (dp1 : Int32) (dq2 q3 q4 : Int64) (dp3 dp4 zz50 : Int32) (dq50 : Int64) (da5 o6 : Addr) (o7 o8 o9 : Addr) : Array Slot := #[.val (.int dp1), .val (.long dq2), .second, .val (.long q3), .second, .val (.long q4), .second, .val (.int 1), .val (.int 1), .val (.int dp3), .val (.int dp4), .val (.int 0), .val (.int 1), .val (.int zz50), .val (.long dq50), .second, .val (.ref da5), .val (.ref o6), .val (.ref o7), .val (.ref o8), .val (.ref o9), .unset, .unset, .unset, .unset, .unset, .unset, .unset, .unset, .unset]
set_option maxRecDepth 65536 in
set_option maxHeartbeats 40000000 in
theorem ct16 {p : Program} {l : Launch} {e : Env} {s : State} {m : MethodId} {below : List Frame} {meth : Method} {c : Code} {E0 T0 : State} {locs : List Loc} {Z : State} {a0 : Array Value} (hw : HW a0 Z) (w1 : Addr) (kw1 : ClassId) (G : GW Z w1 kw1) (o6 o7 : Addr) (o8 o9 : Addr) (q3 dq50 : Int64) (zz50 dp1 : Int32) (dq2 q4 : Int64) (dp3 dp4 : Int32) (da5 : Addr) (p1 : Int32) (q2 : Int64) (h0 : Heap) (n0 : Nat) (O0 : Old Z n0 h0)
    (hx : p.tables.exec = Jvm.exec) (hby : c.code = code) (hml : c.maxLocals = 30) (hown : s.vm.findClass cn8 = some m.cls) (hret : meth.sig.returnType = ret) (hlk : meth.locks = false) (hZ : Z.Warmed39 s.vm)
    (X0 : Stand p l e room_1 s m #[(.int p1), (.long q2), (.long q3), (.long q4)] below meth c T0 locs 7 46) (e0 : T0.heap = h0) (N0 : Fr n0 locs) (pre0 : Go p e below T0 (mkF m 270 (l444_1 dp1 dq2 q3 q4 dp3 dp4 zz50 dq50 da5 o6 o7 o8 o9) []) E0) (g_o6 : n0 ≤ o6) (g_o7 : n0 ≤ o7) (g_o8 : n0 ≤ o8) (g_o9 : n0 ≤ o9) (P0 : Exa Z h0 o6 cn6) (P1 : Fld Z h0 o6 cn6 "removed" "J" (.long q3)) (P2 : Exa Z h0 o7 cn6) (P3 : Fld Z h0 o7 cn6 "removed" "J" (.long dq50)) (P4 : Exa Z h0 o8 cn6) (P6 : Exa Z h0 o9 cn7) (P7 : Fld Z h0 o9 cn7 "addsFirst" "Z" (.int 0)) (P8 : Fld Z h0 o9 cn7 "end" "I" (.int 0)) (P9 : Fld Z h0 o9 cn7 "first" "I" (.int 0)) (P10 : Fld Z h0 o9 cn7 "low" "I" (.int 0)) (P11 : Fld Z h0 o9 cn7 "removed" "I" (.int 0)) (P12 : Fld Z h0 o9 cn7 "slots" cn3 (.ref w1)) (bzz50 : 0 ≤ zz50.toInt ∧ zz50.toInt ≤ 1) :
    ∃ (s₂ : State) (o : Outcome), Steps p.tables e below E0 s₂ ∧ s₂.status = .running ∧ Ended s₂ below o ∧ ∃ v L, o = .returned v ∧ Q0 n0 v s₂.heap L ∧ FrameEnd s o s₂ L 24 192 := by
 obtain ⟨S_w1, A_w1⟩ := id G
 obtain ⟨_, T1, L1, X1, hQ1, st1⟩ := yv X0 hx hZ hown hby hml (y := yn3) (own_w hw 57 rfl) (w_58 hw) (own_w hw 60 rfl) (w_59 hw) (own_w hw 61 rfl) (w_33 hw) e0 P6 [] [] (rm4 l Z a0 hw [] o9 ((0 : Int32)) ((0 : Int32)) ((0 : Int32)) h0 n0 O0 g_o9 P8 P9 P11) 272 (l444_1 dp1 dq2 q3 q4 dp3 dp4 zz50 dq50 da5 o6 o7 o8 o9) rfl at_272 (lenOf pd3 rfl) 0 7 46
 obtain ⟨rfl, Nq2, e3⟩ := hQ1
 have N1 := Fr.app N0 Nq2
 obtain ⟨_, T4, L4, X4, hQ4, st4⟩ := yv X1 hx hZ hown hby hml (y := yn4) (own_w hw 62 rfl) (own_w hw 63 rfl) (own_w hw 65 rfl) (own_w hw 64 rfl) (own_w hw 66 rfl) (w_33 hw) e3 P6 [] [] (rm5 l Z a0 hw [] o9 ((0 : Int32)) h0 n0 O0 g_o9 P9) 280 (l444_1 dp1 dq2 q3 q4 dp3 dp4 zz50 dq50 da5 o6 o7 o8 o9) rfl at_280 (lenOf pd3 rfl) 0 7 46
 obtain ⟨rfl, Nq5, e6⟩ := hQ4
 have N4 := Fr.app N1 Nq5
 obtain ⟨_, T7, L7, X7, hQ7, st7⟩ := yv X4 hx hZ hown hby hml (y := yn5) (own_w hw 67 rfl) (own_w hw 68 rfl) (own_w hw 70 rfl) (own_w hw 69 rfl) (own_w hw 71 rfl) (w_33 hw) e6 P6 [] [] (rm6 l Z a0 hw [] o9 ((0 : Int32)) h0 n0 O0 g_o9 P8) 288 (l444_1 dp1 dq2 q3 q4 dp3 dp4 zz50 dq50 da5 o6 o7 o8 o9) rfl at_288 (lenOf pd3 rfl) 0 7 46
 obtain ⟨rfl, Nq8, e9⟩ := hQ7
 have N7 := Fr.app N4 Nq8
 obtain ⟨_, T10, L10, X10, hQ10, st10⟩ := yv X7 hx hZ hown hby hml (y := yn6) (own_w hw 72 rfl) (own_w hw 73 rfl) (own_w hw 75 rfl) (own_w hw 74 rfl) (own_w hw 76 rfl) (w_33 hw) e9 P6 [] [] (rm7 l Z a0 hw w1 kw1 G [] o9 h0 n0 O0 g_o9 P12) 296 (l444_1 dp1 dq2 q3 q4 dp3 dp4 zz50 dq50 da5 o6 o7 o8 o9) rfl at_296 (lenOf pd4 rfl) 0 7 46
 obtain ⟨rfl, Nq11, e12⟩ := hQ10
 have N10 := Fr.app N7 Nq11
 obtain ⟨cl13, Ar13, qa13, Sa13, Na13, Ha13, Ga13⟩ := id ((A_w1.ext O0.2))
 have pre14 : Go p e below T10 (mkF m 358 (l444_0 dp1 dq2 q3 q4 dp3 dp4 zz50 dq50 da5 o6 o7 o8 o9) []) E0 := fun t k => by
  refine pre0 _ ?_
  refine yal X0 hx hby at_270 rfl rfl ?_
  refine st1 _ ?_
  refine yfn X1 hx hby at_275 ((if0 _ _).trans (teq (own_geq (n := 0) (k := (0 : Int32)) (by decide) (by have q0 := own_sub (x := ((0 : Int32) - (0 : Int32))) (k := (0 : Int32)) (n := 0) (lo := 0) (hi := 0) (by decide) (by have q0 := own_sub (x := (0 : Int32)) (k := (0 : Int32)) (n := 0) (lo := 0) (hi := 0) (by decide) (by have q0 := (by decide : ((0 : Int32)).toInt = 0); omega) (by decide) (by decide); omega) (by decide) (by decide); omega))).2) ?_
  refine yal X1 hx hby at_278 rfl rfl ?_
  refine st4 _ ?_
  refine yfn X4 hx hby at_283 ((if0 _ _).trans (teq (by decide : (0 : Int32) = (0 : Int32))).2) ?_
  refine yal X4 hx hby at_286 rfl rfl ?_
  refine st7 _ ?_
  refine yfn X7 hx hby at_291 ((if0 _ _).trans (teq (by decide : (0 : Int32) = (0 : Int32))).2) ?_
  refine yal X7 hx hby at_294 rfl rfl ?_
  refine st10 _ ?_
  refine X10.arraylength hx (by rw [e12]; exact Ar13.1) (State.isArrayOf_alike hZ.alike Ar13.2.1) (g := (mkF m 299 (l444_1 dp1 dq2 q3 q4 dp3 dp4 zz50 dq50 da5 o6 o7 o8 o9) [(.ref w1)])) rfl rfl (hb hby at_299) _ ?_
  rw [len_of Sa13 Na13]
  refine yfn X10 hx hby at_300 ((if0 _ _).trans (teq (by decide : (0 : Int32) = (0 : Int32))).2) ?_
  refine yic X10 hx hby at_303 ?_
  refine ygo X10 hx hby 304 308 rfl at_304 (by decide) ?_
  refine yis X10 hx hby at_308 (l' := #[.val (.int dp1), .val (.long dq2), .second, .val (.long q3), .second, .val (.long q4), .second, .val (.int 1), .val (.int 1), .val (.int dp3), .val (.int dp4), .val (.int 0), .val (.int 1), .val (.int zz50), .val (.long dq50), .second, .val (.ref da5), .val (.ref o6), .val (.ref o7), .val (.ref o8), .val (.ref o9), .val (.int 1), .unset, .unset, .unset, .unset, .unset, .unset, .unset, .unset]) rfl ?_
  refine yil X10 hx hby at_310 rfl ?_
  refine XS.ifYes X10.here hx rfl (pc0 := 312) (pc' := 320) rfl (hb hby at_312) rfl ((if0 _ _).trans (teq (by decide : (0 : Int32) = (0 : Int32))).1) (by decide) (by decide) ?_
  refine yil X10 hx hby at_320 rfl ?_
  refine yfn X10 hx hby at_322 ((if0 _ _).trans (feq (by decide : ¬ ((1 : Int32) = (0 : Int32)))).1) ?_
  refine XS.lloadN X10.here hx rfl (hb hby at_325) rfl ?_
  refine ygo X10 hx hby 326 332 rfl at_326 (by decide) ?_
  refine XS.lstore X10.here hx rfl (hb hby at_332) rfl (l' := #[.val (.int dp1), .val (.long dq2), .second, .val (.long q3), .second, .val (.long q4), .second, .val (.int 1), .val (.int 1), .val (.int dp3), .val (.int dp4), .val (.int 0), .val (.int 1), .val (.int zz50), .val (.long dq50), .second, .val (.ref da5), .val (.ref o6), .val (.ref o7), .val (.ref o8), .val (.ref o9), .val (.int 1), .val (.long q3), .second, .unset, .unset, .unset, .unset, .unset, .unset]) rfl ?_
  refine yil X10 hx hby at_334 rfl ?_
  refine yfn X10 hx hby at_336 ((if0 _ _).trans (feq (by decide : ¬ ((1 : Int32) = (0 : Int32)))).1) ?_
  refine XS.lload X10.here hx rfl (hb hby at_339) rfl ?_
  refine ygo X10 hx hby 341 356 rfl at_341 (by decide) ?_
  refine XS.lstore X10.here hx rfl (hb hby at_356) rfl (l' := (l444_0 dp1 dq2 q3 q4 dp3 dp4 zz50 dq50 da5 o6 o7 o8 o9)) rfl ?_
  exact k
 exact ct5 hw w1 kw1 G o6 o7 o8 o9 q3 dq50 zz50 dp1 dq2 q3 q4 ((1 : Int32)) ((1 : Int32)) dp3 dp4 ((0 : Int32)) ((1 : Int32)) dq50 da5 p1 q2 q3 h0 n0 O0 hx hby hml hown hret hlk hZ (X10.more (by decide) (by decide)) e12 N10 pre14 g_o6 g_o7 g_o8 g_o9 P0 P1 P2 P3 P4 P6 P7 P8 P9 P10 P11 P12 (by have q0 := bzz50; omega)
def l445_0 (o1 o2 : Addr) (q3 : Int64) : Array Slot := #[.val (.ref o1), .val (.ref o2), .val (.long q3), .second]
theorem ef31 (m : MethodId) (x0 x1 : Addr) (x2 : Int64) : entryFrame m #[(.ref x0), (.ref x1), (.long x2)] 4 = mkF m 0 #[.val (.ref x0), .val (.ref x1), .val (.long x2), .second] [] := by first | (simp [entryFrame, mkF, argsToLocals, Value.category]; done) | rfl
def Q31 (Z : State) (o1 o2 : Addr) (o4 o6 : Addr) (kc5 : ClassId) (q3 : Int64) (h0 : Heap) (n0 : Nat) (v : Option Value) (h : Heap) (L : List Loc) : Prop :=
  (v = none ∧ Fr n0 L ∧ Keep h0 h [o2, o1] ∧ (Exa Z h o2 cn6) ∧ (Fld Z h o2 cn6 "removed" "J" (.long q3)) ∧ (Exa Z h o1 cn7) ∧ (Fld Z h o1 cn7 "addsFirst" "Z" (.int 0)) ∧ (Fld Z h o1 cn7 "end" "I" (.int 2)) ∧ (Fld Z h o1 cn7 "first" "I" (.int 1)) ∧ (Fld Z h o1 cn7 "low" "I" (.int 0)) ∧ (Fld Z h o1 cn7 "removed" "I" (.int 0)) ∧ (Fld Z h o1 cn7 "slots" cn3 (.ref o4)))
set_option maxRecDepth 65536 in
set_option maxHeartbeats 40000000 in
theorem rm31 (l : Launch) (Z : State) (a0 : Array Value) (hw : HW a0 Z) (ws : List Jvm.Cond) (o1 o2 : Addr) (o4 o6 : Addr) (kc5 : ClassId) (q3 : Int64) (h0 : Heap) (n0 : Nat) (O0 : Old Z n0 h0) (g_o1 : n0 ≤ o1) (g_o2 : n0 ≤ o2) (g_o4 : n0 ≤ o4) (g_o6 : n0 ≤ o6) (ne_o6_o2 : o6 ≠ o2) (Ov_kc5 : Ovr Z kc5 cn6) (hp0 : ¬ (q3 = (9223372036854775807 : Int64))) (P0 : Exa Z h0 o1 cn7) (P1 : Fld Z h0 o1 cn7 "addsFirst" "Z" (.int 0)) (P2 : Fld Z h0 o1 cn7 "end" "I" (.int 2)) (P3 : Fld Z h0 o1 cn7 "first" "I" (.int 0)) (P4 : Fld Z h0 o1 cn7 "low" "I" (.int 0)) (P5 : Fld Z h0 o1 cn7 "removed" "I" (.int 0)) (P6 : Fld Z h0 o1 cn7 "slots" cn3 (.ref o4)) (P7 : Exa Z h0 o2 cn6) (P8 : Fld Z h0 o2 cn6 "removed" "J" (.long 9223372036854775807)) (P9 : Arv Z h0 o4 kc5 (.object cn6) (4 : Int32) [(.ref o2), (.ref o6), .null, .null] .null) (P10 : Exa Z h0 o4 cn3) (P11 : Exa Z h0 o6 cn6) (P12 : Fld Z h0 o6 cn6 "removed" "J" (.long 9223372036854775807)) :
    MF l yn15 prog_41_method_8_code 4 none ws ({ frames := 1, cells := 0, slots := 0, locals := 14 } : Room) #[(.ref o1), (.ref o2), (.long q3)] Z h0 (Q31 Z o1 o2 o4 o6 kc5 q3 h0 n0) := by
 refine MetFree.of_bodySF (plainFor_of_name pn1) hisR ?_
 intro p e s m args below meth c s₁ Bd hml hP hK
 obtain ⟨rfl, hZ, hh⟩ := hP
 obtain ⟨hx, hby, hown, hret, hlk, X0, e0, N0⟩ := own_bd Bd hh n0
 have pre0 := own_ct s₁ (p := p) (e := e) (below := below) (ef31 m o1 o2 q3)
 revert pre0
 generalize s₁.setTop (entryFrame m #[(.ref o1), (.ref o2), (.long q3)] 4) = E0
 intro pre0
 obtain ⟨_, T1, L1, X1, hQ1, st1⟩ := yv X0 hx hZ hown hby hml (y := yn14) (w_114 hw) (w_115 hw) (own_w hw 117 rfl) (w_116 hw) (w_118 hw) (w_5 hw) e0 P7 [(.long q3)] [] (rm20 l Z a0 hw [] o2 q3 h0 n0 O0 g_o2 hp0 P7 P8) 2 (l445_0 o1 o2 q3) rfl d15_2 (lenOf pd2 rfl) 0 0 0
 obtain ⟨rfl, Nq2, K3, f4, f5⟩ := hQ1
 have N1 := Fr.app N0 Nq2
 have O1 := Old.keep O0 K3 (allS g_o2 all0)
 have f6 := (P0.keep K3)
 have ne7 : o1 ≠ o2 := ne_exa f6 f4 (by decide)
 have f8 := (P5.keep K3 (ninS ne7 nin0))
 obtain ⟨T9, X9, e9, st9⟩ := yg X1 hx hZ hown hby (w_53 hw) rfl f8 7 (l445_0 o1 o2 q3) [(.ref o1)] d15_7
 obtain ⟨T10, h10, X10, e10, W10, st10⟩ := yp X9 hx hZ hown hby (w_53 hw) e9 f8 f6 (w_54 hw) (w_32 hw) (ty := .int) (v := (.int 1)) (by decide) rfl rfl 12 (l445_0 o1 o2 q3) [] d15_12
 have N10 := Fr.snoc X10 N1 g_o1
 have Fw10 := f8.same W10
 have O10 := Old.wr O1 W10 g_o1
 have f11 := ((P3.keep K3 (ninS ne7 nin0)).other W10 (Or.inr (sn62 hw)))
 obtain ⟨T12, X12, e12, st12⟩ := yag X10 hx hZ hown hby (w_47 hw) e10 f11 15 (l445_0 o1 o2 q3) [] d15_15 d15_16 rfl
 have f13 := ((P2.keep K3 (ninS ne7 nin0)).other W10 (Or.inr (sn59 hw)))
 obtain ⟨T14, X14, e14, st14⟩ := yag X12 hx hZ hown hby (w_49 hw) e12 f13 19 (l445_0 o1 o2 q3) [(.int 0)] d15_19 d15_20 rfl
 have f15 := ((P6.keep K3 (ninS ne7 nin0)).other W10 (Or.inr (sn72 hw)))
 obtain ⟨T16, X16, e16, st16⟩ := yag X14 hx hZ hown hby (w_40 hw) e14 f15 26 (l445_0 o1 o2 q3) [] d15_26 d15_27 rfl
 obtain ⟨T17, X17, e17, st17⟩ := yag X16 hx hZ hown hby (w_47 hw) e16 f11 30 (l445_0 o1 o2 q3) [(.ref o4)] d15_30 d15_31 rfl
 have f18 := ((P10.keep K3).wr W10)
 have f19 := (f4.wr W10)
 have ne20 : o4 ≠ o2 := ne_exa f18 f19 (by decide)
 have f21 := (f6.wr W10)
 have ne22 : o4 ≠ o1 := ne_exa f18 f21 (by decide)
 have f23 := ((P9.keep K3 (ninS ne20 nin0)).other W10 ne22)
 obtain ⟨cl24, Ar24, qa24, Sa24, Na24, Ha24, Ga24⟩ := id (f23)
 have hin24 := inb_of (j := (0 : Int32)) Sa24 ⟨by decide, by decide⟩
 have hat24 : cl24.slots[((0 : Int32)).toNatClampNeg]? = some (.ref o2) := Has.at Ha24 hin24 rfl
 have f25 := (f5.other W10 (Or.inl (Ne.symm ne7)))
 obtain ⟨_, T26, L26, X26, hQ26, st26⟩ := yv X17 hx hZ hown hby hml (y := yn7) (w_113 hw) (w_82 hw) (w_84 hw) (w_83 hw) (w_85 hw) (w_5 hw) e17 f19 [] [] (rm21 l Z a0 hw [] o2 q3 h10 n0 O10 g_o2 hp0 f25) 35 (l445_0 o1 o2 q3) rfl d15_35 (lenOf pd5 rfl) 0 0 0
 obtain ⟨rfl, Nq27, e28⟩ := hQ26
 have N26 := Fr.app N10 Nq27
 obtain ⟨T29, X29, e29, st29⟩ := yg X26 hx hZ hown hby (w_47 hw) e28 f11 43 (l445_0 o1 o2 q3) [(.ref o1)] d15_43
 obtain ⟨T30, h30, X30, e30, W30, st30⟩ := yp X29 hx hZ hown hby (w_47 hw) e29 f11 f21 (w_48 hw) (w_32 hw) (ty := .int) (v := (.int 1)) (by decide) rfl rfl 48 (l445_0 o1 o2 q3) [] d15_48
 have N30 := Fr.snoc X30 N26 g_o1
 have Fw30 := f11.same W30
 have O30 := Old.wr O10 W30 g_o1
 have f31 := (Fw10.other W30 (Or.inr (sn53 hw)))
 obtain ⟨T32, X32, e32, st32⟩ := yg X30 hx hZ hown hby (w_53 hw) e30 f31 53 (l445_0 o1 o2 q3) [(.ref o1)] d15_53
 have f33 := (f21.wr W30)
 obtain ⟨T34, h34, X34, e34, W34, st34⟩ := yp X32 hx hZ hown hby (w_53 hw) e32 f31 f33 (w_54 hw) (w_32 hw) (ty := .int) (v := (.int 0)) (by decide) rfl rfl 58 (l445_0 o1 o2 q3) [] d15_58
 have N34 := Fr.snoc X34 N30 g_o1
 have Fw34 := f31.same W34
 have O34 := Old.wr O30 W34 g_o1
 have f35 := (Fw30.other W34 (Or.inr (sn62 hw)))
 obtain ⟨T36, X36, e36, st36⟩ := yag X34 hx hZ hown hby (w_47 hw) e34 f35 15 (l445_0 o1 o2 q3) [] d15_15 d15_16 rfl
 have f37 := ((f13.other W30 (Or.inr (sn51 hw))).other W34 (Or.inr (sn59 hw)))
 obtain ⟨T38, X38, e38, st38⟩ := yag X36 hx hZ hown hby (w_49 hw) e36 f37 19 (l445_0 o1 o2 q3) [(.int 1)] d15_19 d15_20 rfl
 have f39 := ((f15.other W30 (Or.inr (sn70 hw))).other W34 (Or.inr (sn72 hw)))
 obtain ⟨T40, X40, e40, st40⟩ := yag X38 hx hZ hown hby (w_40 hw) e38 f39 26 (l445_0 o1 o2 q3) [] d15_26 d15_27 rfl
 obtain ⟨T41, X41, e41, st41⟩ := yag X40 hx hZ hown hby (w_47 hw) e40 f35 30 (l445_0 o1 o2 q3) [(.ref o4)] d15_30 d15_31 rfl
 have f42 := ((f23.other W30 ne22).other W34 ne22)
 obtain ⟨cl43, Ar43, qa43, Sa43, Na43, Ha43, Ga43⟩ := id (f42)
 have hin43 := inb_of (j := (1 : Int32)) Sa43 ⟨by decide, by decide⟩
 have hat43 : cl43.slots[((1 : Int32)).toNatClampNeg]? = some (.ref o6) := Has.at Ha43 hin43 rfl
 have f44 := ((((P11.keep K3).wr W10).wr W30).wr W34)
 have f45 := (f33.wr W34)
 have ne46 : o6 ≠ o1 := ne_exa f44 f45 (by decide)
 have f47 := ((((P12.keep K3 (ninS ne_o6_o2 nin0)).other W10 (Or.inl ne46)).other W30 (Or.inl ne46)).other W34 (Or.inl ne46))
 obtain ⟨_, T48, L48, X48, hQ48, st48⟩ := yv X41 hx hZ hown hby hml (y := yn7) (w_113 hw) (w_82 hw) (w_84 hw) (w_83 hw) (w_85 hw) (w_5 hw) e41 f44 [] [] (rm17 l Z a0 hw [] o6 ((9223372036854775807 : Int64)) h34 n0 O34 g_o6 (by decide : (9223372036854775807 : Int64) = (9223372036854775807 : Int64)) f47) 35 (l445_0 o1 o2 q3) rfl d15_35 (lenOf pd5 rfl) 0 0 0
 obtain ⟨rfl, Nq49, e50⟩ := hQ48
 have N48 := Fr.app N34 Nq49
 obtain ⟨T51, X51, e51, st51⟩ := yag X48 hx hZ hown hby (w_47 hw) e50 f35 64 (l445_0 o1 o2 q3) [] d15_64 d15_65 rfl
 have f52 := ((((P4.keep K3 (ninS ne7 nin0)).other W10 (Or.inr (sn66 hw))).other W30 (Or.inr (sn64 hw))).other W34 (Or.inr (sn66 hw)))
 obtain ⟨T53, X53, e53, st53⟩ := yag X51 hx hZ hown hby (w_51 hw) e51 f52 68 (l445_0 o1 o2 q3) [(.int 1)] d15_68 d15_69 rfl
 obtain ⟨T54, X54, e54, st54⟩ := yag X53 hx hZ hown hby (w_53 hw) e53 Fw34 73 (l445_0 o1 o2 q3) [(.int 1)] d15_73 d15_74 rfl
 obtain ⟨_, T55, L55, X55, hQ55, st55⟩ := yv X54 hx hZ hown hby hml (y := yn3) (own_w hw 100 rfl) (w_58 hw) (own_w hw 60 rfl) (w_59 hw) (own_w hw 61 rfl) (w_33 hw) e54 f45 [] [(.int 1)] (rm4 l Z a0 hw [] o1 ((2 : Int32)) ((1 : Int32)) ((0 : Int32)) h34 n0 O34 g_o1 f37 f35 Fw34) 79 (l445_0 o1 o2 q3) rfl d15_79 (lenOf pd3 rfl) 1 0 0
 obtain ⟨rfl, Nq56, e57⟩ := hQ55
 have N55 := Fr.app N48 Nq56
 obtain ⟨_, T58, L58, X58, hQ58, st58⟩ := own_cs X55 hx hZ hown (y := yn10) (own_w hw 101 rfl) (own_w hw 102 rfl) (own_w hw 104 rfl) (w_103 hw) e57 (argsL := [(.int (((2 : Int32) - (1 : Int32)) - (0 : Int32))), (.int 4)]) (rest := [(.int 1)]) (rm11 l Z a0 hw [] ((((2 : Int32) - (1 : Int32)) - (0 : Int32))) ((4 : Int32)) h34 n0 O34 ) (g := (mkF m 83 (l445_0 o1 o2 q3) [(.int 4), (.int (((2 : Int32) - (1 : Int32)) - (0 : Int32))), (.int 1)])) rfl (by rw [hml]; rfl) rfl (hb hby d15_83) (lenOf pd8 rfl) (W := 1) (c1 := 0) (s1 := 0)
 have pre59 : Go p e below T55 (mkF m 83 (l445_0 o1 o2 q3) [(.int 4), (.int (((2 : Int32) - (1 : Int32)) - (0 : Int32))), (.int 1)]) E0 := fun t k => by
  refine pre0 _ ?_
  refine yan X0 hx hby d15_0 rfl rfl ?_
  refine XS.lloadN X0.here hx rfl (hb hby d15_1) rfl ?_
  refine st1 _ ?_
  refine yan X1 hx hby d15_5 rfl rfl ?_
  refine XS.dup X1.here hx rfl (hb hby d15_6) rfl rfl ?_
  refine st9 _ ?_
  refine yic X9 hx hby d15_10 ?_
  refine yad X9 hx hby d15_11 ?_
  refine st10 _ ?_
  refine st12 _ ?_
  refine st14 _ ?_
  refine yno X14 hx hby d15_23 (tlt (by decide : (0 : Int32) < (2 : Int32))).2.1 ?_
  refine st16 _ ?_
  refine st17 _ ?_
  refine X17.aaload hx (j := (0 : Int32)) (v := (.ref o2)) (by rw [e17]; exact Ar24.1) (State.isArrayOf_alike hZ.alike Ar24.2.1) rfl Ar24.2.2 hin24 hat24 (g := (mkF m 34 (l445_0 o1 o2 q3) [(.int 0), (.ref o4)])) rfl rfl (hb hby d15_34) _ ?_
  refine st26 _ ?_
  refine yfn X26 hx hby d15_38 ((if0 _ _).trans (teq (by decide : (0 : Int32) = (0 : Int32))).2) ?_
  refine yan X26 hx hby d15_41 rfl rfl ?_
  refine XS.dup X26.here hx rfl (hb hby d15_42) rfl rfl ?_
  refine st29 _ ?_
  refine yic X29 hx hby d15_46 ?_
  refine yad X29 hx hby d15_47 ?_
  refine st30 _ ?_
  refine yan X30 hx hby d15_51 rfl rfl ?_
  refine XS.dup X30.here hx rfl (hb hby d15_52) rfl rfl ?_
  refine st32 _ ?_
  refine yic X32 hx hby d15_56 ?_
  refine ysu X32 hx hby d15_57 ?_
  refine st34 _ ?_
  refine ygo X34 hx hby 61 15 rfl d15_61 (by decide) ?_
  refine st36 _ ?_
  refine st38 _ ?_
  refine yno X38 hx hby d15_23 (tlt (by decide : (1 : Int32) < (2 : Int32))).2.1 ?_
  show Steps p.tables e below (T38.setTop (mkF m 26 (l445_0 o1 o2 q3) [])) _
  refine st40 _ ?_
  refine st41 _ ?_
  refine X41.aaload hx (j := (1 : Int32)) (v := (.ref o6)) (by rw [e41]; exact Ar43.1) (State.isArrayOf_alike hZ.alike Ar43.2.1) rfl Ar43.2.2 hin43 hat43 (g := (mkF m 34 (l445_0 o1 o2 q3) [(.int 1), (.ref o4)])) rfl rfl (hb hby d15_34) _ ?_
  refine st48 _ ?_
  refine XS.ifYes X48.here hx rfl (pc0 := 38) (pc' := 64) rfl (hb hby d15_38) rfl ((if0 _ _).trans (feq (by decide : ¬ ((1 : Int32) = (0 : Int32)))).2) (by decide) (by decide) ?_
  refine st51 _ ?_
  refine st53 _ ?_
  refine ysu X53 hx hby d15_72 ?_
  refine st54 _ ?_
  refine yad X54 hx hby d15_77 ?_
  refine yan X54 hx hby d15_78 rfl rfl ?_
  refine st55 _ ?_
  refine yic X55 hx hby d15_82 ?_
  exact k
 rcases hQ58 with ⟨hc60, rfl, Nq61, e62⟩ | ⟨hc63, rfl, Nq64, e65⟩
 ·
  have N58 := Fr.app N55 Nq61
  obtain ⟨fs, hr, hrun, hended, hW, hsame⟩ := X58.leave (v := none) (fun _ => rfl)
  have KL : Keep h0 h34 [o2, o1] := (((((Keep.refl h0 [o2, o1]).trans K3 (allS (Or.inl (List.mem_of_getElem? (i := 0) rfl)) all0)).wr W10 (Or.inl (List.mem_of_getElem? (i := 1) rfl))).wr W30 (Or.inl (List.mem_of_getElem? (i := 1) rfl))).wr W34 (Or.inl (List.mem_of_getElem? (i := 1) rfl)))
  have f66 := ((f19.wr W30).wr W34)
  have f67 := ((f25.other W30 (Or.inl (Ne.symm ne7))).other W34 (Or.inl (Ne.symm ne7)))
  have f68 := ((((P1.keep K3 (ninS ne7 nin0)).other W10 (Or.inr (sn58 hw))).other W30 (Or.inr (sn56 hw))).other W34 (Or.inr (sn58 hw)))
  refine ⟨_, _, pre59 _ ?_, hrun, hended, _, _, rfl, ?_, ⟨_, rfl⟩, hW, hsame.mono (by decide) (by decide)⟩
  ·
   refine st58 _ ?_
   refine yye X58 hx hby 86 93 rfl d15_86 (flt (by decide : ¬ ((4 : Int32) < (1 : Int32)))).2.2.2 (by decide) ?_
   show Steps p.tables e below (T58.setTop (mkF m 93 (l445_0 o1 o2 q3) [])) _
   exact X58.returnOut hx hret (hb hby d15_93) hr
  ·
   show Q31 Z o1 o2 o4 o6 kc5 q3 h0 n0 _ T58.heap _
   rw [e62]
   exact ⟨rfl, N58, KL, f66, f67, f45, f68, f37, f35, f52, Fw34, f39⟩
 ·
  exact absurd (own_glt1 (n := 4) (k := (4 : Int32)) (by decide) (by have q0 := own_sub (x := ((2 : Int32) - (1 : Int32))) (k := (0 : Int32)) (n := 0) (lo := 1) (hi := 1) (by decide) (by have q0 := own_sub (x := (2 : Int32)) (k := (1 : Int32)) (n := 1) (lo := 2) (hi := 2) (by decide) (by have q0 := (by decide : ((2 : Int32)).toInt = 2); omega) (by decide) (by decide); omega) (by decide) (by decide); omega)) hc63
def l446_0 (o1 : Addr) (q2 : Int64) : Array Slot := #[.val (.ref o1), .val (.long q2), .second, .val (.int 1)]
def l446_1 (o1 : Addr) (q2 : Int64) : Array Slot := #[.val (.ref o1), .val (.long q2), .second, .val (.int 2)]
theorem ef32 (m : MethodId) (x0 : Addr) (x1 : Int64) : entryFrame m #[(.ref x0), (.long x1)] 4 = mkF m 0 #[.val (.ref x0), .val (.long x1), .second, .unset] [] := by first | (simp [entryFrame, mkF, argsToLocals, Value.category]; done) | rfl
def Q32 (Z : State) (w1 : Addr) (kw1 : ClassId) (o1 o4 : Addr) (o6 o7 : Addr) (kc5 : ClassId) (q8 : Int64) (p3 : Int32) (q2 : Int64) (h0 : Heap) (n0 : Nat) (v : Option Value) (h : Heap) (L : List Loc) : Prop :=
  (v = none ∧ Fr n0 L ∧ Keep h0 h [o7, o1] ∧ (Exa Z h o7 cn6) ∧ (Fld Z h o7 cn6 "removed" "J" (.long q2)) ∧ (Exa Z h o1 cn7) ∧ (Fld Z h o1 cn7 "addsFirst" "Z" (.int 0)) ∧ (Fld Z h o1 cn7 "end" "I" (.int 0)) ∧ (Fld Z h o1 cn7 "first" "I" (.int 0)) ∧ (Fld Z h o1 cn7 "low" "I" (.int 0)) ∧ (Fld Z h o1 cn7 "removed" "I" (.int 0)) ∧ (Fld Z h o1 cn7 "slots" cn3 (.ref w1)))
set_option maxRecDepth 65536 in
set_option maxHeartbeats 40000000 in
theorem rm32 (l : Launch) (Z : State) (a0 : Array Value) (hw : HW a0 Z) (w1 : Addr) (kw1 : ClassId) (G : GW Z w1 kw1) (ws : List Jvm.Cond) (o1 o4 : Addr) (o6 o7 : Addr) (kc5 : ClassId) (q8 : Int64) (p3 : Int32) (q2 : Int64) (h0 : Heap) (n0 : Nat) (O0 : Old Z n0 h0) (g_o1 : n0 ≤ o1) (g_o4 : n0 ≤ o4) (g_o6 : n0 ≤ o6) (g_o7 : n0 ≤ o7) (Ov_kc5 : Ovr Z kc5 cn6) (hp0 : ¬ (q8 = (9223372036854775807 : Int64))) (P0 : Exa Z h0 o1 cn7) (P1 : Fld Z h0 o1 cn7 "addsFirst" "Z" (.int p3)) (P2 : Fld Z h0 o1 cn7 "end" "I" (.int 2)) (P3 : Fld Z h0 o1 cn7 "first" "I" (.int 1)) (P4 : Fld Z h0 o1 cn7 "low" "I" (.int p3)) (P5 : Fld Z h0 o1 cn7 "removed" "I" (.int p3)) (P6 : Fld Z h0 o1 cn7 "slots" cn3 (.ref o4)) (P7 : Arv Z h0 o4 kc5 (.object cn6) (4 : Int32) [(.ref o6), (.ref o7), .null, .null] .null) (P11 : Exa Z h0 o7 cn6) (P12 : Fld Z h0 o7 cn6 "removed" "J" (.long 9223372036854775807)) :
    MF l yn2 prog_41_method_9_code 4 none ws ({ frames := 1, cells := 0, slots := 0, locals := 14 } : Room) #[(.ref o1), (.long q2)] Z h0 (Q32 Z w1 kw1 o1 o4 o6 o7 kc5 q8 p3 q2 h0 n0) := by
 obtain ⟨S_w1, A_w1⟩ := id G
 refine MetFree.of_bodySF (plainFor_of_name pn1) hisR ?_
 intro p e s m args below meth c s₁ Bd hml hP hK
 obtain ⟨rfl, hZ, hh⟩ := hP
 obtain ⟨hx, hby, hown, hret, hlk, X0, e0, N0⟩ := own_bd Bd hh n0
 have pre0 := own_ct s₁ (p := p) (e := e) (below := below) (ef32 m o1 q2)
 obtain ⟨T1, X1, e1, st1⟩ := yag X0 hx hZ hown hby (w_47 hw) e0 P3 0 #[.val (.ref o1), .val (.long q2), .second, .unset] [] d2_0 d2_1 rfl
 obtain ⟨T2, X2, e2, st2⟩ := yag X1 hx hZ hown hby (w_49 hw) e1 P2 6 (l446_0 o1 q2) [(.int 1)] d2_6 d2_7 rfl
 obtain ⟨T3, X3, e3, st3⟩ := yag X2 hx hZ hown hby (w_40 hw) e2 P6 13 (l446_0 o1 q2) [] d2_13 d2_14 rfl
 obtain ⟨cl4, Ar4, qa4, Sa4, Na4, Ha4, Ga4⟩ := id (P7)
 have hin4 := inb_of (j := (1 : Int32)) Sa4 ⟨by decide, by decide⟩
 have hat4 : cl4.slots[((1 : Int32)).toNatClampNeg]? = some (.ref o7) := Has.at Ha4 hin4 rfl
 obtain ⟨_, T5, L5, X5, hQ5, st5⟩ := yv X3 hx hZ hown hby hml (y := yn7) (w_113 hw) (w_82 hw) (w_84 hw) (w_83 hw) (w_85 hw) (w_5 hw) e3 P11 [] [] (rm17 l Z a0 hw [] o7 ((9223372036854775807 : Int64)) h0 n0 O0 g_o7 (by decide : (9223372036854775807 : Int64) = (9223372036854775807 : Int64)) P12) 19 (l446_0 o1 q2) rfl d2_19 (lenOf pd5 rfl) 0 0 0
 obtain ⟨rfl, Nq6, e7⟩ := hQ5
 have N5 := Fr.app N0 Nq6
 obtain ⟨T8, X8, e8, st8⟩ := yag X5 hx hZ hown hby (w_40 hw) e7 P6 25 (l446_0 o1 q2) [] d2_25 d2_26 rfl
 obtain ⟨cl9, Ar9, qa9, Sa9, Na9, Ha9, Ga9⟩ := id (P7)
 have hin9 := inb_of (j := (1 : Int32)) Sa9 ⟨by decide, by decide⟩
 have hat9 : cl9.slots[((1 : Int32)).toNatClampNeg]? = some (.ref o7) := Has.at Ha9 hin9 rfl
 obtain ⟨_, T10, L10, X10, hQ10, st10⟩ := yv X8 hx hZ hown hby hml (y := yn14) (w_114 hw) (w_115 hw) (own_w hw 117 rfl) (w_116 hw) (w_118 hw) (w_5 hw) e8 P11 [(.long q2)] [] (rm18 l Z a0 hw [] o7 q2 h0 n0 O0 g_o7 P11 P12) 32 (l446_0 o1 q2) rfl d2_32 (lenOf pd2 rfl) 0 0 0
 obtain ⟨rfl, Nq11, K12, f13, f14⟩ := hQ10
 have N10 := Fr.app N5 Nq11
 have O10 := Old.keep O0 K12 (allS g_o7 all0)
 have f15 := (P0.keep K12)
 have ne16 : o1 ≠ o7 := ne_exa f15 f13 (by decide)
 have f17 := (P2.keep K12 (ninS ne16 nin0))
 obtain ⟨T18, X18, e18, st18⟩ := yag X10 hx hZ hown hby (w_49 hw) rfl f17 6 (l446_1 o1 q2) [(.int 2)] d2_6 d2_7 rfl
 obtain ⟨T19, X19, e19, st19⟩ := getS2 X18 hx hZ hown (host := "") (Or.inl (own_w hw 38 rfl)) Via.refl e18 (S_w1.ext O10.2) (g := (mkF m 42 (l446_1 o1 q2) [(.ref o1)])) rfl (hb hby d2_42)
 have f20 := (P6.keep K12 (ninS ne16 nin0))
 obtain ⟨T21, h21, X21, e21, W21, st21⟩ := yp X19 hx hZ hown hby (w_40 hw) e19 f20 f15 (w_41 hw) (w_32 hw) (ty := (.array (.object cn6))) (v := (.ref w1)) (by decide) rfl rfl 45 (l446_1 o1 q2) [] d2_45
 have N21 := Fr.snoc X21 N10 g_o1
 have Fw21 := f20.same W21
 have f22 := ((P4.keep K12 (ninS ne16 nin0)).other W21 (Or.inr (sn47 hw)))
 have f23 := (f15.wr W21)
 obtain ⟨T24, h24, X24, e24, W24, st24⟩ := yp X21 hx hZ hown hby (w_51 hw) e21 f22 f23 (w_52 hw) (w_32 hw) (ty := .int) (v := (.int 0)) (by decide) rfl rfl 50 (l446_1 o1 q2) [] d2_50
 have N24 := Fr.snoc X24 N21 g_o1
 have Fw24 := f22.same W24
 have f25 := (((P3.keep K12 (ninS ne16 nin0)).other W21 (Or.inr (sn46 hw))).other W24 (Or.inr (sn49 hw)))
 have f26 := (f23.wr W24)
 obtain ⟨T27, h27, X27, e27, W27, st27⟩ := yp X24 hx hZ hown hby (w_47 hw) e24 f25 f26 (w_48 hw) (w_32 hw) (ty := .int) (v := (.int 0)) (by decide) rfl rfl 55 (l446_1 o1 q2) [] d2_55
 have N27 := Fr.snoc X27 N24 g_o1
 have Fw27 := f25.same W27
 have f28 := (((f17.other W21 (Or.inr (sn45 hw))).other W24 (Or.inr (sn50 hw))).other W27 (Or.inr (sn51 hw)))
 have f29 := (f26.wr W27)
 obtain ⟨T30, h30, X30, e30, W30, st30⟩ := yp X27 hx hZ hown hby (w_49 hw) e27 f28 f29 (w_50 hw) (w_32 hw) (ty := .int) (v := (.int 0)) (by decide) rfl rfl 60 (l446_1 o1 q2) [] d2_60
 have N30 := Fr.snoc X30 N27 g_o1
 have Fw30 := f28.same W30
 have f31 := (((((P5.keep K12 (ninS ne16 nin0)).other W21 (Or.inr (sn48 hw))).other W24 (Or.inr (sn52 hw))).other W27 (Or.inr (sn53 hw))).other W30 (Or.inr (sn54 hw)))
 have f32 := (f29.wr W30)
 obtain ⟨T33, h33, X33, e33, W33, st33⟩ := yp X30 hx hZ hown hby (w_53 hw) e30 f31 f32 (w_54 hw) (w_32 hw) (ty := .int) (v := (.int 0)) (by decide) rfl rfl 65 (l446_1 o1 q2) [] d2_65
 have N33 := Fr.snoc X33 N30 g_o1
 have Fw33 := f31.same W33
 have f34 := ((((((P1.keep K12 (ninS ne16 nin0)).other W21 (Or.inr (sn44 hw))).other W24 (Or.inr (sn55 hw))).other W27 (Or.inr (sn56 hw))).other W30 (Or.inr (sn57 hw))).other W33 (Or.inr (sn58 hw)))
 have f35 := (f32.wr W33)
 obtain ⟨T36, h36, X36, e36, W36, st36⟩ := putFN X33 hx hZ hown (own_w hw 55 rfl) Via.refl e33 f34 f35 (Or.inl (w_56 hw)) (w_32 hw) (ty := .boolean) (v' := (.int 0)) (by decide) rfl (by decide) (g := (mkF m 70 (l446_1 o1 q2) [(.int 0), (.ref o1)])) rfl rfl (hb hby d2_70)
 have N36 := Fr.snoc X36 N33 g_o1
 have Fw36 := f34.same W36
 obtain ⟨fs, hr, hrun, hended, hW, hsame⟩ := X36.leave (v := none) (fun _ => rfl)
 have KL : Keep h0 h36 [o7, o1] := ((((((((Keep.refl h0 [o7, o1]).trans K12 (allS (Or.inl (List.mem_of_getElem? (i := 0) rfl)) all0)).wr W21 (Or.inl (List.mem_of_getElem? (i := 1) rfl))).wr W24 (Or.inl (List.mem_of_getElem? (i := 1) rfl))).wr W27 (Or.inl (List.mem_of_getElem? (i := 1) rfl))).wr W30 (Or.inl (List.mem_of_getElem? (i := 1) rfl))).wr W33 (Or.inl (List.mem_of_getElem? (i := 1) rfl))).wr W36 (Or.inl (List.mem_of_getElem? (i := 1) rfl)))
 have f37 := ((((((f13.wr W21).wr W24).wr W27).wr W30).wr W33).wr W36)
 have f38 := ((((((f14.other W21 (Or.inl (Ne.symm ne16))).other W24 (Or.inl (Ne.symm ne16))).other W27 (Or.inl (Ne.symm ne16))).other W30 (Or.inl (Ne.symm ne16))).other W33 (Or.inl (Ne.symm ne16))).other W36 (Or.inl (Ne.symm ne16)))
 have f39 := (f35.wr W36)
 have f40 := ((Fw30.other W33 (Or.inr (sn59 hw))).other W36 (Or.inr (sn60 hw)))
 have f41 := (((Fw27.other W30 (Or.inr (sn61 hw))).other W33 (Or.inr (sn62 hw))).other W36 (Or.inr (sn63 hw)))
 have f42 := ((((Fw24.other W27 (Or.inr (sn64 hw))).other W30 (Or.inr (sn65 hw))).other W33 (Or.inr (sn66 hw))).other W36 (Or.inr (sn67 hw)))
 have f43 := (Fw33.other W36 (Or.inr (sn68 hw)))
 have f44 := (((((Fw21.other W24 (Or.inr (sn69 hw))).other W27 (Or.inr (sn70 hw))).other W30 (Or.inr (sn71 hw))).other W33 (Or.inr (sn72 hw))).other W36 (Or.inr (sn73 hw)))
 refine ⟨_, _, pre0 _ ?_, hrun, hended, _, _, rfl, ?_, ⟨_, rfl⟩, hW, hsame.mono (by decide) (by decide)⟩
 ·
  refine st1 _ ?_
  refine yit X1 hx hby d2_4 (l' := (l446_0 o1 q2)) rfl ?_
  refine yin X1 hx hby d2_5 rfl ?_
  refine st2 _ ?_
  refine yno X2 hx hby d2_10 (tlt (by decide : (1 : Int32) < (2 : Int32))).2.1 ?_
  refine st3 _ ?_
  refine yin X3 hx hby d2_17 rfl ?_
  refine X3.aaload hx (j := (1 : Int32)) (v := (.ref o7)) (by rw [e3]; exact Ar4.1) (State.isArrayOf_alike hZ.alike Ar4.2.1) rfl Ar4.2.2 hin4 hat4 (g := (mkF m 18 (l446_0 o1 q2) [(.int 1), (.ref o4)])) rfl rfl (hb hby d2_18) _ ?_
  refine st5 _ ?_
  refine yfn X5 hx hby d2_22 ((if0 _ _).trans (feq (by decide : ¬ ((1 : Int32) = (0 : Int32)))).1) ?_
  refine st8 _ ?_
  refine yin X8 hx hby d2_29 rfl ?_
  refine X8.aaload hx (j := (1 : Int32)) (v := (.ref o7)) (by rw [e8]; exact Ar9.1) (State.isArrayOf_alike hZ.alike Ar9.2.1) rfl Ar9.2.2 hin9 hat9 (g := (mkF m 30 (l446_0 o1 q2) [(.int 1), (.ref o4)])) rfl rfl (hb hby d2_30) _ ?_
  refine XS.lloadN X8.here hx rfl (hb hby d2_31) rfl ?_
  refine st10 _ ?_
  refine XS.iinc X10.here hx rfl (hb hby d2_35) rfl (l' := (l446_1 o1 q2)) rfl ?_
  refine ygo X10 hx hby 38 5 rfl d2_38 (by decide) ?_
  refine yin X10 hx hby d2_5 rfl ?_
  refine st18 _ ?_
  refine yye X18 hx hby 10 41 rfl d2_10 (flt (by decide : ¬ ((2 : Int32) < (2 : Int32)))).2.1 (by decide) ?_
  refine yan X18 hx hby d2_41 rfl rfl ?_
  refine st19 _ ?_
  refine st21 _ ?_
  refine yan X21 hx hby d2_48 rfl rfl ?_
  refine yic X21 hx hby d2_49 ?_
  refine st24 _ ?_
  refine yan X24 hx hby d2_53 rfl rfl ?_
  refine yic X24 hx hby d2_54 ?_
  refine st27 _ ?_
  refine yan X27 hx hby d2_58 rfl rfl ?_
  refine yic X27 hx hby d2_59 ?_
  refine st30 _ ?_
  refine yan X30 hx hby d2_63 rfl rfl ?_
  refine yic X30 hx hby d2_64 ?_
  refine st33 _ ?_
  show Steps p.tables e below (T33.setTop (mkF m 68 (l446_1 o1 q2) [])) _
  refine yan X33 hx hby d2_68 rfl rfl ?_
  refine yic X33 hx hby d2_69 ?_
  refine st36 _ ?_
  show Steps p.tables e below (T36.setTop (mkF m 73 (l446_1 o1 q2) [])) _
  exact X36.returnOut hx hret (hb hby d2_73) hr
 ·
  show Q32 Z w1 kw1 o1 o4 o6 o7 kc5 q8 p3 q2 h0 n0 _ T36.heap _
  rw [e36]
  exact ⟨rfl, N36, KL, f37, f38, f39, Fw36, f40, f41, f42, f43, f44⟩
def l447_0 (dp1 : Int32) (dq2 q3 q4 : Int64) (dp3 dp4 zz50 : Int32) (dq50 : Int64) (da5 o6 : Addr) (o7 o8 o9 : Addr) : Array Slot := #[.val (.int dp1), .val (.long dq2), .second, .val (.long q3), .second, .val (.long q4), .second, .val (.int 1), .val (.int 1), .val (.int dp3), .val (.int dp4), .val (.int 1), .val (.int 0), .val (.int zz50), .val (.long dq50), .second, .val (.ref da5), .val (.ref o6), .val (.ref o7), .val (.ref o8), .val (.ref o9), .val (.int 1), .val (.long dq50), .second, .val (.long q3), .second, .unset, .unset, .unset, .unset]
def l447_1 (dp1 : Int32) (dq2 q3 q4 : Int64) (dp3 dp4 zz50 : Int32) (dq50 : Int64) (da5 o6 : Addr) (o7 o8 o9 : Addr) : Array Slot := #[.val (.int dp1), .val (.long dq2), .second, .val (.long q3), .second, .val (.long q4), .second, .val (.int 1), .val (.int 1), .val (.int dp3), .val (.int dp4), .val (.int 1), .val (.int 0), .val (.int zz50), .val (.long dq50), .second, .val (.ref da5), .val (.ref o6), .val (.ref o7), .val (.ref o8), .val (.ref o9), .unset, .unset, .unset, .unset, .unset, .unset, .unset, .unset, .unset]
set_option maxRecDepth 65536 in
set_option maxHeartbeats 40000000 in
theorem ct17 {p : Program} {l : Launch} {e : Env} {s : State} {m : MethodId} {below : List Frame} {meth : Method} {c : Code} {E0 T0 : State} {locs : List Loc} {Z : State} {a0 : Array Value} (hw : HW a0 Z) (w1 : Addr) (kw1 : ClassId) (G : GW Z w1 kw1) (o6 o7 : Addr) (o8 o9 : Addr) (dq50 q3 : Int64) (zz50 dp1 : Int32) (dq2 q4 : Int64) (dp3 dp4 : Int32) (da5 : Addr) (p1 : Int32) (q2 : Int64) (h0 : Heap) (n0 : Nat) (O0 : Old Z n0 h0)
    (hx : p.tables.exec = Jvm.exec) (hby : c.code = code) (hml : c.maxLocals = 30) (hown : s.vm.findClass cn8 = some m.cls) (hret : meth.sig.returnType = ret) (hlk : meth.locks = false) (hZ : Z.Warmed39 s.vm)
    (X0 : Stand p l e room_1 s m #[(.int p1), (.long q2), (.long q3), (.long q4)] below meth c T0 locs 7 46) (e0 : T0.heap = h0) (N0 : Fr n0 locs) (pre0 : Go p e below T0 (mkF m 270 (l447_1 dp1 dq2 q3 q4 dp3 dp4 zz50 dq50 da5 o6 o7 o8 o9) []) E0) (g_o6 : n0 ≤ o6) (g_o7 : n0 ≤ o7) (g_o8 : n0 ≤ o8) (g_o9 : n0 ≤ o9) (P0 : Exa Z h0 o6 cn6) (P1 : Fld Z h0 o6 cn6 "removed" "J" (.long dq50)) (P2 : Exa Z h0 o7 cn6) (P3 : Fld Z h0 o7 cn6 "removed" "J" (.long q3)) (P4 : Exa Z h0 o8 cn6) (P6 : Exa Z h0 o9 cn7) (P7 : Fld Z h0 o9 cn7 "addsFirst" "Z" (.int 0)) (P8 : Fld Z h0 o9 cn7 "end" "I" (.int 0)) (P9 : Fld Z h0 o9 cn7 "first" "I" (.int 0)) (P10 : Fld Z h0 o9 cn7 "low" "I" (.int 0)) (P11 : Fld Z h0 o9 cn7 "removed" "I" (.int 0)) (P12 : Fld Z h0 o9 cn7 "slots" cn3 (.ref w1)) (bzz50 : 0 ≤ zz50.toInt ∧ zz50.toInt ≤ 1) :
    ∃ (s₂ : State) (o : Outcome), Steps p.tables e below E0 s₂ ∧ s₂.status = .running ∧ Ended s₂ below o ∧ ∃ v L, o = .returned v ∧ Q0 n0 v s₂.heap L ∧ FrameEnd s o s₂ L 24 192 := by
 obtain ⟨S_w1, A_w1⟩ := id G
 obtain ⟨_, T1, L1, X1, hQ1, st1⟩ := yv X0 hx hZ hown hby hml (y := yn3) (own_w hw 57 rfl) (w_58 hw) (own_w hw 60 rfl) (w_59 hw) (own_w hw 61 rfl) (w_33 hw) e0 P6 [] [] (rm4 l Z a0 hw [] o9 ((0 : Int32)) ((0 : Int32)) ((0 : Int32)) h0 n0 O0 g_o9 P8 P9 P11) 272 (l447_1 dp1 dq2 q3 q4 dp3 dp4 zz50 dq50 da5 o6 o7 o8 o9) rfl at_272 (lenOf pd3 rfl) 0 7 46
 obtain ⟨rfl, Nq2, e3⟩ := hQ1
 have N1 := Fr.app N0 Nq2
 obtain ⟨_, T4, L4, X4, hQ4, st4⟩ := yv X1 hx hZ hown hby hml (y := yn4) (own_w hw 62 rfl) (own_w hw 63 rfl) (own_w hw 65 rfl) (own_w hw 64 rfl) (own_w hw 66 rfl) (w_33 hw) e3 P6 [] [] (rm5 l Z a0 hw [] o9 ((0 : Int32)) h0 n0 O0 g_o9 P9) 280 (l447_1 dp1 dq2 q3 q4 dp3 dp4 zz50 dq50 da5 o6 o7 o8 o9) rfl at_280 (lenOf pd3 rfl) 0 7 46
 obtain ⟨rfl, Nq5, e6⟩ := hQ4
 have N4 := Fr.app N1 Nq5
 obtain ⟨_, T7, L7, X7, hQ7, st7⟩ := yv X4 hx hZ hown hby hml (y := yn5) (own_w hw 67 rfl) (own_w hw 68 rfl) (own_w hw 70 rfl) (own_w hw 69 rfl) (own_w hw 71 rfl) (w_33 hw) e6 P6 [] [] (rm6 l Z a0 hw [] o9 ((0 : Int32)) h0 n0 O0 g_o9 P8) 288 (l447_1 dp1 dq2 q3 q4 dp3 dp4 zz50 dq50 da5 o6 o7 o8 o9) rfl at_288 (lenOf pd3 rfl) 0 7 46
 obtain ⟨rfl, Nq8, e9⟩ := hQ7
 have N7 := Fr.app N4 Nq8
 obtain ⟨_, T10, L10, X10, hQ10, st10⟩ := yv X7 hx hZ hown hby hml (y := yn6) (own_w hw 72 rfl) (own_w hw 73 rfl) (own_w hw 75 rfl) (own_w hw 74 rfl) (own_w hw 76 rfl) (w_33 hw) e9 P6 [] [] (rm7 l Z a0 hw w1 kw1 G [] o9 h0 n0 O0 g_o9 P12) 296 (l447_1 dp1 dq2 q3 q4 dp3 dp4 zz50 dq50 da5 o6 o7 o8 o9) rfl at_296 (lenOf pd4 rfl) 0 7 46
 obtain ⟨rfl, Nq11, e12⟩ := hQ10
 have N10 := Fr.app N7 Nq11
 obtain ⟨cl13, Ar13, qa13, Sa13, Na13, Ha13, Ga13⟩ := id ((A_w1.ext O0.2))
 have pre14 : Go p e below T10 (mkF m 358 (l447_0 dp1 dq2 q3 q4 dp3 dp4 zz50 dq50 da5 o6 o7 o8 o9) []) E0 := fun t k => by
  refine pre0 _ ?_
  refine yal X0 hx hby at_270 rfl rfl ?_
  refine st1 _ ?_
  refine yfn X1 hx hby at_275 ((if0 _ _).trans (teq (own_geq (n := 0) (k := (0 : Int32)) (by decide) (by have q0 := own_sub (x := ((0 : Int32) - (0 : Int32))) (k := (0 : Int32)) (n := 0) (lo := 0) (hi := 0) (by decide) (by have q0 := own_sub (x := (0 : Int32)) (k := (0 : Int32)) (n := 0) (lo := 0) (hi := 0) (by decide) (by have q0 := (by decide : ((0 : Int32)).toInt = 0); omega) (by decide) (by decide); omega) (by decide) (by decide); omega))).2) ?_
  refine yal X1 hx hby at_278 rfl rfl ?_
  refine st4 _ ?_
  refine yfn X4 hx hby at_283 ((if0 _ _).trans (teq (by decide : (0 : Int32) = (0 : Int32))).2) ?_
  refine yal X4 hx hby at_286 rfl rfl ?_
  refine st7 _ ?_
  refine yfn X7 hx hby at_291 ((if0 _ _).trans (teq (by decide : (0 : Int32) = (0 : Int32))).2) ?_
  refine yal X7 hx hby at_294 rfl rfl ?_
  refine st10 _ ?_
  refine X10.arraylength hx (by rw [e12]; exact Ar13.1) (State.isArrayOf_alike hZ.alike Ar13.2.1) (g := (mkF m 299 (l447_1 dp1 dq2 q3 q4 dp3 dp4 zz50 dq50 da5 o6 o7 o8 o9) [(.ref w1)])) rfl rfl (hb hby at_299) _ ?_
  rw [len_of Sa13 Na13]
  refine yfn X10 hx hby at_300 ((if0 _ _).trans (teq (by decide : (0 : Int32) = (0 : Int32))).2) ?_
  refine yic X10 hx hby at_303 ?_
  refine ygo X10 hx hby 304 308 rfl at_304 (by decide) ?_
  refine yis X10 hx hby at_308 (l' := #[.val (.int dp1), .val (.long dq2), .second, .val (.long q3), .second, .val (.long q4), .second, .val (.int 1), .val (.int 1), .val (.int dp3), .val (.int dp4), .val (.int 1), .val (.int 0), .val (.int zz50), .val (.long dq50), .second, .val (.ref da5), .val (.ref o6), .val (.ref o7), .val (.ref o8), .val (.ref o9), .val (.int 1), .unset, .unset, .unset, .unset, .unset, .unset, .unset, .unset]) rfl ?_
  refine yil X10 hx hby at_310 rfl ?_
  refine yfn X10 hx hby at_312 ((if0 _ _).trans (feq (by decide : ¬ ((1 : Int32) = (0 : Int32)))).1) ?_
  refine XS.lload X10.here hx rfl (hb hby at_315) rfl ?_
  refine ygo X10 hx hby 317 332 rfl at_317 (by decide) ?_
  refine XS.lstore X10.here hx rfl (hb hby at_332) rfl (l' := #[.val (.int dp1), .val (.long dq2), .second, .val (.long q3), .second, .val (.long q4), .second, .val (.int 1), .val (.int 1), .val (.int dp3), .val (.int dp4), .val (.int 1), .val (.int 0), .val (.int zz50), .val (.long dq50), .second, .val (.ref da5), .val (.ref o6), .val (.ref o7), .val (.ref o8), .val (.ref o9), .val (.int 1), .val (.long dq50), .second, .unset, .unset, .unset, .unset, .unset, .unset]) rfl ?_
  refine yil X10 hx hby at_334 rfl ?_
  refine XS.ifYes X10.here hx rfl (pc0 := 336) (pc' := 344) rfl (hb hby at_336) rfl ((if0 _ _).trans (teq (by decide : (0 : Int32) = (0 : Int32))).1) (by decide) (by decide) ?_
  refine yil X10 hx hby at_344 rfl ?_
  refine yfn X10 hx hby at_346 ((if0 _ _).trans (feq (by decide : ¬ ((1 : Int32) = (0 : Int32)))).1) ?_
  refine XS.lloadN X10.here hx rfl (hb hby at_349) rfl ?_
  refine ygo X10 hx hby 350 356 rfl at_350 (by decide) ?_
  refine XS.lstore X10.here hx rfl (hb hby at_356) rfl (l' := (l447_0 dp1 dq2 q3 q4 dp3 dp4 zz50 dq50 da5 o6 o7 o8 o9)) rfl ?_
  exact k
 exact ct5 hw w1 kw1 G o6 o7 o8 o9 dq50 q3 zz50 dp1 dq2 q3 q4 ((1 : Int32)) ((1 : Int32)) dp3 dp4 ((1 : Int32)) ((0 : Int32)) dq50 da5 p1 q2 q3 h0 n0 O0 hx hby hml hown hret hlk hZ (X10.more (by decide) (by decide)) e12 N10 pre14 g_o6 g_o7 g_o8 g_o9 P0 P1 P2 P3 P4 P6 P7 P8 P9 P10 P11 P12 (by have q0 := bzz50; omega)
def l448_0 (o1 o2 : Addr) (q3 : Int64) : Array Slot := #[.val (.ref o1), .val (.ref o2), .val (.long q3), .second]
theorem ef33 (m : MethodId) (x0 x1 : Addr) (x2 : Int64) : entryFrame m #[(.ref x0), (.ref x1), (.long x2)] 4 = mkF m 0 #[.val (.ref x0), .val (.ref x1), .val (.long x2), .second] [] := by first | (simp [entryFrame, mkF, argsToLocals, Value.category]; done) | rfl
def Q33 (Z : State) (o1 o2 : Addr) (o4 o6 : Addr) (kc5 : ClassId) (q3 q7 : Int64) (h0 : Heap) (n0 : Nat) (v : Option Value) (h : Heap) (L : List Loc) : Prop :=
  (v = none ∧ Fr n0 L ∧ Keep h0 h [o2, o1] ∧ (Exa Z h o2 cn6) ∧ (Fld Z h o2 cn6 "removed" "J" (.long q3)) ∧ (Exa Z h o1 cn7) ∧ (Fld Z h o1 cn7 "addsFirst" "Z" (.int 0)) ∧ (Fld Z h o1 cn7 "end" "I" (.int 2)) ∧ (Fld Z h o1 cn7 "first" "I" (.int 2)) ∧ (Fld Z h o1 cn7 "low" "I" (.int 0)) ∧ (Fld Z h o1 cn7 "removed" "I" (.int 0)) ∧ (Fld Z h o1 cn7 "slots" cn3 (.ref o4)))
set_option maxRecDepth 65536 in
set_option maxHeartbeats 40000000 in
theorem rm33 (l : Launch) (Z : State) (a0 : Array Value) (hw : HW a0 Z) (ws : List Jvm.Cond) (o1 o2 : Addr) (o4 o6 : Addr) (kc5 : ClassId) (q3 q7 : Int64) (h0 : Heap) (n0 : Nat) (O0 : Old Z n0 h0) (g_o1 : n0 ≤ o1) (g_o2 : n0 ≤ o2) (g_o4 : n0 ≤ o4) (g_o6 : n0 ≤ o6) (Ov_kc5 : Ovr Z kc5 cn6) (hp0 : ¬ (q3 = (9223372036854775807 : Int64))) (hp1 : ¬ (q7 = (9223372036854775807 : Int64))) (P0 : Exa Z h0 o1 cn7) (P1 : Fld Z h0 o1 cn7 "addsFirst" "Z" (.int 0)) (P2 : Fld Z h0 o1 cn7 "end" "I" (.int 2)) (P3 : Fld Z h0 o1 cn7 "first" "I" (.int 1)) (P4 : Fld Z h0 o1 cn7 "low" "I" (.int 0)) (P5 : Fld Z h0 o1 cn7 "removed" "I" (.int 0)) (P6 : Fld Z h0 o1 cn7 "slots" cn3 (.ref o4)) (P7 : Exa Z h0 o2 cn6) (P8 : Fld Z h0 o2 cn6 "removed" "J" (.long 9223372036854775807)) (P9 : Arv Z h0 o4 kc5 (.object cn6) (4 : Int32) [(.ref o6), (.ref o2), .null, .null] .null) (P10 : Exa Z h0 o4 cn3) :
    MF l yn15 prog_41_method_8_code 4 none ws ({ frames := 1, cells := 0, slots := 0, locals := 14 } : Room) #[(.ref o1), (.ref o2), (.long q3)] Z h0 (Q33 Z o1 o2 o4 o6 kc5 q3 q7 h0 n0) := by
 refine MetFree.of_bodySF (plainFor_of_name pn1) hisR ?_
 intro p e s m args below meth c s₁ Bd hml hP hK
 obtain ⟨rfl, hZ, hh⟩ := hP
 obtain ⟨hx, hby, hown, hret, hlk, X0, e0, N0⟩ := own_bd Bd hh n0
 have pre0 := own_ct s₁ (p := p) (e := e) (below := below) (ef33 m o1 o2 q3)
 revert pre0
 generalize s₁.setTop (entryFrame m #[(.ref o1), (.ref o2), (.long q3)] 4) = E0
 intro pre0
 obtain ⟨_, T1, L1, X1, hQ1, st1⟩ := yv X0 hx hZ hown hby hml (y := yn14) (w_114 hw) (w_115 hw) (own_w hw 117 rfl) (w_116 hw) (w_118 hw) (w_5 hw) e0 P7 [(.long q3)] [] (rm20 l Z a0 hw [] o2 q3 h0 n0 O0 g_o2 hp0 P7 P8) 2 (l448_0 o1 o2 q3) rfl d15_2 (lenOf pd2 rfl) 0 0 0
 obtain ⟨rfl, Nq2, K3, f4, f5⟩ := hQ1
 have N1 := Fr.app N0 Nq2
 have O1 := Old.keep O0 K3 (allS g_o2 all0)
 have f6 := (P0.keep K3)
 have ne7 : o1 ≠ o2 := ne_exa f6 f4 (by decide)
 have f8 := (P5.keep K3 (ninS ne7 nin0))
 obtain ⟨T9, X9, e9, st9⟩ := yg X1 hx hZ hown hby (w_53 hw) rfl f8 7 (l448_0 o1 o2 q3) [(.ref o1)] d15_7
 obtain ⟨T10, h10, X10, e10, W10, st10⟩ := yp X9 hx hZ hown hby (w_53 hw) e9 f8 f6 (w_54 hw) (w_32 hw) (ty := .int) (v := (.int 1)) (by decide) rfl rfl 12 (l448_0 o1 o2 q3) [] d15_12
 have N10 := Fr.snoc X10 N1 g_o1
 have Fw10 := f8.same W10
 have O10 := Old.wr O1 W10 g_o1
 have f11 := ((P3.keep K3 (ninS ne7 nin0)).other W10 (Or.inr (sn62 hw)))
 obtain ⟨T12, X12, e12, st12⟩ := yag X10 hx hZ hown hby (w_47 hw) e10 f11 15 (l448_0 o1 o2 q3) [] d15_15 d15_16 rfl
 have f13 := ((P2.keep K3 (ninS ne7 nin0)).other W10 (Or.inr (sn59 hw)))
 obtain ⟨T14, X14, e14, st14⟩ := yag X12 hx hZ hown hby (w_49 hw) e12 f13 19 (l448_0 o1 o2 q3) [(.int 1)] d15_19 d15_20 rfl
 have f15 := ((P6.keep K3 (ninS ne7 nin0)).other W10 (Or.inr (sn72 hw)))
 obtain ⟨T16, X16, e16, st16⟩ := yag X14 hx hZ hown hby (w_40 hw) e14 f15 26 (l448_0 o1 o2 q3) [] d15_26 d15_27 rfl
 obtain ⟨T17, X17, e17, st17⟩ := yag X16 hx hZ hown hby (w_47 hw) e16 f11 30 (l448_0 o1 o2 q3) [(.ref o4)] d15_30 d15_31 rfl
 have f18 := ((P10.keep K3).wr W10)
 have f19 := (f4.wr W10)
 have ne20 : o4 ≠ o2 := ne_exa f18 f19 (by decide)
 have f21 := (f6.wr W10)
 have ne22 : o4 ≠ o1 := ne_exa f18 f21 (by decide)
 have f23 := ((P9.keep K3 (ninS ne20 nin0)).other W10 ne22)
 obtain ⟨cl24, Ar24, qa24, Sa24, Na24, Ha24, Ga24⟩ := id (f23)
 have hin24 := inb_of (j := (1 : Int32)) Sa24 ⟨by decide, by decide⟩
 have hat24 : cl24.slots[((1 : Int32)).toNatClampNeg]? = some (.ref o2) := Has.at Ha24 hin24 rfl
 have f25 := (f5.other W10 (Or.inl (Ne.symm ne7)))
 obtain ⟨_, T26, L26, X26, hQ26, st26⟩ := yv X17 hx hZ hown hby hml (y := yn7) (w_113 hw) (w_82 hw) (w_84 hw) (w_83 hw) (w_85 hw) (w_5 hw) e17 f19 [] [] (rm21 l Z a0 hw [] o2 q3 h10 n0 O10 g_o2 hp0 f25) 35 (l448_0 o1 o2 q3) rfl d15_35 (lenOf pd5 rfl) 0 0 0
 obtain ⟨rfl, Nq27, e28⟩ := hQ26
 have N26 := Fr.app N10 Nq27
 obtain ⟨T29, X29, e29, st29⟩ := yg X26 hx hZ hown hby (w_47 hw) e28 f11 43 (l448_0 o1 o2 q3) [(.ref o1)] d15_43
 obtain ⟨T30, h30, X30, e30, W30, st30⟩ := yp X29 hx hZ hown hby (w_47 hw) e29 f11 f21 (w_48 hw) (w_32 hw) (ty := .int) (v := (.int 2)) (by decide) rfl rfl 48 (l448_0 o1 o2 q3) [] d15_48
 have N30 := Fr.snoc X30 N26 g_o1
 have Fw30 := f11.same W30
 have O30 := Old.wr O10 W30 g_o1
 have f31 := (Fw10.other W30 (Or.inr (sn53 hw)))
 obtain ⟨T32, X32, e32, st32⟩ := yg X30 hx hZ hown hby (w_53 hw) e30 f31 53 (l448_0 o1 o2 q3) [(.ref o1)] d15_53
 have f33 := (f21.wr W30)
 obtain ⟨T34, h34, X34, e34, W34, st34⟩ := yp X32 hx hZ hown hby (w_53 hw) e32 f31 f33 (w_54 hw) (w_32 hw) (ty := .int) (v := (.int 0)) (by decide) rfl rfl 58 (l448_0 o1 o2 q3) [] d15_58
 have N34 := Fr.snoc X34 N30 g_o1
 have Fw34 := f31.same W34
 have O34 := Old.wr O30 W34 g_o1
 have f35 := (Fw30.other W34 (Or.inr (sn62 hw)))
 obtain ⟨T36, X36, e36, st36⟩ := yag X34 hx hZ hown hby (w_47 hw) e34 f35 15 (l448_0 o1 o2 q3) [] d15_15 d15_16 rfl
 have f37 := ((f13.other W30 (Or.inr (sn51 hw))).other W34 (Or.inr (sn59 hw)))
 obtain ⟨T38, X38, e38, st38⟩ := yag X36 hx hZ hown hby (w_49 hw) e36 f37 19 (l448_0 o1 o2 q3) [(.int 2)] d15_19 d15_20 rfl
 obtain ⟨T39, X39, e39, st39⟩ := yag X38 hx hZ hown hby (w_47 hw) e38 f35 64 (l448_0 o1 o2 q3) [] d15_64 d15_65 rfl
 have f40 := ((((P4.keep K3 (ninS ne7 nin0)).other W10 (Or.inr (sn66 hw))).other W30 (Or.inr (sn64 hw))).other W34 (Or.inr (sn66 hw)))
 obtain ⟨T41, X41, e41, st41⟩ := yag X39 hx hZ hown hby (w_51 hw) e39 f40 68 (l448_0 o1 o2 q3) [(.int 2)] d15_68 d15_69 rfl
 obtain ⟨T42, X42, e42, st42⟩ := yag X41 hx hZ hown hby (w_53 hw) e41 Fw34 73 (l448_0 o1 o2 q3) [(.int 2)] d15_73 d15_74 rfl
 have f43 := (f33.wr W34)
 obtain ⟨_, T44, L44, X44, hQ44, st44⟩ := yv X42 hx hZ hown hby hml (y := yn3) (own_w hw 100 rfl) (w_58 hw) (own_w hw 60 rfl) (w_59 hw) (own_w hw 61 rfl) (w_33 hw) e42 f43 [] [(.int 2)] (rm4 l Z a0 hw [] o1 ((2 : Int32)) ((2 : Int32)) ((0 : Int32)) h34 n0 O34 g_o1 f37 f35 Fw34) 79 (l448_0 o1 o2 q3) rfl d15_79 (lenOf pd3 rfl) 1 0 0
 obtain ⟨rfl, Nq45, e46⟩ := hQ44
 have N44 := Fr.app N34 Nq45
 obtain ⟨_, T47, L47, X47, hQ47, st47⟩ := own_cs X44 hx hZ hown (y := yn10) (own_w hw 101 rfl) (own_w hw 102 rfl) (own_w hw 104 rfl) (w_103 hw) e46 (argsL := [(.int (((2 : Int32) - (2 : Int32)) - (0 : Int32))), (.int 4)]) (rest := [(.int 2)]) (rm11 l Z a0 hw [] ((((2 : Int32) - (2 : Int32)) - (0 : Int32))) ((4 : Int32)) h34 n0 O34 ) (g := (mkF m 83 (l448_0 o1 o2 q3) [(.int 4), (.int (((2 : Int32) - (2 : Int32)) - (0 : Int32))), (.int 2)])) rfl (by rw [hml]; rfl) rfl (hb hby d15_83) (lenOf pd8 rfl) (W := 1) (c1 := 0) (s1 := 0)
 have pre48 : Go p e below T44 (mkF m 83 (l448_0 o1 o2 q3) [(.int 4), (.int (((2 : Int32) - (2 : Int32)) - (0 : Int32))), (.int 2)]) E0 := fun t k => by
  refine pre0 _ ?_
  refine yan X0 hx hby d15_0 rfl rfl ?_
  refine XS.lloadN X0.here hx rfl (hb hby d15_1) rfl ?_
  refine st1 _ ?_
  refine yan X1 hx hby d15_5 rfl rfl ?_
  refine XS.dup X1.here hx rfl (hb hby d15_6) rfl rfl ?_
  refine st9 _ ?_
  refine yic X9 hx hby d15_10 ?_
  refine yad X9 hx hby d15_11 ?_
  refine st10 _ ?_
  refine st12 _ ?_
  refine st14 _ ?_
  refine yno X14 hx hby d15_23 (tlt (by decide : (1 : Int32) < (2 : Int32))).2.1 ?_
  refine st16 _ ?_
  refine st17 _ ?_
  refine X17.aaload hx (j := (1 : Int32)) (v := (.ref o2)) (by rw [e17]; exact Ar24.1) (State.isArrayOf_alike hZ.alike Ar24.2.1) rfl Ar24.2.2 hin24 hat24 (g := (mkF m 34 (l448_0 o1 o2 q3) [(.int 1), (.ref o4)])) rfl rfl (hb hby d15_34) _ ?_
  refine st26 _ ?_
  refine yfn X26 hx hby d15_38 ((if0 _ _).trans (teq (by decide : (0 : Int32) = (0 : Int32))).2) ?_
  refine yan X26 hx hby d15_41 rfl rfl ?_
  refine XS.dup X26.here hx rfl (hb hby d15_42) rfl rfl ?_
  refine st29 _ ?_
  refine yic X29 hx hby d15_46 ?_
  refine yad X29 hx hby d15_47 ?_
  refine st30 _ ?_
  refine yan X30 hx hby d15_51 rfl rfl ?_
  refine XS.dup X30.here hx rfl (hb hby d15_52) rfl rfl ?_
  refine st32 _ ?_
  refine yic X32 hx hby d15_56 ?_
  refine ysu X32 hx hby d15_57 ?_
  refine st34 _ ?_
  refine ygo X34 hx hby 61 15 rfl d15_61 (by decide) ?_
  refine st36 _ ?_
  refine st38 _ ?_
  refine yye X38 hx hby 23 64 rfl d15_23 (flt (by decide : ¬ ((2 : Int32) < (2 : Int32)))).2.1 (by decide) ?_
  show Steps p.tables e below (T38.setTop (mkF m 64 (l448_0 o1 o2 q3) [])) _
  refine st39 _ ?_
  refine st41 _ ?_
  refine ysu X41 hx hby d15_72 ?_
  refine st42 _ ?_
  refine yad X42 hx hby d15_77 ?_
  refine yan X42 hx hby d15_78 rfl rfl ?_
  refine st44 _ ?_
  refine yic X44 hx hby d15_82 ?_
  exact k
 rcases hQ47 with ⟨hc49, rfl, Nq50, e51⟩ | ⟨hc52, rfl, Nq53, e54⟩
 ·
  have N47 := Fr.app N44 Nq50
  obtain ⟨fs, hr, hrun, hended, hW, hsame⟩ := X47.leave (v := none) (fun _ => rfl)
  have KL : Keep h0 h34 [o2, o1] := (((((Keep.refl h0 [o2, o1]).trans K3 (allS (Or.inl (List.mem_of_getElem? (i := 0) rfl)) all0)).wr W10 (Or.inl (List.mem_of_getElem? (i := 1) rfl))).wr W30 (Or.inl (List.mem_of_getElem? (i := 1) rfl))).wr W34 (Or.inl (List.mem_of_getElem? (i := 1) rfl)))
  have f55 := ((f19.wr W30).wr W34)
  have f56 := ((f25.other W30 (Or.inl (Ne.symm ne7))).other W34 (Or.inl (Ne.symm ne7)))
  have f57 := ((((P1.keep K3 (ninS ne7 nin0)).other W10 (Or.inr (sn58 hw))).other W30 (Or.inr (sn56 hw))).other W34 (Or.inr (sn58 hw)))
  have f58 := ((f15.other W30 (Or.inr (sn70 hw))).other W34 (Or.inr (sn72 hw)))
  refine ⟨_, _, pre48 _ ?_, hrun, hended, _, _, rfl, ?_, ⟨_, rfl⟩, hW, hsame.mono (by decide) (by decide)⟩
  ·
   refine st47 _ ?_
   refine yye X47 hx hby 86 93 rfl d15_86 (flt (by decide : ¬ ((4 : Int32) < (2 : Int32)))).2.2.2 (by decide) ?_
   show Steps p.tables e below (T47.setTop (mkF m 93 (l448_0 o1 o2 q3) [])) _
   exact X47.returnOut hx hret (hb hby d15_93) hr
  ·
   show Q33 Z o1 o2 o4 o6 kc5 q3 q7 h0 n0 _ T47.heap _
   rw [e51]
   exact ⟨rfl, N47, KL, f55, f56, f43, f57, f37, f35, f40, Fw34, f58⟩
 ·
  exact absurd (own_glt1 (n := 4) (k := (4 : Int32)) (by decide) (by have q0 := own_sub (x := ((2 : Int32) - (2 : Int32))) (k := (0 : Int32)) (n := 0) (lo := 0) (hi := 0) (by decide) (by have q0 := own_sub (x := (2 : Int32)) (k := (2 : Int32)) (n := 2) (lo := 2) (hi := 2) (by decide) (by have q0 := (by decide : ((2 : Int32)).toInt = 2); omega) (by decide) (by decide); omega) (by decide) (by decide); omega)) hc52
def l449_0 (dp1 : Int32) (dq2 q3 q4 : Int64) (dp3 dp4 zz50 : Int32) (dq50 : Int64) (da5 o6 : Addr) (o7 o8 o9 : Addr) : Array Slot := #[.val (.int dp1), .val (.long dq2), .second, .val (.long q3), .second, .val (.long q4), .second, .val (.int 1), .val (.int 1), .val (.int dp3), .val (.int dp4), .val (.int 1), .val (.int 1), .val (.int zz50), .val (.long dq50), .second, .val (.ref da5), .val (.ref o6), .val (.ref o7), .val (.ref o8), .val (.ref o9), .val (.int 1), .val (.long dq50), .second, .val (.long dq50), .second, .unset, .unset, .unset, .unset]
def l449_1 (dp1 : Int32) (dq2 q3 q4 : Int64) (dp3 dp4 zz50 : Int32) (dq50 : Int64) (da5 o6 : Addr) (o7 o8 o9 : Addr) : Array Slot := #[.val (.int dp1), .val (.long dq2), .second, .val (.long q3), .second, .val (.long q4), .second, .val (.int 1), .val (.int 1), .val (.int dp3), .val (.int dp4), .val (.int 1), .val (.int 1), .val (.int zz50), .val (.long dq50), .second, .val (.ref da5), .val (.ref o6), .val (.ref o7), .val (.ref o8), .val (.ref o9), .unset, .unset, .unset, .unset, .unset, .unset, .unset, .unset, .unset]
set_option maxRecDepth 65536 in
set_option maxHeartbeats 40000000 in
theorem ct18 {p : Program} {l : Launch} {e : Env} {s : State} {m : MethodId} {below : List Frame} {meth : Method} {c : Code} {E0 T0 : State} {locs : List Loc} {Z : State} {a0 : Array Value} (hw : HW a0 Z) (w1 : Addr) (kw1 : ClassId) (G : GW Z w1 kw1) (o6 o7 : Addr) (o8 o9 : Addr) (dq50 : Int64) (zz50 dp1 : Int32) (dq2 q3 q4 : Int64) (dp3 dp4 : Int32) (da5 : Addr) (p1 : Int32) (q2 : Int64) (h0 : Heap) (n0 : Nat) (O0 : Old Z n0 h0)
    (hx : p.tables.exec = Jvm.exec) (hby : c.code = code) (hml : c.maxLocals = 30) (hown : s.vm.findClass cn8 = some m.cls) (hret : meth.sig.returnType = ret) (hlk : meth.locks = false) (hZ : Z.Warmed39 s.vm)
    (X0 : Stand p l e room_1 s m #[(.int p1), (.long q2), (.long q3), (.long q4)] below meth c T0 locs 7 46) (e0 : T0.heap = h0) (N0 : Fr n0 locs) (pre0 : Go p e below T0 (mkF m 270 (l449_1 dp1 dq2 q3 q4 dp3 dp4 zz50 dq50 da5 o6 o7 o8 o9) []) E0) (g_o6 : n0 ≤ o6) (g_o7 : n0 ≤ o7) (g_o8 : n0 ≤ o8) (g_o9 : n0 ≤ o9) (P0 : Exa Z h0 o6 cn6) (P1 : Fld Z h0 o6 cn6 "removed" "J" (.long dq50)) (P2 : Exa Z h0 o7 cn6) (P3 : Fld Z h0 o7 cn6 "removed" "J" (.long dq50)) (P4 : Exa Z h0 o8 cn6) (P6 : Exa Z h0 o9 cn7) (P7 : Fld Z h0 o9 cn7 "addsFirst" "Z" (.int 0)) (P8 : Fld Z h0 o9 cn7 "end" "I" (.int 0)) (P9 : Fld Z h0 o9 cn7 "first" "I" (.int 0)) (P10 : Fld Z h0 o9 cn7 "low" "I" (.int 0)) (P11 : Fld Z h0 o9 cn7 "removed" "I" (.int 0)) (P12 : Fld Z h0 o9 cn7 "slots" cn3 (.ref w1)) (bzz50 : 0 ≤ zz50.toInt ∧ zz50.toInt ≤ 1) :
    ∃ (s₂ : State) (o : Outcome), Steps p.tables e below E0 s₂ ∧ s₂.status = .running ∧ Ended s₂ below o ∧ ∃ v L, o = .returned v ∧ Q0 n0 v s₂.heap L ∧ FrameEnd s o s₂ L 24 192 := by
 obtain ⟨S_w1, A_w1⟩ := id G
 obtain ⟨_, T1, L1, X1, hQ1, st1⟩ := yv X0 hx hZ hown hby hml (y := yn3) (own_w hw 57 rfl) (w_58 hw) (own_w hw 60 rfl) (w_59 hw) (own_w hw 61 rfl) (w_33 hw) e0 P6 [] [] (rm4 l Z a0 hw [] o9 ((0 : Int32)) ((0 : Int32)) ((0 : Int32)) h0 n0 O0 g_o9 P8 P9 P11) 272 (l449_1 dp1 dq2 q3 q4 dp3 dp4 zz50 dq50 da5 o6 o7 o8 o9) rfl at_272 (lenOf pd3 rfl) 0 7 46
 obtain ⟨rfl, Nq2, e3⟩ := hQ1
 have N1 := Fr.app N0 Nq2
 obtain ⟨_, T4, L4, X4, hQ4, st4⟩ := yv X1 hx hZ hown hby hml (y := yn4) (own_w hw 62 rfl) (own_w hw 63 rfl) (own_w hw 65 rfl) (own_w hw 64 rfl) (own_w hw 66 rfl) (w_33 hw) e3 P6 [] [] (rm5 l Z a0 hw [] o9 ((0 : Int32)) h0 n0 O0 g_o9 P9) 280 (l449_1 dp1 dq2 q3 q4 dp3 dp4 zz50 dq50 da5 o6 o7 o8 o9) rfl at_280 (lenOf pd3 rfl) 0 7 46
 obtain ⟨rfl, Nq5, e6⟩ := hQ4
 have N4 := Fr.app N1 Nq5
 obtain ⟨_, T7, L7, X7, hQ7, st7⟩ := yv X4 hx hZ hown hby hml (y := yn5) (own_w hw 67 rfl) (own_w hw 68 rfl) (own_w hw 70 rfl) (own_w hw 69 rfl) (own_w hw 71 rfl) (w_33 hw) e6 P6 [] [] (rm6 l Z a0 hw [] o9 ((0 : Int32)) h0 n0 O0 g_o9 P8) 288 (l449_1 dp1 dq2 q3 q4 dp3 dp4 zz50 dq50 da5 o6 o7 o8 o9) rfl at_288 (lenOf pd3 rfl) 0 7 46
 obtain ⟨rfl, Nq8, e9⟩ := hQ7
 have N7 := Fr.app N4 Nq8
 obtain ⟨_, T10, L10, X10, hQ10, st10⟩ := yv X7 hx hZ hown hby hml (y := yn6) (own_w hw 72 rfl) (own_w hw 73 rfl) (own_w hw 75 rfl) (own_w hw 74 rfl) (own_w hw 76 rfl) (w_33 hw) e9 P6 [] [] (rm7 l Z a0 hw w1 kw1 G [] o9 h0 n0 O0 g_o9 P12) 296 (l449_1 dp1 dq2 q3 q4 dp3 dp4 zz50 dq50 da5 o6 o7 o8 o9) rfl at_296 (lenOf pd4 rfl) 0 7 46
 obtain ⟨rfl, Nq11, e12⟩ := hQ10
 have N10 := Fr.app N7 Nq11
 obtain ⟨cl13, Ar13, qa13, Sa13, Na13, Ha13, Ga13⟩ := id ((A_w1.ext O0.2))
 have pre14 : Go p e below T10 (mkF m 358 (l449_0 dp1 dq2 q3 q4 dp3 dp4 zz50 dq50 da5 o6 o7 o8 o9) []) E0 := fun t k => by
  refine pre0 _ ?_
  refine yal X0 hx hby at_270 rfl rfl ?_
  refine st1 _ ?_
  refine yfn X1 hx hby at_275 ((if0 _ _).trans (teq (own_geq (n := 0) (k := (0 : Int32)) (by decide) (by have q0 := own_sub (x := ((0 : Int32) - (0 : Int32))) (k := (0 : Int32)) (n := 0) (lo := 0) (hi := 0) (by decide) (by have q0 := own_sub (x := (0 : Int32)) (k := (0 : Int32)) (n := 0) (lo := 0) (hi := 0) (by decide) (by have q0 := (by decide : ((0 : Int32)).toInt = 0); omega) (by decide) (by decide); omega) (by decide) (by decide); omega))).2) ?_
  refine yal X1 hx hby at_278 rfl rfl ?_
  refine st4 _ ?_
  refine yfn X4 hx hby at_283 ((if0 _ _).trans (teq (by decide : (0 : Int32) = (0 : Int32))).2) ?_
  refine yal X4 hx hby at_286 rfl rfl ?_
  refine st7 _ ?_
  refine yfn X7 hx hby at_291 ((if0 _ _).trans (teq (by decide : (0 : Int32) = (0 : Int32))).2) ?_
  refine yal X7 hx hby at_294 rfl rfl ?_
  refine st10 _ ?_
  refine X10.arraylength hx (by rw [e12]; exact Ar13.1) (State.isArrayOf_alike hZ.alike Ar13.2.1) (g := (mkF m 299 (l449_1 dp1 dq2 q3 q4 dp3 dp4 zz50 dq50 da5 o6 o7 o8 o9) [(.ref w1)])) rfl rfl (hb hby at_299) _ ?_
  rw [len_of Sa13 Na13]
  refine yfn X10 hx hby at_300 ((if0 _ _).trans (teq (by decide : (0 : Int32) = (0 : Int32))).2) ?_
  refine yic X10 hx hby at_303 ?_
  refine ygo X10 hx hby 304 308 rfl at_304 (by decide) ?_
  refine yis X10 hx hby at_308 (l' := #[.val (.int dp1), .val (.long dq2), .second, .val (.long q3), .second, .val (.long q4), .second, .val (.int 1), .val (.int 1), .val (.int dp3), .val (.int dp4), .val (.int 1), .val (.int 1), .val (.int zz50), .val (.long dq50), .second, .val (.ref da5), .val (.ref o6), .val (.ref o7), .val (.ref o8), .val (.ref o9), .val (.int 1), .unset, .unset, .unset, .unset, .unset, .unset, .unset, .unset]) rfl ?_
  refine yil X10 hx hby at_310 rfl ?_
  refine yfn X10 hx hby at_312 ((if0 _ _).trans (feq (by decide : ¬ ((1 : Int32) = (0 : Int32)))).1) ?_
  refine XS.lload X10.here hx rfl (hb hby at_315) rfl ?_
  refine ygo X10 hx hby 317 332 rfl at_317 (by decide) ?_
  refine XS.lstore X10.here hx rfl (hb hby at_332) rfl (l' := #[.val (.int dp1), .val (.long dq2), .second, .val (.long q3), .second, .val (.long q4), .second, .val (.int 1), .val (.int 1), .val (.int dp3), .val (.int dp4), .val (.int 1), .val (.int 1), .val (.int zz50), .val (.long dq50), .second, .val (.ref da5), .val (.ref o6), .val (.ref o7), .val (.ref o8), .val (.ref o9), .val (.int 1), .val (.long dq50), .second, .unset, .unset, .unset, .unset, .unset, .unset]) rfl ?_
  refine yil X10 hx hby at_334 rfl ?_
  refine yfn X10 hx hby at_336 ((if0 _ _).trans (feq (by decide : ¬ ((1 : Int32) = (0 : Int32)))).1) ?_
  refine XS.lload X10.here hx rfl (hb hby at_339) rfl ?_
  refine ygo X10 hx hby 341 356 rfl at_341 (by decide) ?_
  refine XS.lstore X10.here hx rfl (hb hby at_356) rfl (l' := (l449_0 dp1 dq2 q3 q4 dp3 dp4 zz50 dq50 da5 o6 o7 o8 o9)) rfl ?_
  exact k
 exact ct5 hw w1 kw1 G o6 o7 o8 o9 dq50 dq50 zz50 dp1 dq2 q3 q4 ((1 : Int32)) ((1 : Int32)) dp3 dp4 ((1 : Int32)) ((1 : Int32)) dq50 da5 p1 q2 q3 h0 n0 O0 hx hby hml hown hret hlk hZ (X10.more (by decide) (by decide)) e12 N10 pre14 g_o6 g_o7 g_o8 g_o9 P0 P1 P2 P3 P4 P6 P7 P8 P9 P10 P11 P12 (by have q0 := bzz50; omega)
def l450_0 (dp1 : Int32) (dq2 q3 q4 : Int64) (dp3 dp4 : Int32) (zz51 zz52 zz53 : Int32) (dq50 : Int64) (da5 o6 : Addr) (o7 o8 o9 : Addr) : Array Slot := #[.val (.int dp1), .val (.long dq2), .second, .val (.long q3), .second, .val (.long q4), .second, .val (.int 1), .val (.int 1), .val (.int dp3), .val (.int dp4), .val (.int zz51), .val (.int zz52), .val (.int zz53), .val (.long dq50), .second, .val (.ref da5), .val (.ref o6), .val (.ref o7), .val (.ref o8), .val (.ref o9), .unset, .unset, .unset, .unset, .unset, .unset, .unset, .unset, .unset]
def l450_1 (dp1 : Int32) (dq2 q3 q4 : Int64) (dp3 dp4 : Int32) (zz52 zz53 : Int32) (dq50 : Int64) (da5 o6 : Addr) (o7 o8 o9 : Addr) : Array Slot := #[.val (.int dp1), .val (.long dq2), .second, .val (.long q3), .second, .val (.long q4), .second, .val (.int 1), .val (.int 1), .val (.int dp3), .val (.int dp4), .val (.int 0), .val (.int zz52), .val (.int zz53), .val (.long dq50), .second, .val (.ref da5), .val (.ref o6), .val (.ref o7), .val (.ref o8), .val (.ref o9), .unset, .unset, .unset, .unset, .unset, .unset, .unset, .unset, .unset]
def l450_2 (dp1 : Int32) (dq2 q3 q4 : Int64) (dp3 dp4 : Int32) (zz52 zz53 : Int32) (dq50 : Int64) (da5 o6 : Addr) (o7 o8 o9 : Addr) : Array Slot := #[.val (.int dp1), .val (.long dq2), .second, .val (.long q3), .second, .val (.long q4), .second, .val (.int 1), .val (.int 1), .val (.int dp3), .val (.int dp4), .val (.int 1), .val (.int zz52), .val (.int zz53), .val (.long dq50), .second, .val (.ref da5), .val (.ref o6), .val (.ref o7), .val (.ref o8), .val (.ref o9), .unset, .unset, .unset, .unset, .unset, .unset, .unset, .unset, .unset]
def l450_3 (dp1 : Int32) (dq2 q3 q4 : Int64) (dp3 dp4 zz53 : Int32) (dq50 : Int64) (da5 o6 : Addr) (o7 o8 o9 : Addr) : Array Slot := #[.val (.int dp1), .val (.long dq2), .second, .val (.long q3), .second, .val (.long q4), .second, .val (.int 1), .val (.int 1), .val (.int dp3), .val (.int dp4), .val (.int 0), .val (.int 0), .val (.int zz53), .val (.long dq50), .second, .val (.ref da5), .val (.ref o6), .val (.ref o7), .val (.ref o8), .val (.ref o9), .unset, .unset, .unset, .unset, .unset, .unset, .unset, .unset, .unset]
def l450_4 (dp1 : Int32) (dq2 q3 q4 : Int64) (dp3 dp4 zz53 : Int32) (dq50 : Int64) (da5 o6 : Addr) (o7 o8 o9 : Addr) : Array Slot := #[.val (.int dp1), .val (.long dq2), .second, .val (.long q3), .second, .val (.long q4), .second, .val (.int 1), .val (.int 1), .val (.int dp3), .val (.int dp4), .val (.int 0), .val (.int 1), .val (.int zz53), .val (.long dq50), .second, .val (.ref da5), .val (.ref o6), .val (.ref o7), .val (.ref o8), .val (.ref o9), .unset, .unset, .unset, .unset, .unset, .unset, .unset, .unset, .unset]
def l450_5 (dp1 : Int32) (dq2 q3 q4 : Int64) (dp3 dp4 zz53 : Int32) (dq50 : Int64) (da5 o6 : Addr) (o7 o8 o9 : Addr) : Array Slot := #[.val (.int dp1), .val (.long dq2), .second, .val (.long q3), .second, .val (.long q4), .second, .val (.int 1), .val (.int 1), .val (.int dp3), .val (.int dp4), .val (.int 1), .val (.int 0), .val (.int zz53), .val (.long dq50), .second, .val (.ref da5), .val (.ref o6), .val (.ref o7), .val (.ref o8), .val (.ref o9), .unset, .unset, .unset, .unset, .unset, .unset, .unset, .unset, .unset]
def l450_6 (dp1 : Int32) (dq2 q3 q4 : Int64) (dp3 dp4 zz53 : Int32) (dq50 : Int64) (da5 o6 : Addr) (o7 o8 o9 : Addr) : Array Slot := #[.val (.int dp1), .val (.long dq2), .second, .val (.long q3), .second, .val (.long q4), .second, .val (.int 1), .val (.int 1), .val (.int dp3), .val (.int dp4), .val (.int 1), .val (.int 1), .val (.int zz53), .val (.long dq50), .second, .val (.ref da5), .val (.ref o6), .val (.ref o7), .val (.ref o8), .val (.ref o9), .unset, .unset, .unset, .unset, .unset, .unset, .unset, .unset, .unset]
set_option maxRecDepth 65536 in
set_option maxHeartbeats 40000000 in
theorem ct14 {p : Program} {l : Launch} {e : Env} {s : State} {m : MethodId} {below : List Frame} {meth : Method} {c : Code} {E0 T0 : State} {locs : List Loc} {Z : State} {a0 : Array Value} (hw : HW a0 Z) (w1 : Addr) (kw1 : ClassId) (G : GW Z w1 kw1) (o6 o7 : Addr) (o8 o9 o10 : Addr) (kc11 : ClassId) (dq50 : Int64) (zz51 zz52 : Int32) (zz53 dp1 : Int32) (dq2 q3 q4 : Int64) (dp3 dp4 : Int32) (da5 : Addr) (p1 : Int32) (q2 : Int64) (h0 : Heap) (n0 : Nat) (O0 : Old Z n0 h0)
    (hx : p.tables.exec = Jvm.exec) (hby : c.code = code) (hml : c.maxLocals = 30) (hown : s.vm.findClass cn8 = some m.cls) (hret : meth.sig.returnType = ret) (hlk : meth.locks = false) (hZ : Z.Warmed39 s.vm)
    (X0 : Stand p l e room_1 s m #[(.int p1), (.long q2), (.long q3), (.long q4)] below meth c T0 locs 7 46) (e0 : T0.heap = h0) (N0 : Fr n0 locs) (pre0 : Go p e below T0 (mkF m 236 (l450_0 dp1 dq2 q3 q4 dp3 dp4 zz51 zz52 zz53 dq50 da5 o6 o7 o8 o9) []) E0) (g_o6 : n0 ≤ o6) (g_o7 : n0 ≤ o7) (g_o8 : n0 ≤ o8) (g_o9 : n0 ≤ o9) (g_o10 : n0 ≤ o10) (ne_o7_o6 : o7 ≠ o6) (Ov_kc11 : Ovr Z kc11 cn6) (P0 : Exa Z h0 o6 cn6) (P1 : Fld Z h0 o6 cn6 "removed" "J" (.long 9223372036854775807)) (P2 : Exa Z h0 o7 cn6) (P3 : Fld Z h0 o7 cn6 "removed" "J" (.long 9223372036854775807)) (P4 : Exa Z h0 o8 cn6) (P6 : Exa Z h0 o9 cn7) (P7 : Fld Z h0 o9 cn7 "addsFirst" "Z" (.int 0)) (P8 : Fld Z h0 o9 cn7 "end" "I" (.int 2)) (P9 : Fld Z h0 o9 cn7 "first" "I" (.int 0)) (P10 : Fld Z h0 o9 cn7 "low" "I" (.int 0)) (P11 : Fld Z h0 o9 cn7 "removed" "I" (.int 0)) (P12 : Fld Z h0 o9 cn7 "slots" cn3 (.ref o10)) (P13 : Arv Z h0 o10 kc11 (.object cn6) (4 : Int32) [(.ref o6), (.ref o7), .null, .null] .null) (P14 : Exa Z h0 o10 cn3) (hC0 : ¬ (dq50 = (9223372036854775807 : Int64))) (bzz51 : 0 ≤ zz51.toInt ∧ zz51.toInt ≤ 1) (bzz52 : 0 ≤ zz52.toInt ∧ zz52.toInt ≤ 1) (bzz53 : 0 ≤ zz53.toInt ∧ zz53.toInt ≤ 1) :
    ∃ (s₂ : State) (o : Outcome), Steps p.tables e below E0 s₂ ∧ s₂.status = .running ∧ Ended s₂ below o ∧ ∃ v L, o = .returned v ∧ Q0 n0 v s₂.heap L ∧ FrameEnd s o s₂ L 24 192 := by
 obtain ⟨S_w1, A_w1⟩ := id G
 have pre1 : Go p e below T0 (mkF m 238 (l450_0 dp1 dq2 q3 q4 dp3 dp4 zz51 zz52 zz53 dq50 da5 o6 o7 o8 o9) [(.int zz51)]) E0 := fun t k => by
  refine pre0 _ ?_
  refine yil X0 hx hby at_236 rfl ?_
  exact k
 by_cases hc2 : zz51 = (0 : Int32)
 ·
  have pre3 : Go p e below T0 (mkF m 238 (l450_1 dp1 dq2 q3 q4 dp3 dp4 zz52 zz53 dq50 da5 o6 o7 o8 o9) [(.int 0)]) E0 := fun t k => pre1 t (by rw [hc2]; exact k)
  have pre4 : Go p e below T0 (mkF m 252 (l450_1 dp1 dq2 q3 q4 dp3 dp4 zz52 zz53 dq50 da5 o6 o7 o8 o9) [(.int zz52)]) E0 := fun t k => by
   refine pre3 _ ?_
   refine XS.ifYes X0.here hx rfl (pc0 := 238) (pc' := 250) rfl (hb hby at_238) rfl ((if0 _ _).trans (teq (by decide : (0 : Int32) = (0 : Int32))).1) (by decide) (by decide) ?_
   refine yil X0 hx hby at_250 rfl ?_
   exact k
  by_cases hc5 : zz52 = (0 : Int32)
  ·
   have pre6 : Go p e below T0 (mkF m 252 (l450_3 dp1 dq2 q3 q4 dp3 dp4 zz53 dq50 da5 o6 o7 o8 o9) [(.int 0)]) E0 := fun t k => pre4 t (by rw [hc5]; exact k)
   obtain ⟨_, T7, L7, X7, hQ7, st7⟩ := yv X0 hx hZ hown hby hml (y := yn2) (own_w hw 42 rfl) (w_43 hw) (own_w hw 45 rfl) (w_44 hw) (own_w hw 46 rfl) (w_33 hw) e0 P6 [(.long q3)] [] (rm28 l Z a0 hw w1 kw1 G [] o9 o10 o6 o7 kc11 ((0 : Int32)) q3 h0 n0 O0 g_o9 g_o10 g_o6 g_o7 ne_o7_o6 Ov_kc11 P6 P7 P8 P9 P10 P11 P12 P13 P14 P0 P1 P2 P3) 267 (l450_3 dp1 dq2 q3 q4 dp3 dp4 zz53 dq50 da5 o6 o7 o8 o9) rfl at_267 (lenOf pd2 rfl) 0 7 46
   obtain ⟨rfl, Nq8, K9, f10, f11, f12, f13, f14, f15, f16, f17, f18, f19, f20⟩ := hQ7
   have N7 := Fr.app N0 Nq8
   have O7 := Old.keep O0 K9 (allS g_o6 (allS g_o7 (allS g_o9 all0)))
   have pre21 : Go p e below T7 (mkF m 270 (l450_3 dp1 dq2 q3 q4 dp3 dp4 zz53 dq50 da5 o6 o7 o8 o9) []) E0 := fun t k => by
    refine pre6 _ ?_
    refine XS.ifYes X0.here hx rfl (pc0 := 252) (pc' := 264) rfl (hb hby at_252) rfl ((if0 _ _).trans (teq (by decide : (0 : Int32) = (0 : Int32))).1) (by decide) (by decide) ?_
    refine yal X0 hx hby at_264 rfl rfl ?_
    refine XS.lloadN X0.here hx rfl (hb hby at_266) rfl ?_
    refine st7 _ ?_
    exact k
   have f22 := (P4.keep K9)
   exact ct15 hw w1 kw1 G o6 o7 o8 o9 q3 zz53 dp1 dq2 q4 dp3 dp4 dq50 da5 p1 q2 T7.heap n0 O7 hx hby hml hown hret hlk hZ (X7.more (by decide) (by decide)) rfl N7 pre21 g_o6 g_o7 g_o8 g_o9 f10 f11 f12 f13 f22 f14 f15 f16 f17 f18 f19 f20 (by have q0 := bzz53; omega)
  ·
   have hq23 : zz52 = (1 : Int32) := (own_geq (n := 1) (k := (1 : Int32)) (by decide) (by have q0 := bzz52; have q1 := own_neq (n := 0) (k := (0 : Int32)) (by decide) hc5; omega))
   have pre24 : Go p e below T0 (mkF m 252 (l450_4 dp1 dq2 q3 q4 dp3 dp4 zz53 dq50 da5 o6 o7 o8 o9) [(.int 1)]) E0 := fun t k => pre4 t (by rw [hq23]; exact k)
   obtain ⟨_, T25, L25, X25, hQ25, st25⟩ := yv X0 hx hZ hown hby hml (y := yn15) (own_w hw 119 rfl) (own_w hw 120 rfl) (own_w hw 122 rfl) (own_w hw 121 rfl) (own_w hw 123 rfl) (w_33 hw) e0 P6 [(.ref o7), (.long dq50)] [] (rm29 l Z a0 hw [] o9 o7 o10 o6 kc11 dq50 h0 n0 O0 g_o9 g_o7 g_o10 g_o6 (Ne.symm ne_o7_o6) Ov_kc11 hC0 P6 P7 P8 P9 P10 P11 P12 P2 P3 P13 P14 P0 P1) 261 (l450_4 dp1 dq2 q3 q4 dp3 dp4 zz53 dq50 da5 o6 o7 o8 o9) rfl at_261 (lenOf pd10 rfl) 0 7 46
   obtain ⟨rfl, Nq26, K27, f28, f29, f30, f31, f32, f33, f34, f35, f36⟩ := hQ25
   have N25 := Fr.app N0 Nq26
   have O25 := Old.keep O0 K27 (allS g_o7 (allS g_o9 all0))
   have f37 := (P14.keep K27)
   have ne38 : o10 ≠ o9 := ne_exa f37 f30 (by decide)
   have ne39 : o10 ≠ o7 := ne_exa f37 f28 (by decide)
   have f40 := (P13.keep K27 (ninS ne39 (ninS ne38 nin0)))
   have f41 := (P0.keep K27)
   have ne42 : o6 ≠ o9 := ne_exa f41 f30 (by decide)
   have f43 := (P1.keep K27 (ninS (Ne.symm ne_o7_o6) (ninS ne42 nin0)))
   obtain ⟨_, T44, L44, X44, hQ44, st44⟩ := yv X25 hx hZ hown hby hml (y := yn2) (own_w hw 42 rfl) (w_43 hw) (own_w hw 45 rfl) (w_44 hw) (own_w hw 46 rfl) (w_33 hw) rfl f30 [(.long q3)] [] (rm30 l Z a0 hw w1 kw1 G [] o9 o10 o6 o7 kc11 dq50 ((0 : Int32)) ((1 : Int32)) q3 T25.heap n0 O25 g_o9 g_o10 g_o6 g_o7 ne_o7_o6 Ov_kc11 hC0 f30 f31 f32 f33 f34 f35 f36 f40 f37 f41 f43 f28 f29) 267 (l450_4 dp1 dq2 q3 q4 dp3 dp4 zz53 dq50 da5 o6 o7 o8 o9) rfl at_267 (lenOf pd2 rfl) 0 7 46
   obtain ⟨rfl, Nq45, K46, f47, f48, f49, f50, f51, f52, f53, f54, f55⟩ := hQ44
   have N44 := Fr.app N25 Nq45
   have O44 := Old.keep O25 K46 (allS g_o6 (allS g_o9 all0))
   have pre56 : Go p e below T44 (mkF m 270 (l450_4 dp1 dq2 q3 q4 dp3 dp4 zz53 dq50 da5 o6 o7 o8 o9) []) E0 := fun t k => by
    refine pre24 _ ?_
    refine yfn X0 hx hby at_252 ((if0 _ _).trans (feq (by decide : ¬ ((1 : Int32) = (0 : Int32)))).1) ?_
    refine yal X0 hx hby at_255 rfl rfl ?_
    refine yal X0 hx hby at_257 rfl rfl ?_
    refine XS.lload X0.here hx rfl (hb hby at_259) rfl ?_
    refine st25 _ ?_
    refine yal X25 hx hby at_264 rfl rfl ?_
    refine XS.lloadN X25.here hx rfl (hb hby at_266) rfl ?_
    refine st44 _ ?_
    exact k
   have f57 := (f28.keep K46)
   have ne58 : o7 ≠ o9 := ne_exa f57 f49 (by decide)
   have f59 := (f29.keep K46 (ninS ne_o7_o6 (ninS ne58 nin0)))
   have f60 := ((P4.keep K27).keep K46)
   exact ct16 hw w1 kw1 G o6 o7 o8 o9 q3 dq50 zz53 dp1 dq2 q4 dp3 dp4 da5 p1 q2 T44.heap n0 O44 hx hby hml hown hret hlk hZ (X44.more (by decide) (by decide)) rfl N44 pre56 g_o6 g_o7 g_o8 g_o9 f47 f48 f57 f59 f60 f49 f50 f51 f52 f53 f54 f55 (by have q0 := bzz53; omega)
 ·
  have hq61 : zz51 = (1 : Int32) := (own_geq (n := 1) (k := (1 : Int32)) (by decide) (by have q0 := bzz51; have q1 := own_neq (n := 0) (k := (0 : Int32)) (by decide) hc2; omega))
  have pre62 : Go p e below T0 (mkF m 238 (l450_2 dp1 dq2 q3 q4 dp3 dp4 zz52 zz53 dq50 da5 o6 o7 o8 o9) [(.int 1)]) E0 := fun t k => pre1 t (by rw [hq61]; exact k)
  obtain ⟨_, T63, L63, X63, hQ63, st63⟩ := yv X0 hx hZ hown hby hml (y := yn15) (own_w hw 119 rfl) (own_w hw 120 rfl) (own_w hw 122 rfl) (own_w hw 121 rfl) (own_w hw 123 rfl) (w_33 hw) e0 P6 [(.ref o6), (.long dq50)] [] (rm31 l Z a0 hw [] o9 o6 o10 o7 kc11 dq50 h0 n0 O0 g_o9 g_o6 g_o10 g_o7 ne_o7_o6 Ov_kc11 hC0 P6 P7 P8 P9 P10 P11 P12 P0 P1 P13 P14 P2 P3) 247 (l450_2 dp1 dq2 q3 q4 dp3 dp4 zz52 zz53 dq50 da5 o6 o7 o8 o9) rfl at_247 (lenOf pd10 rfl) 0 7 46
  obtain ⟨rfl, Nq64, K65, f66, f67, f68, f69, f70, f71, f72, f73, f74⟩ := hQ63
  have N63 := Fr.app N0 Nq64
  have O63 := Old.keep O0 K65 (allS g_o6 (allS g_o9 all0))
  have pre75 : Go p e below T63 (mkF m 252 (l450_2 dp1 dq2 q3 q4 dp3 dp4 zz52 zz53 dq50 da5 o6 o7 o8 o9) [(.int zz52)]) E0 := fun t k => by
   refine pre62 _ ?_
   refine yfn X0 hx hby at_238 ((if0 _ _).trans (feq (by decide : ¬ ((1 : Int32) = (0 : Int32)))).1) ?_
   refine yal X0 hx hby at_241 rfl rfl ?_
   refine yal X0 hx hby at_243 rfl rfl ?_
   refine XS.lload X0.here hx rfl (hb hby at_245) rfl ?_
   refine st63 _ ?_
   refine yil X63 hx hby at_250 rfl ?_
   exact k
  by_cases hc76 : zz52 = (0 : Int32)
  ·
   have pre77 : Go p e below T63 (mkF m 252 (l450_5 dp1 dq2 q3 q4 dp3 dp4 zz53 dq50 da5 o6 o7 o8 o9) [(.int 0)]) E0 := fun t k => pre75 t (by rw [hc76]; exact k)
   have f78 := (P14.keep K65)
   have ne79 : o10 ≠ o9 := ne_exa f78 f68 (by decide)
   have ne80 : o10 ≠ o6 := ne_exa f78 f66 (by decide)
   have f81 := (P13.keep K65 (ninS ne80 (ninS ne79 nin0)))
   have f82 := (P2.keep K65)
   have ne83 : o7 ≠ o9 := ne_exa f82 f68 (by decide)
   have f84 := (P3.keep K65 (ninS ne_o7_o6 (ninS ne83 nin0)))
   obtain ⟨_, T85, L85, X85, hQ85, st85⟩ := yv X63 hx hZ hown hby hml (y := yn2) (own_w hw 42 rfl) (w_43 hw) (own_w hw 45 rfl) (w_44 hw) (own_w hw 46 rfl) (w_33 hw) rfl f68 [(.long q3)] [] (rm32 l Z a0 hw w1 kw1 G [] o9 o10 o6 o7 kc11 dq50 ((0 : Int32)) q3 T63.heap n0 O63 g_o9 g_o10 g_o6 g_o7 Ov_kc11 hC0 f68 f69 f70 f71 f72 f73 f74 f81 f82 f84) 267 (l450_5 dp1 dq2 q3 q4 dp3 dp4 zz53 dq50 da5 o6 o7 o8 o9) rfl at_267 (lenOf pd2 rfl) 0 7 46
   obtain ⟨rfl, Nq86, K87, f88, f89, f90, f91, f92, f93, f94, f95, f96⟩ := hQ85
   have N85 := Fr.app N63 Nq86
   have O85 := Old.keep O63 K87 (allS g_o7 (allS g_o9 all0))
   have pre97 : Go p e below T85 (mkF m 270 (l450_5 dp1 dq2 q3 q4 dp3 dp4 zz53 dq50 da5 o6 o7 o8 o9) []) E0 := fun t k => by
    refine pre77 _ ?_
    refine XS.ifYes X63.here hx rfl (pc0 := 252) (pc' := 264) rfl (hb hby at_252) rfl ((if0 _ _).trans (teq (by decide : (0 : Int32) = (0 : Int32))).1) (by decide) (by decide) ?_
    refine yal X63 hx hby at_264 rfl rfl ?_
    refine XS.lloadN X63.here hx rfl (hb hby at_266) rfl ?_
    refine st85 _ ?_
    exact k
   have f98 := (f66.keep K87)
   have ne99 : o6 ≠ o9 := ne_exa f98 f90 (by decide)
   have f100 := (f67.keep K87 (ninS (Ne.symm ne_o7_o6) (ninS ne99 nin0)))
   have f101 := ((P4.keep K65).keep K87)
   exact ct17 hw w1 kw1 G o6 o7 o8 o9 dq50 q3 zz53 dp1 dq2 q4 dp3 dp4 da5 p1 q2 T85.heap n0 O85 hx hby hml hown hret hlk hZ (X85.more (by decide) (by decide)) rfl N85 pre97 g_o6 g_o7 g_o8 g_o9 f98 f100 f88 f89 f101 f90 f91 f92 f93 f94 f95 f96 (by have q0 := bzz53; omega)
  ·
   have hq102 : zz52 = (1 : Int32) := (own_geq (n := 1) (k := (1 : Int32)) (by decide) (by have q0 := bzz52; have q1 := own_neq (n := 0) (k := (0 : Int32)) (by decide) hc76; omega))
   have pre103 : Go p e below T63 (mkF m 252 (l450_6 dp1 dq2 q3 q4 dp3 dp4 zz53 dq50 da5 o6 o7 o8 o9) [(.int 1)]) E0 := fun t k => pre75 t (by rw [hq102]; exact k)
   have f104 := (P2.keep K65)
   have ne105 : o7 ≠ o9 := ne_exa f104 f68 (by decide)
   have f106 := (P3.keep K65 (ninS ne_o7_o6 (ninS ne105 nin0)))
   have f107 := (P14.keep K65)
   have ne108 : o10 ≠ o9 := ne_exa f107 f68 (by decide)
   have ne109 : o10 ≠ o6 := ne_exa f107 f66 (by decide)
   have f110 := (P13.keep K65 (ninS ne109 (ninS ne108 nin0)))
   obtain ⟨_, T111, L111, X111, hQ111, st111⟩ := yv X63 hx hZ hown hby hml (y := yn15) (own_w hw 119 rfl) (own_w hw 120 rfl) (own_w hw 122 rfl) (own_w hw 121 rfl) (own_w hw 123 rfl) (w_33 hw) rfl f68 [(.ref o7), (.long dq50)] [] (rm33 l Z a0 hw [] o9 o7 o10 o6 kc11 dq50 dq50 T63.heap n0 O63 g_o9 g_o7 g_o10 g_o6 Ov_kc11 hC0 hC0 f68 f69 f70 f71 f72 f73 f74 f104 f106 f110 f107) 261 (l450_6 dp1 dq2 q3 q4 dp3 dp4 zz53 dq50 da5 o6 o7 o8 o9) rfl at_261 (lenOf pd10 rfl) 0 7 46
   obtain ⟨rfl, Nq112, K113, f114, f115, f116, f117, f118, f119, f120, f121, f122⟩ := hQ111
   have N111 := Fr.app N63 Nq112
   have O111 := Old.keep O63 K113 (allS g_o7 (allS g_o9 all0))
   obtain ⟨_, T123, L123, X123, hQ123, st123⟩ := yv X111 hx hZ hown hby hml (y := yn2) (own_w hw 42 rfl) (w_43 hw) (own_w hw 45 rfl) (w_44 hw) (own_w hw 46 rfl) (w_33 hw) rfl f116 [(.long q3)] [] (rm23 l Z a0 hw w1 kw1 G [] o9 o10 ((0 : Int32)) ((2 : Int32)) q3 T111.heap n0 O111 g_o9 g_o10 f116 f117 f118 f119 f120 f121 f122) 267 (l450_6 dp1 dq2 q3 q4 dp3 dp4 zz53 dq50 da5 o6 o7 o8 o9) rfl at_267 (lenOf pd2 rfl) 0 7 46
   obtain ⟨rfl, Nq124, K125, f126, f127, f128, f129, f130, f131, f132⟩ := hQ123
   have N123 := Fr.app N111 Nq124
   have O123 := Old.keep O111 K125 (allS g_o9 all0)
   have pre133 : Go p e below T123 (mkF m 270 (l450_6 dp1 dq2 q3 q4 dp3 dp4 zz53 dq50 da5 o6 o7 o8 o9) []) E0 := fun t k => by
    refine pre103 _ ?_
    refine yfn X63 hx hby at_252 ((if0 _ _).trans (feq (by decide : ¬ ((1 : Int32) = (0 : Int32)))).1) ?_
    refine yal X63 hx hby at_255 rfl rfl ?_
    refine yal X63 hx hby at_257 rfl rfl ?_
    refine XS.lload X63.here hx rfl (hb hby at_259) rfl ?_
    refine st111 _ ?_
    refine yal X111 hx hby at_264 rfl rfl ?_
    refine XS.lloadN X111.here hx rfl (hb hby at_266) rfl ?_
    refine st123 _ ?_
    exact k
   have f134 := ((f66.keep K113).keep K125)
   have ne135 : o6 ≠ o9 := ne_exa f134 f126 (by decide)
   have f136 := ((f67.keep K113 (ninS (Ne.symm ne_o7_o6) (ninS ne135 nin0))).keep K125 (ninS ne135 nin0))
   have f137 := (f114.keep K125)
   have f138 := (f115.keep K125 (ninS ne105 nin0))
   have f139 := (((P4.keep K65).keep K113).keep K125)
   exact ct18 hw w1 kw1 G o6 o7 o8 o9 dq50 zz53 dp1 dq2 q3 q4 dp3 dp4 da5 p1 q2 T123.heap n0 O123 hx hby hml hown hret hlk hZ (X123.more (by decide) (by decide)) rfl N123 pre133 g_o6 g_o7 g_o8 g_o9 f134 f136 f137 f138 f139 f126 f127 f128 f129 f130 f131 f132 (by have q0 := bzz53; omega)
theorem d11_52 : decode kd11 52 = .ok (.aload_n 0, 1) := by decide +kernel
theorem d11_53 : decode kd11 53 = .ok (.getfield 13, 3) := by decide +kernel
theorem d11_56 : decode kd11 56 = .ok (.iload 6, 2) := by decide +kernel
theorem d11_58 : decode kd11 58 = .ok (.aaload, 1) := by decide +kernel
theorem d11_59 : decode kd11 59 = .ok (.invokevirtual 42, 3) := by decide +kernel
theorem d11_62 : decode kd11 62 = .ok (.ifCond .eq 18, 3) := by decide +kernel
theorem d11_65 : decode kd11 65 = .ok (.aload 4, 2) := by decide +kernel
theorem d11_67 : decode kd11 67 = .ok (.iload 5, 2) := by decide +kernel
theorem d11_69 : decode kd11 69 = .ok (.aload_n 0, 1) := by decide +kernel
theorem d11_70 : decode kd11 70 = .ok (.getfield 13, 3) := by decide +kernel
theorem d11_73 : decode kd11 73 = .ok (.iload 6, 2) := by decide +kernel
theorem d11_75 : decode kd11 75 = .ok (.aaload, 1) := by decide +kernel
theorem d11_76 : decode kd11 76 = .ok (.aastore, 1) := by decide +kernel
theorem d11_77 : decode kd11 77 = .ok (.iinc 5 1, 3) := by decide +kernel
theorem d11_80 : decode kd11 80 = .ok (.iinc 6 1, 3) := by decide +kernel
theorem d11_83 : decode kd11 83 = .ok (.goto (-40), 3) := by decide +kernel
def l467_0 (o1 b14 : Addr) : Array Slot := #[.val (.ref o1), .val (.int (((1 : Int32) - (0 : Int32)) - (0 : Int32))), .val (.int 4), .val (.int 4), .val (.ref b14), .val (.int 4), .val (.int 0)]
def l467_1 (o1 b14 : Addr) : Array Slot := #[.val (.ref o1), .val (.int (((1 : Int32) - (0 : Int32)) - (0 : Int32))), .val (.int 4), .val (.int 4), .val (.ref b14), .val (.int 5), .val (.int 1)]
def l467_2 (o1 b14 : Addr) : Array Slot := #[.val (.ref o1), .val (.int (((1 : Int32) - (0 : Int32)) - (0 : Int32))), .val (.int 4), .val (.int 4), .val (.ref b14), .val (.int 4), .unset]
def l467_3 (o1 : Addr) : Array Slot := #[.val (.ref o1), .val (.int (((1 : Int32) - (0 : Int32)) - (0 : Int32))), .val (.int 4), .val (.int 4), .unset, .unset, .unset]
def l467_4 (o1 : Addr) : Array Slot := #[.val (.ref o1), .val (.int (((1 : Int32) - (0 : Int32)) - (0 : Int32))), .val (.int 4), .unset, .unset, .unset, .unset]
def l467_5 (o1 : Addr) : Array Slot := #[.val (.ref o1), .val (.int (((1 : Int32) - (0 : Int32)) - (0 : Int32))), .unset, .unset, .unset, .unset, .unset]
theorem ef34 (m : MethodId) (x0 : Addr) : entryFrame m #[(.ref x0)] 7 = mkF m 0 #[.val (.ref x0), .unset, .unset, .unset, .unset, .unset, .unset] [] := by first | (simp [entryFrame, mkF, argsToLocals, Value.category]; done) | rfl
def Q34 (Z : State) (o1 o2 o4 : Addr) (kc3 : ClassId) (h0 : Heap) (n0 : Nat) (v : Option Value) (h : Heap) (L : List Loc) : Prop :=
  (∃ b14 : Addr, ∃ k14 : ClassId, v = none ∧ Fr n0 L ∧ Keep h0 h [o1] ∧ h0.size ≤ b14 ∧ Ovr Z k14 cn6 ∧ (Exa Z h o1 cn7) ∧ (Fld Z h o1 cn7 "addsFirst" "Z" (.int 1)) ∧ (Fld Z h o1 cn7 "end" "I" (.int 5)) ∧ (Fld Z h o1 cn7 "first" "I" (.int 4)) ∧ (Fld Z h o1 cn7 "low" "I" (.int 4)) ∧ (Fld Z h o1 cn7 "removed" "I" (.int 0)) ∧ (Fld Z h o1 cn7 "slots" cn3 (.ref b14)) ∧ (Arv Z h b14 k14 (.object cn6) (9 : Int32) [.null, .null, .null, .null, (.ref o4), .null, .null, .null, .null] .null) ∧ (Exa Z h b14 cn3))
set_option maxRecDepth 65536 in
set_option maxHeartbeats 40000000 in
theorem rm34 (l : Launch) (Z : State) (a0 : Array Value) (hw : HW a0 Z) (ws : List Jvm.Cond) (o1 o2 o4 : Addr) (kc3 : ClassId) (h0 : Heap) (n0 : Nat) (O0 : Old Z n0 h0) (g_o1 : n0 ≤ o1) (g_o2 : n0 ≤ o2) (g_o4 : n0 ≤ o4) (Ov_kc3 : Ovr Z kc3 cn6) (P0 : Exa Z h0 o1 cn7) (P1 : Fld Z h0 o1 cn7 "addsFirst" "Z" (.int 1)) (P2 : Fld Z h0 o1 cn7 "end" "I" (.int 1)) (P3 : Fld Z h0 o1 cn7 "first" "I" (.int 0)) (P4 : Fld Z h0 o1 cn7 "low" "I" (.int 0)) (P5 : Fld Z h0 o1 cn7 "removed" "I" (.int 0)) (P6 : Fld Z h0 o1 cn7 "slots" cn3 (.ref o2)) (P7 : Arv Z h0 o2 kc3 (.object cn6) (4 : Int32) [(.ref o4), .null, .null, .null] .null) (P9 : Exa Z h0 o4 cn6) (P10 : Fld Z h0 o4 cn6 "removed" "J" (.long 9223372036854775807)) :
    MF l yn11 prog_41_method_10_code 7 none ws ({ frames := 1, cells := 1, slots := 9, locals := 13 } : Room) #[(.ref o1)] Z h0 (Q34 Z o1 o2 o4 kc3 h0 n0) := by
 refine MetFree.of_bodySF (plainFor_of_name pn1) hisR ?_
 intro p e s m args below meth c s₁ Bd hml hP hK
 obtain ⟨rfl, hZ, hh⟩ := hP
 obtain ⟨hx, hby, hown, hret, hlk, X0, e0, N0⟩ := own_bd Bd hh n0
 have pre0 := own_ct s₁ (p := p) (e := e) (below := below) (ef34 m o1)
 revert pre0
 generalize s₁.setTop (entryFrame m #[(.ref o1)] 7) = E0
 intro pre0
 obtain ⟨_, T1, L1, X1, hQ1, st1⟩ := yv X0 hx hZ hown hby hml (y := yn3) (own_w hw 100 rfl) (w_58 hw) (own_w hw 60 rfl) (w_59 hw) (own_w hw 61 rfl) (w_33 hw) e0 P0 [] [] (rm4 l Z a0 hw [] o1 ((1 : Int32)) ((0 : Int32)) ((0 : Int32)) h0 n0 O0 g_o1 P2 P3 P5) 1 #[.val (.ref o1), .unset, .unset, .unset, .unset, .unset, .unset] rfl d11_1 (lenOf pd3 rfl) 0 0 0
 obtain ⟨rfl, Nq2, e3⟩ := hQ1
 have N1 := Fr.app N0 Nq2
 obtain ⟨_, T4, L4, X4, hQ4, st4⟩ := own_cs X1 hx hZ hown (y := yn10) (own_w hw 101 rfl) (own_w hw 102 rfl) (own_w hw 104 rfl) (w_103 hw) e3 (argsL := [(.int 4), (.int (((1 : Int32) - (0 : Int32)) - (0 : Int32)))]) (rest := []) (rm11 l Z a0 hw [] ((4 : Int32)) ((((1 : Int32) - (0 : Int32)) - (0 : Int32))) h0 n0 O0 ) (g := (mkF m 7 (l467_5 o1) [(.int (((1 : Int32) - (0 : Int32)) - (0 : Int32))), (.int 4)])) rfl (by rw [hml]; rfl) rfl (hb hby d11_7) (lenOf pd8 rfl) (W := 0) (c1 := 0) (s1 := 0)
 have pre5 : Go p e below T1 (mkF m 7 (l467_5 o1) [(.int (((1 : Int32) - (0 : Int32)) - (0 : Int32))), (.int 4)]) E0 := fun t k => by
  refine pre0 _ ?_
  refine yan X0 hx hby d11_0 rfl rfl ?_
  refine st1 _ ?_
  refine yit X1 hx hby d11_4 (l' := (l467_5 o1)) rfl ?_
  refine yic X1 hx hby d11_5 ?_
  refine yin X1 hx hby d11_6 rfl ?_
  exact k
 rcases hQ4 with ⟨hc6, rfl, Nq7, e8⟩ | ⟨hc9, rfl, Nq10, e11⟩
 ·
  exact absurd hc6 (own_gnlt2 (n := 4) (k := (4 : Int32)) (by decide) (by have q0 := own_sub (x := ((1 : Int32) - (0 : Int32))) (k := (0 : Int32)) (n := 0) (lo := 1) (hi := 1) (by decide) (by have q0 := own_sub (x := (1 : Int32)) (k := (0 : Int32)) (n := 0) (lo := 1) (hi := 1) (by decide) (by have q0 := (by decide : ((1 : Int32)).toInt = 1); omega) (by decide) (by decide); omega) (by decide) (by decide); omega))
 ·
  have N4 := Fr.app N1 Nq10
  obtain ⟨T12, X12, e12, st12⟩ := yag X4 hx hZ hown hby (own_w hw 55 rfl) e11 P1 11 (l467_4 o1) [] d11_11 d11_12 rfl
  have hq13 : (((4 : Int32) + (((1 : Int32) - (0 : Int32)) - (0 : Int32))) + (4 : Int32)) = (9 : Int32) := (own_geq (n := 9) (k := (9 : Int32)) (by decide) (by have q0 := own_add (x := ((4 : Int32) + (((1 : Int32) - (0 : Int32)) - (0 : Int32)))) (k := (4 : Int32)) (n := 4) (lo := 5) (hi := 5) (by decide) (by have q0 := own_add2 (x := (((1 : Int32) - (0 : Int32)) - (0 : Int32))) (k := (4 : Int32)) (n := 4) (lo := 1) (hi := 1) (by decide) (by have q0 := own_sub (x := ((1 : Int32) - (0 : Int32))) (k := (0 : Int32)) (n := 0) (lo := 1) (hi := 1) (by decide) (by have q0 := own_sub (x := (1 : Int32)) (k := (0 : Int32)) (n := 0) (lo := 1) (hi := 1) (by decide) (by have q0 := (by decide : ((1 : Int32)).toInt = 1); omega) (by decide) (by decide); omega) (by decide) (by decide); omega) (by decide) (by decide); omega) (by decide) (by decide); omega))
  obtain ⟨T14, h14, k14, X14, e14, E14, A14, EX14, OV14, st14⟩ := newRE X12 hx hZ hown (own_w hw 105 rfl) (own_w hw 106 rfl) e12 (g := (mkF m 29 (l467_3 o1) [(.int (((4 : Int32) + (((1 : Int32) - (0 : Int32)) - (0 : Int32))) + (4 : Int32)))])) rfl (hb hby d11_29) rfl (by rw [hq13]; decide) (cap := 9) (by rw [hq13]; decide) (by decide) (by decide) (by decide) (ad := cn3) (by decide)
  obtain ⟨b14, g14⟩ : ∃ z, z = h0.size := ⟨_, rfl⟩
  rw [← g14] at A14 EX14 st14
  rw [hq13] at A14
  have O14 := Old.ext O0 E14
  have sz_b14 : h0.size ≤ b14 := Nat.le_of_eq g14.symm
  have g_b14 : n0 ≤ b14 := Nat.le_trans (own_oz O0) (Nat.le_trans (Nat.le_refl _) sz_b14)
  have V14_0 := Arv.new A14 (by decide)
  have V14 : Arv Z h14 b14 k14 (.object cn6) (9 : Int32) [.null, .null, .null, .null, .null, .null, .null, .null, .null] .null := V14_0.pad (pad_rep [] .null 9)
  have f15 := (P3.ext E14)
  obtain ⟨T16, X16, e16, st16⟩ := yag X14 hx hZ hown hby (w_47 hw) e14 f15 37 (l467_2 o1 b14) [] d11_37 d11_38 rfl
  have f17 := (P2.ext E14)
  obtain ⟨T18, X18, e18, st18⟩ := yag X16 hx hZ hown hby (w_49 hw) e16 f17 45 (l467_0 o1 b14) [(.int 0)] d11_45 d11_46 rfl
  have f19 := (P6.ext E14)
  obtain ⟨T20, X20, e20, st20⟩ := yag X18 hx hZ hown hby (w_40 hw) e18 f19 52 (l467_0 o1 b14) [] d11_52 d11_53 rfl
  have f21 := (P7.ext E14)
  obtain ⟨cl22, Ar22, qa22, Sa22, Na22, Ha22, Ga22⟩ := id (f21)
  have hin22 := inb_of (j := (0 : Int32)) Sa22 ⟨by decide, by decide⟩
  have hat22 : cl22.slots[((0 : Int32)).toNatClampNeg]? = some (.ref o4) := Has.at Ha22 hin22 rfl
  have f23 := (P10.ext E14)
  have f24 := (P9.ext E14)
  obtain ⟨_, T25, L25, X25, hQ25, st25⟩ := yv X20 hx hZ hown hby hml (y := yn7) (w_113 hw) (w_82 hw) (w_84 hw) (w_83 hw) (w_85 hw) (w_5 hw) e20 f24 [] [] (rm17 l Z a0 hw [] o4 ((9223372036854775807 : Int64)) h14 n0 O14 g_o4 (by decide : (9223372036854775807 : Int64) = (9223372036854775807 : Int64)) f23) 59 (l467_0 o1 b14) rfl d11_59 (lenOf pd5 rfl) 0 1 9
  obtain ⟨rfl, Nq26, e27⟩ := hQ25
  have N25 := Fr.app N4 Nq26
  obtain ⟨T28, X28, e28, st28⟩ := yag X25 hx hZ hown hby (w_40 hw) e27 f19 69 (l467_0 o1 b14) [(.int 4), (.ref b14)] d11_69 d11_70 rfl
  obtain ⟨cl29, Ar29, qa29, Sa29, Na29, Ha29, Ga29⟩ := id (f21)
  have hin29 := inb_of (j := (0 : Int32)) Sa29 ⟨by decide, by decide⟩
  have hat29 : cl29.slots[((0 : Int32)).toNatClampNeg]? = some (.ref o4) := Has.at Ha29 hin29 rfl
  obtain ⟨cl30, Ar30, qa30, Sa30, Na30, Ha30, Ga30⟩ := id (V14)
  have hin30 := inb_of (j := (4 : Int32)) Sa30 ⟨by decide, by decide⟩
  obtain ⟨T31, h31, X31, e31, W31, st31⟩ := stR X28 hx hZ e28 Ar30 (j := (4 : Int32)) hin30 rfl (Sto.ofV Ar30 qa30 OV14 (Ins.self f24)) (g := (mkF m 76 (l467_0 o1 b14) [(.ref o4), (.int 4), (.ref b14)])) rfl rfl (hb hby d11_76)
  have V31 : Arv Z h31 b14 k14 (.object cn6) (9 : Int32) [.null, .null, .null, .null, (.ref o4), .null, .null, .null, .null] .null := Arv.set Ar30 qa30 Sa30 Na30 Ha30 Ga30 rfl W31 4 rfl (Nat.le_of_ble_eq_true rfl)
  have N31 := Fr.snoc X31 N25 g_b14
  have lt32 : o1 < h0.size := P0.lt
  have ne33 : o1 ≠ b14 := Nat.ne_of_lt (Nat.lt_of_lt_of_le lt32 sz_b14)
  have f34 := (f17.other W31 (Or.inl ne33))
  obtain ⟨T35, X35, e35, st35⟩ := yag X31 hx hZ hown hby (w_49 hw) e31 f34 45 (l467_1 o1 b14) [(.int 1)] d11_45 d11_46 rfl
  have f36 := (f19.other W31 (Or.inl ne33))
  have f37 := ((P0.ext E14).wr W31)
  obtain ⟨T38, h38, X38, e38, W38, st38⟩ := yp X35 hx hZ hown hby (w_40 hw) e35 f36 f37 (w_41 hw) (w_32 hw) (ty := (.array (.object cn6))) (v := (.ref b14)) (by decide) rfl rfl 89 (l467_1 o1 b14) [] d11_89
  have N38 := Fr.snoc X38 N31 g_o1
  have Fw38 := f36.same W38
  have f39 := (((P4.ext E14).other W31 (Or.inl ne33)).other W38 (Or.inr (sn47 hw)))
  have f40 := (f37.wr W38)
  obtain ⟨T41, h41, X41, e41, W41, st41⟩ := yp X38 hx hZ hown hby (w_51 hw) e38 f39 f40 (w_52 hw) (w_32 hw) (ty := .int) (v := (.int 4)) (by decide) rfl rfl 94 (l467_1 o1 b14) [] d11_94
  have N41 := Fr.snoc X41 N38 g_o1
  have Fw41 := f39.same W41
  have f42 := (((f15.other W31 (Or.inl ne33)).other W38 (Or.inr (sn46 hw))).other W41 (Or.inr (sn49 hw)))
  have f43 := (f40.wr W41)
  obtain ⟨T44, h44, X44, e44, W44, st44⟩ := yp X41 hx hZ hown hby (w_47 hw) e41 f42 f43 (w_48 hw) (w_32 hw) (ty := .int) (v := (.int 4)) (by decide) rfl rfl 99 (l467_1 o1 b14) [] d11_99
  have N44 := Fr.snoc X44 N41 g_o1
  have Fw44 := f42.same W44
  have f45 := (((f34.other W38 (Or.inr (sn45 hw))).other W41 (Or.inr (sn50 hw))).other W44 (Or.inr (sn51 hw)))
  have f46 := (f43.wr W44)
  obtain ⟨T47, h47, X47, e47, W47, st47⟩ := yp X44 hx hZ hown hby (w_49 hw) e44 f45 f46 (w_50 hw) (w_32 hw) (ty := .int) (v := (.int 5)) (by decide) rfl rfl 105 (l467_1 o1 b14) [] d11_105
  have N47 := Fr.snoc X47 N44 g_o1
  have Fw47 := f45.same W47
  have f48 := ((((((P5.ext E14).other W31 (Or.inl ne33)).other W38 (Or.inr (sn48 hw))).other W41 (Or.inr (sn52 hw))).other W44 (Or.inr (sn53 hw))).other W47 (Or.inr (sn54 hw)))
  have f49 := (f46.wr W47)
  obtain ⟨T50, h50, X50, e50, W50, st50⟩ := yp X47 hx hZ hown hby (w_53 hw) e47 f48 f49 (w_54 hw) (w_32 hw) (ty := .int) (v := (.int 0)) (by decide) rfl rfl 110 (l467_1 o1 b14) [] d11_110
  have N50 := Fr.snoc X50 N47 g_o1
  have Fw50 := f48.same W50
  obtain ⟨fs, hr, hrun, hended, hW, hsame⟩ := X50.leave (v := none) (fun _ => rfl)
  have KL : Keep h0 h50 [o1] := ((((((((Keep.refl h0 [o1]).ext E14).wr W31 (Or.inr (Nat.le_trans (Nat.le_refl _) sz_b14))).wr W38 (Or.inl (List.mem_of_getElem? (i := 0) rfl))).wr W41 (Or.inl (List.mem_of_getElem? (i := 0) rfl))).wr W44 (Or.inl (List.mem_of_getElem? (i := 0) rfl))).wr W47 (Or.inl (List.mem_of_getElem? (i := 0) rfl))).wr W50 (Or.inl (List.mem_of_getElem? (i := 0) rfl)))
  have f51 := (f49.wr W50)
  have f52 := (((((((P1.ext E14).other W31 (Or.inl ne33)).other W38 (Or.inr (sn44 hw))).other W41 (Or.inr (sn55 hw))).other W44 (Or.inr (sn56 hw))).other W47 (Or.inr (sn57 hw))).other W50 (Or.inr (sn58 hw)))
  have f53 := (Fw47.other W50 (Or.inr (sn59 hw)))
  have f54 := ((Fw44.other W47 (Or.inr (sn61 hw))).other W50 (Or.inr (sn62 hw)))
  have f55 := (((Fw41.other W44 (Or.inr (sn64 hw))).other W47 (Or.inr (sn65 hw))).other W50 (Or.inr (sn66 hw)))
  have f56 := ((((Fw38.other W41 (Or.inr (sn69 hw))).other W44 (Or.inr (sn70 hw))).other W47 (Or.inr (sn71 hw))).other W50 (Or.inr (sn72 hw)))
  have f57 := (((((V31.other W38 (Ne.symm ne33)).other W41 (Ne.symm ne33)).other W44 (Ne.symm ne33)).other W47 (Ne.symm ne33)).other W50 (Ne.symm ne33))
  have f58 := ((((((EX14.wr W31).wr W38).wr W41).wr W44).wr W47).wr W50)
  refine ⟨_, _, pre5 _ ?_, hrun, hended, _, _, rfl, ?_, ⟨_, rfl⟩, hW, hsame.mono (by decide) (by decide)⟩
  ·
   refine st4 _ ?_
   refine yit X4 hx hby d11_10 (l' := (l467_4 o1)) rfl ?_
   refine st12 _ ?_
   refine yfn X12 hx hby d11_15 ((if0 _ _).trans (feq (by decide : ¬ ((1 : Int32) = (0 : Int32)))).1) ?_
   refine yin X12 hx hby d11_18 rfl ?_
   refine ygo X12 hx hby 19 23 rfl d11_19 (by decide) ?_
   refine yit X12 hx hby d11_23 (l' := (l467_3 o1)) rfl ?_
   refine yin X12 hx hby d11_24 rfl ?_
   refine yin X12 hx hby d11_25 rfl ?_
   refine yad X12 hx hby d11_26 ?_
   refine yin X12 hx hby d11_27 rfl ?_
   refine yad X12 hx hby d11_28 ?_
   refine st14 _ ?_
   refine XS.astore X14.here hx rfl (hb hby d11_32) rfl rfl (l' := #[.val (.ref o1), .val (.int (((1 : Int32) - (0 : Int32)) - (0 : Int32))), .val (.int 4), .val (.int 4), .val (.ref b14), .unset, .unset]) rfl ?_
   refine yin X14 hx hby d11_34 rfl ?_
   refine yis X14 hx hby d11_35 (l' := (l467_2 o1 b14)) rfl ?_
   refine st16 _ ?_
   refine yis X16 hx hby d11_41 (l' := (l467_0 o1 b14)) rfl ?_
   refine yil X16 hx hby d11_43 rfl ?_
   refine st18 _ ?_
   refine yno X18 hx hby d11_49 (tlt (by decide : (0 : Int32) < (1 : Int32))).2.1 ?_
   refine st20 _ ?_
   refine yil X20 hx hby d11_56 rfl ?_
   refine X20.aaload hx (j := (0 : Int32)) (v := (.ref o4)) (by rw [e20]; exact Ar22.1) (State.isArrayOf_alike hZ.alike Ar22.2.1) rfl Ar22.2.2 hin22 hat22 (g := (mkF m 58 (l467_0 o1 b14) [(.int 0), (.ref o2)])) rfl rfl (hb hby d11_58) _ ?_
   refine st25 _ ?_
   refine yfn X25 hx hby d11_62 ((if0 _ _).trans (feq (by decide : ¬ ((1 : Int32) = (0 : Int32)))).1) ?_
   refine yal X25 hx hby d11_65 rfl rfl ?_
   refine yil X25 hx hby d11_67 rfl ?_
   refine st28 _ ?_
   refine yil X28 hx hby d11_73 rfl ?_
   show Steps p.tables e below (T28.setTop (mkF m 75 (l467_0 o1 b14) [(.int 0), (.ref o2), (.int 4), (.ref b14)])) _
   refine X28.aaload hx (j := (0 : Int32)) (v := (.ref o4)) (by rw [e28]; exact Ar29.1) (State.isArrayOf_alike hZ.alike Ar29.2.1) rfl Ar29.2.2 hin29 hat29 (g := (mkF m 75 (l467_0 o1 b14) [(.int 0), (.ref o2), (.int 4), (.ref b14)])) rfl rfl (hb hby d11_75) _ ?_
   refine st31 _ ?_
   refine XS.iinc X31.here hx rfl (hb hby d11_77) rfl (l' := #[.val (.ref o1), .val (.int (((1 : Int32) - (0 : Int32)) - (0 : Int32))), .val (.int 4), .val (.int 4), .val (.ref b14), .val (.int 5), .val (.int 0)]) rfl ?_
   refine XS.iinc X31.here hx rfl (hb hby d11_80) rfl (l' := (l467_1 o1 b14)) rfl ?_
   refine ygo X31 hx hby 83 43 rfl d11_83 (by decide) ?_
   refine yil X31 hx hby d11_43 rfl ?_
   refine st35 _ ?_
   refine yye X35 hx hby 49 86 rfl d11_49 (flt (by decide : ¬ ((1 : Int32) < (1 : Int32)))).2.1 (by decide) ?_
   refine yan X35 hx hby d11_86 rfl rfl ?_
   refine yal X35 hx hby d11_87 rfl rfl ?_
   refine st38 _ ?_
   refine yan X38 hx hby d11_92 rfl rfl ?_
   refine yin X38 hx hby d11_93 rfl ?_
   refine st41 _ ?_
   refine yan X41 hx hby d11_97 rfl rfl ?_
   refine yin X41 hx hby d11_98 rfl ?_
   refine st44 _ ?_
   refine yan X44 hx hby d11_102 rfl rfl ?_
   refine yil X44 hx hby d11_103 rfl ?_
   refine st47 _ ?_
   refine yan X47 hx hby d11_108 rfl rfl ?_
   refine yic X47 hx hby d11_109 ?_
   refine st50 _ ?_
   show Steps p.tables e below (T50.setTop (mkF m 113 (l467_1 o1 b14) [])) _
   exact X50.returnOut hx hret (hb hby d11_113) hr
  ·
   show Q34 Z o1 o2 o4 kc3 h0 n0 _ T50.heap _
   rw [e50]
   exact ⟨b14, k14, rfl, N50, KL, (Nat.le_trans (Nat.le_refl _) sz_b14), OV14, f51, f52, f53, f54, f55, Fw50, f56, f57, f58⟩
def l468_0 (o1 o2 : Addr) : Array Slot := #[.val (.ref o1), .val (.ref o2)]
theorem ef35 (m : MethodId) (x0 x1 : Addr) : entryFrame m #[(.ref x0), (.ref x1)] 2 = mkF m 0 #[.val (.ref x0), .val (.ref x1)] [] := by first | (simp [entryFrame, mkF, argsToLocals, Value.category]; done) | rfl
def Q35 (Z : State) (o1 o2 : Addr) (o3 o5 : Addr) (kc4 : ClassId) (h0 : Heap) (n0 : Nat) (v : Option Value) (h : Heap) (L : List Loc) : Prop :=
  (∃ b16 : Addr, ∃ k17 : ClassId, v = none ∧ Fr n0 L ∧ Keep h0 h [o1] ∧ h0.size ≤ b16 ∧ Ovr Z k17 cn6 ∧ (Exa Z h o1 cn7) ∧ (Fld Z h o1 cn7 "addsFirst" "Z" (.int 1)) ∧ (Fld Z h o1 cn7 "end" "I" (.int 5)) ∧ (Fld Z h o1 cn7 "first" "I" (.int 3)) ∧ (Fld Z h o1 cn7 "low" "I" (.int 3)) ∧ (Fld Z h o1 cn7 "removed" "I" (.int 0)) ∧ (Fld Z h o1 cn7 "slots" cn3 (.ref b16)) ∧ (Arv Z h b16 k17 (.object cn6) (9 : Int32) [.null, .null, .null, (.ref o2), (.ref o5), .null, .null, .null, .null] .null) ∧ (Exa Z h b16 cn3))
set_option maxRecDepth 65536 in
set_option maxHeartbeats 40000000 in
theorem rm35 (l : Launch) (Z : State) (a0 : Array Value) (hw : HW a0 Z) (ws : List Jvm.Cond) (o1 o2 : Addr) (o3 o5 : Addr) (kc4 : ClassId) (h0 : Heap) (n0 : Nat) (O0 : Old Z n0 h0) (g_o1 : n0 ≤ o1) (g_o2 : n0 ≤ o2) (g_o3 : n0 ≤ o3) (g_o5 : n0 ≤ o5) (Ov_kc4 : Ovr Z kc4 cn6) (P0 : Exa Z h0 o1 cn7) (P1 : Fld Z h0 o1 cn7 "addsFirst" "Z" (.int 0)) (P2 : Fld Z h0 o1 cn7 "end" "I" (.int 1)) (P3 : Fld Z h0 o1 cn7 "first" "I" (.int 0)) (P4 : Fld Z h0 o1 cn7 "low" "I" (.int 0)) (P5 : Fld Z h0 o1 cn7 "removed" "I" (.int 0)) (P6 : Fld Z h0 o1 cn7 "slots" cn3 (.ref o3)) (P7 : Exa Z h0 o2 cn6) (P9 : Arv Z h0 o3 kc4 (.object cn6) (4 : Int32) [(.ref o5), .null, .null, .null] .null) (P10 : Exa Z h0 o3 cn3) (P11 : Exa Z h0 o5 cn6) (P12 : Fld Z h0 o5 cn6 "removed" "J" (.long 9223372036854775807)) :
    MF l yn13 prog_41_method_7_code 2 none ws ({ frames := 2, cells := 1, slots := 9, locals := 31 } : Room) #[(.ref o1), (.ref o2)] Z h0 (Q35 Z o1 o2 o3 o5 kc4 h0 n0) := by
 refine MetFree.of_bodySF (plainFor_of_name pn1) hisR ?_
 intro p e s m args below meth c s₁ Bd hml hP hK
 obtain ⟨rfl, hZ, hh⟩ := hP
 obtain ⟨hx, hby, hown, hret, hlk, X0, e0, N0⟩ := own_bd Bd hh n0
 have pre0 := own_ct s₁ (p := p) (e := e) (below := below) (ef35 m o1 o2)
 obtain ⟨T1, h1, X1, e1, W1, st1⟩ := putFN X0 hx hZ hown (own_w hw 55 rfl) Via.refl e0 P1 P0 (Or.inl (w_56 hw)) (w_32 hw) (ty := .boolean) (v' := (.int 1)) (by decide) rfl (by decide) (g := (mkF m 2 (l468_0 o1 o2) [(.int 1), (.ref o1)])) rfl rfl (hb hby d13_2)
 have N1 := Fr.snoc X1 N0 g_o1
 have Fw1 := P1.same W1
 have M1 : h0.size ≤ h1.size := Nat.le_trans (Nat.le_refl _) (Nat.le_of_eq W1.size.symm)
 have O1 := Old.wr O0 W1 g_o1
 have f2 := (P4.other W1 (Or.inr (sn67 hw)))
 obtain ⟨T3, X3, e3, st3⟩ := yag X1 hx hZ hown hby (w_51 hw) e1 f2 5 (l468_0 o1 o2) [] d13_5 d13_6 rfl
 have f4 := (P0.wr W1)
 have f5 := (P2.other W1 (Or.inr (sn60 hw)))
 have f6 := (P3.other W1 (Or.inr (sn63 hw)))
 have f7 := (P5.other W1 (Or.inr (sn68 hw)))
 have f8 := (P6.other W1 (Or.inr (sn73 hw)))
 have f9 := (P10.wr W1)
 have ne10 : o3 ≠ o1 := ne_exa f9 f4 (by decide)
 have f11 := (P9.other W1 ne10)
 have f12 := (P11.wr W1)
 have ne13 : o5 ≠ o1 := ne_exa f12 f4 (by decide)
 have f14 := (P12.other W1 (Or.inl ne13))
 obtain ⟨_, T15, L15, X15, hQ15, st15⟩ := own_pb X3 hx hZ hown (y := yn11) (own_w hw 96 rfl) (own_w hw 97 rfl) (own_selp (mvT hZ (own_w hw 45 rfl)) rfl (Cond.privateMethod_at (mvP hZ (own_w hw 98 rfl) (args := #[]))) (mvT hZ (own_w hw 97 rfl)) (by decide)) (own_w hw 98 rfl) (own_w hw 99 rfl) (w_33 hw) e3 f4 (argsL := []) (rest := []) (rm34 l Z a0 hw [] o1 o3 o5 kc4 h1 n0 O1 g_o1 g_o3 g_o5 Ov_kc4 f4 Fw1 f5 f6 f2 f7 f8 f11 f12 f14) (g := (mkF m 13 (l468_0 o1 o2) [(.ref o1)])) rfl (by rw [hml]; rfl) rfl (hb hby d13_13) (lenOf pd1 rfl) (W := 0) (c1 := 1) (s1 := 9)
 obtain ⟨b16, k17, rfl, Nq18, K19, sz_b16, OV20, f21, f22, f23, f24, f25, f26, f27, f28, f29⟩ := hQ15
 have N15 := Fr.app N1 Nq18
 have g_b16 : n0 ≤ b16 := Nat.le_trans (own_oz O1) sz_b16
 obtain ⟨T30, X30, e30, st30⟩ := yg X15 hx hZ hown hby (w_53 hw) rfl f26 18 (l468_0 o1 o2) [(.ref o1)] d13_18
 obtain ⟨T31, X31, e31, st31⟩ := yag X30 hx hZ hown hby (w_47 hw) e30 f24 21 (l468_0 o1 o2) [(.int 0), (.ref o1)] d13_21 d13_22 rfl
 obtain ⟨T32, X32, e32, st32⟩ := yag X31 hx hZ hown hby (w_51 hw) e31 f25 25 (l468_0 o1 o2) [(.int 4), (.int 0), (.ref o1)] d13_25 d13_26 rfl
 obtain ⟨T33, h33, X33, e33, W33, st33⟩ := yp X32 hx hZ hown hby (w_53 hw) e32 f26 f21 (w_54 hw) (w_32 hw) (ty := .int) (v := (.int 0)) (by decide) rfl rfl 31 (l468_0 o1 o2) [] d13_31
 have N33 := Fr.snoc X33 N15 g_o1
 have Fw33 := f26.same W33
 have f34 := (f25.other W33 (Or.inr (sn66 hw)))
 obtain ⟨T35, X35, e35, st35⟩ := yg X33 hx hZ hown hby (w_51 hw) e33 f34 36 (l468_0 o1 o2) [(.ref o1)] d13_36
 have f36 := (f21.wr W33)
 obtain ⟨T37, h37, X37, e37, W37, st37⟩ := yp X35 hx hZ hown hby (w_51 hw) e35 f34 f36 (w_52 hw) (w_32 hw) (ty := .int) (v := (.int 3)) (by decide) rfl rfl 41 (l468_0 o1 o2) [] d13_41
 have N37 := Fr.snoc X37 N33 g_o1
 have Fw37 := f34.same W37
 have f38 := ((f27.other W33 (Or.inr (sn72 hw))).other W37 (Or.inr (sn69 hw)))
 obtain ⟨T39, X39, e39, st39⟩ := yag X37 hx hZ hown hby (w_40 hw) e37 f38 44 (l468_0 o1 o2) [] d13_44 d13_45 rfl
 obtain ⟨T40, X40, e40, st40⟩ := yag X39 hx hZ hown hby (w_51 hw) e39 Fw37 48 (l468_0 o1 o2) [(.ref b16)] d13_48 d13_49 rfl
 have lt41 : o1 < h1.size := (Nat.lt_of_lt_of_le P0.lt (Nat.le_of_eq W1.size.symm))
 have ne42 : o1 ≠ b16 := Nat.ne_of_lt (Nat.lt_of_lt_of_le lt41 sz_b16)
 have f43 := ((f28.other W33 (Ne.symm ne42)).other W37 (Ne.symm ne42))
 obtain ⟨cl44, Ar44, qa44, Sa44, Na44, Ha44, Ga44⟩ := id (f43)
 have hin44 := inb_of (j := (3 : Int32)) Sa44 ⟨by decide, by decide⟩
 have f45 := ((((P7.wr W1).keep K19).wr W33).wr W37)
 obtain ⟨T46, h46, X46, e46, W46, st46⟩ := stR X40 hx hZ e40 Ar44 (j := (3 : Int32)) hin44 rfl (Sto.ofV Ar44 qa44 OV20 (Ins.self f45)) (g := (mkF m 53 (l468_0 o1 o2) [(.ref o2), (.int 3), (.ref b16)])) rfl rfl (hb hby d13_53)
 have V46 : Arv Z h46 b16 k17 (.object cn6) (9 : Int32) [.null, .null, .null, (.ref o2), (.ref o5), .null, .null, .null, .null] .null := Arv.set Ar44 qa44 Sa44 Na44 Ha44 Ga44 rfl W46 3 rfl (Nat.le_of_ble_eq_true rfl)
 have N46 := Fr.snoc X46 N37 g_b16
 have f47 := (Fw37.other W46 (Or.inl ne42))
 obtain ⟨T48, X48, e48, st48⟩ := yag X46 hx hZ hown hby (w_51 hw) e46 f47 55 (l468_0 o1 o2) [(.ref o1)] d13_55 d13_56 rfl
 have f49 := (((f24.other W33 (Or.inr (sn62 hw))).other W37 (Or.inr (sn49 hw))).other W46 (Or.inl ne42))
 have f50 := ((f36.wr W37).wr W46)
 obtain ⟨T51, h51, X51, e51, W51, st51⟩ := yp X48 hx hZ hown hby (w_47 hw) e48 f49 f50 (w_48 hw) (w_32 hw) (ty := .int) (v := (.int 3)) (by decide) rfl rfl 59 (l468_0 o1 o2) [] d13_59
 have N51 := Fr.snoc X51 N46 g_o1
 have Fw51 := f49.same W51
 obtain ⟨fs, hr, hrun, hended, hW, hsame⟩ := X51.leave (v := none) (fun _ => rfl)
 have KL : Keep h0 h51 [o1] := (((((((Keep.refl h0 [o1]).wr W1 (Or.inl (List.mem_of_getElem? (i := 0) rfl))).trans K19 (allS (Or.inl (List.mem_of_getElem? (i := 0) rfl)) all0)).wr W33 (Or.inl (List.mem_of_getElem? (i := 0) rfl))).wr W37 (Or.inl (List.mem_of_getElem? (i := 0) rfl))).wr W46 (Or.inr (Nat.le_trans M1 sz_b16))).wr W51 (Or.inl (List.mem_of_getElem? (i := 0) rfl)))
 have f52 := (f50.wr W51)
 have f53 := ((((f22.other W33 (Or.inr (sn58 hw))).other W37 (Or.inr (sn55 hw))).other W46 (Or.inl ne42)).other W51 (Or.inr (sn56 hw)))
 have f54 := ((((f23.other W33 (Or.inr (sn59 hw))).other W37 (Or.inr (sn50 hw))).other W46 (Or.inl ne42)).other W51 (Or.inr (sn51 hw)))
 have f55 := (f47.other W51 (Or.inr (sn64 hw)))
 have f56 := (((Fw33.other W37 (Or.inr (sn52 hw))).other W46 (Or.inl ne42)).other W51 (Or.inr (sn53 hw)))
 have f57 := ((f38.other W46 (Or.inl ne42)).other W51 (Or.inr (sn70 hw)))
 have f58 := (V46.other W51 (Ne.symm ne42))
 have f59 := ((((f29.wr W33).wr W37).wr W46).wr W51)
 refine ⟨_, _, pre0 _ ?_, hrun, hended, _, _, rfl, ?_, ⟨_, rfl⟩, hW, hsame.mono (by decide) (by decide)⟩
 ·
  refine yan X0 hx hby d13_0 rfl rfl ?_
  refine yic X0 hx hby d13_1 ?_
  refine st1 _ ?_
  refine st3 _ ?_
  refine yfn X3 hx hby d13_9 ((if0 _ _).trans (teq (by decide : (0 : Int32) = (0 : Int32))).2) ?_
  refine yan X3 hx hby d13_12 rfl rfl ?_
  refine st15 _ ?_
  refine yan X15 hx hby d13_16 rfl rfl ?_
  refine XS.dup X15.here hx rfl (hb hby d13_17) rfl rfl ?_
  refine st30 _ ?_
  refine st31 _ ?_
  refine st32 _ ?_
  refine ysu X32 hx hby d13_29 ?_
  refine yad X32 hx hby d13_30 ?_
  refine st33 _ ?_
  refine yan X33 hx hby d13_34 rfl rfl ?_
  refine XS.dup X33.here hx rfl (hb hby d13_35) rfl rfl ?_
  refine st35 _ ?_
  refine yic X35 hx hby d13_39 ?_
  refine ysu X35 hx hby d13_40 ?_
  refine st37 _ ?_
  refine st39 _ ?_
  refine st40 _ ?_
  refine yan X40 hx hby d13_52 rfl rfl ?_
  refine st46 _ ?_
  refine yan X46 hx hby d13_54 rfl rfl ?_
  refine st48 _ ?_
  refine st51 _ ?_
  show Steps p.tables e below (T51.setTop (mkF m 62 (l468_0 o1 o2) [])) _
  exact X51.returnOut hx hret (hb hby d13_62) hr
 ·
  show Q35 Z o1 o2 o3 o5 kc4 h0 n0 _ T51.heap _
  rw [e51]
  exact ⟨b16, k17, rfl, N51, KL, (Nat.le_trans M1 sz_b16), OV20, f52, f53, f54, Fw51, f55, f56, f57, f58, f59⟩
def l469_0 (o1 : Addr) (q2 : Int64) : Array Slot := #[.val (.ref o1), .val (.long q2), .second, .val (.int 3)]
def l469_1 (o1 : Addr) (q2 : Int64) : Array Slot := #[.val (.ref o1), .val (.long q2), .second, .val (.int 4)]
def l469_2 (o1 : Addr) (q2 : Int64) : Array Slot := #[.val (.ref o1), .val (.long q2), .second, .val (.int 5)]
theorem ef36 (m : MethodId) (x0 : Addr) (x1 : Int64) : entryFrame m #[(.ref x0), (.long x1)] 4 = mkF m 0 #[.val (.ref x0), .val (.long x1), .second, .unset] [] := by first | (simp [entryFrame, mkF, argsToLocals, Value.category]; done) | rfl
def Q36 (Z : State) (w1 : Addr) (kw1 : ClassId) (o1 o6 : Addr) (o8 o9 : Addr) (kc7 : ClassId) (p3 p4 p5 : Int32) (q2 : Int64) (h0 : Heap) (n0 : Nat) (v : Option Value) (h : Heap) (L : List Loc) : Prop :=
  (v = none ∧ Fr n0 L ∧ Keep h0 h [o8, o9, o1] ∧ (Exa Z h o8 cn6) ∧ (Fld Z h o8 cn6 "removed" "J" (.long q2)) ∧ (Exa Z h o9 cn6) ∧ (Fld Z h o9 cn6 "removed" "J" (.long q2)) ∧ (Exa Z h o1 cn7) ∧ (Fld Z h o1 cn7 "addsFirst" "Z" (.int 0)) ∧ (Fld Z h o1 cn7 "end" "I" (.int 0)) ∧ (Fld Z h o1 cn7 "first" "I" (.int 0)) ∧ (Fld Z h o1 cn7 "low" "I" (.int 0)) ∧ (Fld Z h o1 cn7 "removed" "I" (.int 0)) ∧ (Fld Z h o1 cn7 "slots" cn3 (.ref w1)))
set_option maxRecDepth 65536 in
set_option maxHeartbeats 40000000 in
theorem rm36 (l : Launch) (Z : State) (a0 : Array Value) (hw : HW a0 Z) (w1 : Addr) (kw1 : ClassId) (G : GW Z w1 kw1) (ws : List Jvm.Cond) (o1 o6 : Addr) (o8 o9 : Addr) (kc7 : ClassId) (p3 p4 p5 : Int32) (q2 : Int64) (h0 : Heap) (n0 : Nat) (O0 : Old Z n0 h0) (g_o1 : n0 ≤ o1) (g_o6 : n0 ≤ o6) (g_o8 : n0 ≤ o8) (g_o9 : n0 ≤ o9) (ne_o9_o8 : o9 ≠ o8) (Ov_kc7 : Ovr Z kc7 cn6) (P0 : Exa Z h0 o1 cn7) (P1 : Fld Z h0 o1 cn7 "addsFirst" "Z" (.int p3)) (P2 : Fld Z h0 o1 cn7 "end" "I" (.int 5)) (P3 : Fld Z h0 o1 cn7 "first" "I" (.int 3)) (P4 : Fld Z h0 o1 cn7 "low" "I" (.int p4)) (P5 : Fld Z h0 o1 cn7 "removed" "I" (.int p5)) (P6 : Fld Z h0 o1 cn7 "slots" cn3 (.ref o6)) (P7 : Arv Z h0 o6 kc7 (.object cn6) (9 : Int32) [.null, .null, .null, (.ref o8), (.ref o9), .null, .null, .null, .null] .null) (P8 : Exa Z h0 o6 cn3) (P9 : Exa Z h0 o8 cn6) (P10 : Fld Z h0 o8 cn6 "removed" "J" (.long 9223372036854775807)) (P11 : Exa Z h0 o9 cn6) (P12 : Fld Z h0 o9 cn6 "removed" "J" (.long 9223372036854775807)) :
    MF l yn2 prog_41_method_9_code 4 none ws ({ frames := 1, cells := 0, slots := 0, locals := 14 } : Room) #[(.ref o1), (.long q2)] Z h0 (Q36 Z w1 kw1 o1 o6 o8 o9 kc7 p3 p4 p5 q2 h0 n0) := by
 obtain ⟨S_w1, A_w1⟩ := id G
 refine MetFree.of_bodySF (plainFor_of_name pn1) hisR ?_
 intro p e s m args below meth c s₁ Bd hml hP hK
 obtain ⟨rfl, hZ, hh⟩ := hP
 obtain ⟨hx, hby, hown, hret, hlk, X0, e0, N0⟩ := own_bd Bd hh n0
 have pre0 := own_ct s₁ (p := p) (e := e) (below := below) (ef36 m o1 q2)
 obtain ⟨T1, X1, e1, st1⟩ := yag X0 hx hZ hown hby (w_47 hw) e0 P3 0 #[.val (.ref o1), .val (.long q2), .second, .unset] [] d2_0 d2_1 rfl
 obtain ⟨T2, X2, e2, st2⟩ := yag X1 hx hZ hown hby (w_49 hw) e1 P2 6 (l469_0 o1 q2) [(.int 3)] d2_6 d2_7 rfl
 obtain ⟨T3, X3, e3, st3⟩ := yag X2 hx hZ hown hby (w_40 hw) e2 P6 13 (l469_0 o1 q2) [] d2_13 d2_14 rfl
 obtain ⟨cl4, Ar4, qa4, Sa4, Na4, Ha4, Ga4⟩ := id (P7)
 have hin4 := inb_of (j := (3 : Int32)) Sa4 ⟨by decide, by decide⟩
 have hat4 : cl4.slots[((3 : Int32)).toNatClampNeg]? = some (.ref o8) := Has.at Ha4 hin4 rfl
 obtain ⟨_, T5, L5, X5, hQ5, st5⟩ := yv X3 hx hZ hown hby hml (y := yn7) (w_113 hw) (w_82 hw) (w_84 hw) (w_83 hw) (w_85 hw) (w_5 hw) e3 P9 [] [] (rm17 l Z a0 hw [] o8 ((9223372036854775807 : Int64)) h0 n0 O0 g_o8 (by decide : (9223372036854775807 : Int64) = (9223372036854775807 : Int64)) P10) 19 (l469_0 o1 q2) rfl d2_19 (lenOf pd5 rfl) 0 0 0
 obtain ⟨rfl, Nq6, e7⟩ := hQ5
 have N5 := Fr.app N0 Nq6
 obtain ⟨T8, X8, e8, st8⟩ := yag X5 hx hZ hown hby (w_40 hw) e7 P6 25 (l469_0 o1 q2) [] d2_25 d2_26 rfl
 obtain ⟨cl9, Ar9, qa9, Sa9, Na9, Ha9, Ga9⟩ := id (P7)
 have hin9 := inb_of (j := (3 : Int32)) Sa9 ⟨by decide, by decide⟩
 have hat9 : cl9.slots[((3 : Int32)).toNatClampNeg]? = some (.ref o8) := Has.at Ha9 hin9 rfl
 obtain ⟨_, T10, L10, X10, hQ10, st10⟩ := yv X8 hx hZ hown hby hml (y := yn14) (w_114 hw) (w_115 hw) (own_w hw 117 rfl) (w_116 hw) (w_118 hw) (w_5 hw) e8 P9 [(.long q2)] [] (rm18 l Z a0 hw [] o8 q2 h0 n0 O0 g_o8 P9 P10) 32 (l469_0 o1 q2) rfl d2_32 (lenOf pd2 rfl) 0 0 0
 obtain ⟨rfl, Nq11, K12, f13, f14⟩ := hQ10
 have N10 := Fr.app N5 Nq11
 have O10 := Old.keep O0 K12 (allS g_o8 all0)
 have f15 := (P0.keep K12)
 have ne16 : o1 ≠ o8 := ne_exa f15 f13 (by decide)
 have f17 := (P2.keep K12 (ninS ne16 nin0))
 obtain ⟨T18, X18, e18, st18⟩ := yag X10 hx hZ hown hby (w_49 hw) rfl f17 6 (l469_1 o1 q2) [(.int 4)] d2_6 d2_7 rfl
 have f19 := (P6.keep K12 (ninS ne16 nin0))
 obtain ⟨T20, X20, e20, st20⟩ := yag X18 hx hZ hown hby (w_40 hw) e18 f19 13 (l469_1 o1 q2) [] d2_13 d2_14 rfl
 have f21 := (P8.keep K12)
 have ne22 : o6 ≠ o8 := ne_exa f21 f13 (by decide)
 have f23 := (P7.keep K12 (ninS ne22 nin0))
 obtain ⟨cl24, Ar24, qa24, Sa24, Na24, Ha24, Ga24⟩ := id (f23)
 have hin24 := inb_of (j := (4 : Int32)) Sa24 ⟨by decide, by decide⟩
 have hat24 : cl24.slots[((4 : Int32)).toNatClampNeg]? = some (.ref o9) := Has.at Ha24 hin24 rfl
 have f25 := (P12.keep K12 (ninS ne_o9_o8 nin0))
 have f26 := (P11.keep K12)
 obtain ⟨_, T27, L27, X27, hQ27, st27⟩ := yv X20 hx hZ hown hby hml (y := yn7) (w_113 hw) (w_82 hw) (w_84 hw) (w_83 hw) (w_85 hw) (w_5 hw) e20 f26 [] [] (rm17 l Z a0 hw [] o9 ((9223372036854775807 : Int64)) T10.heap n0 O10 g_o9 (by decide : (9223372036854775807 : Int64) = (9223372036854775807 : Int64)) f25) 19 (l469_1 o1 q2) rfl d2_19 (lenOf pd5 rfl) 0 0 0
 obtain ⟨rfl, Nq28, e29⟩ := hQ27
 have N27 := Fr.app N10 Nq28
 obtain ⟨T30, X30, e30, st30⟩ := yag X27 hx hZ hown hby (w_40 hw) e29 f19 25 (l469_1 o1 q2) [] d2_25 d2_26 rfl
 obtain ⟨cl31, Ar31, qa31, Sa31, Na31, Ha31, Ga31⟩ := id (f23)
 have hin31 := inb_of (j := (4 : Int32)) Sa31 ⟨by decide, by decide⟩
 have hat31 : cl31.slots[((4 : Int32)).toNatClampNeg]? = some (.ref o9) := Has.at Ha31 hin31 rfl
 obtain ⟨_, T32, L32, X32, hQ32, st32⟩ := yv X30 hx hZ hown hby hml (y := yn14) (w_114 hw) (w_115 hw) (own_w hw 117 rfl) (w_116 hw) (w_118 hw) (w_5 hw) e30 f26 [(.long q2)] [] (rm18 l Z a0 hw [] o9 q2 T10.heap n0 O10 g_o9 f26 f25) 32 (l469_1 o1 q2) rfl d2_32 (lenOf pd2 rfl) 0 0 0
 obtain ⟨rfl, Nq33, K34, f35, f36⟩ := hQ32
 have N32 := Fr.app N27 Nq33
 have O32 := Old.keep O10 K34 (allS g_o9 all0)
 have f37 := (f15.keep K34)
 have ne38 : o1 ≠ o9 := ne_exa f37 f35 (by decide)
 have f39 := (f17.keep K34 (ninS ne38 nin0))
 obtain ⟨T40, X40, e40, st40⟩ := yag X32 hx hZ hown hby (w_49 hw) rfl f39 6 (l469_2 o1 q2) [(.int 5)] d2_6 d2_7 rfl
 obtain ⟨T41, X41, e41, st41⟩ := getS2 X40 hx hZ hown (host := "") (Or.inl (own_w hw 38 rfl)) Via.refl e40 (S_w1.ext O32.2) (g := (mkF m 42 (l469_2 o1 q2) [(.ref o1)])) rfl (hb hby d2_42)
 have f42 := (f19.keep K34 (ninS ne38 nin0))
 obtain ⟨T43, h43, X43, e43, W43, st43⟩ := yp X41 hx hZ hown hby (w_40 hw) e41 f42 f37 (w_41 hw) (w_32 hw) (ty := (.array (.object cn6))) (v := (.ref w1)) (by decide) rfl rfl 45 (l469_2 o1 q2) [] d2_45
 have N43 := Fr.snoc X43 N32 g_o1
 have Fw43 := f42.same W43
 have f44 := (((P4.keep K12 (ninS ne16 nin0)).keep K34 (ninS ne38 nin0)).other W43 (Or.inr (sn47 hw)))
 have f45 := (f37.wr W43)
 obtain ⟨T46, h46, X46, e46, W46, st46⟩ := yp X43 hx hZ hown hby (w_51 hw) e43 f44 f45 (w_52 hw) (w_32 hw) (ty := .int) (v := (.int 0)) (by decide) rfl rfl 50 (l469_2 o1 q2) [] d2_50
 have N46 := Fr.snoc X46 N43 g_o1
 have Fw46 := f44.same W46
 have f47 := ((((P3.keep K12 (ninS ne16 nin0)).keep K34 (ninS ne38 nin0)).other W43 (Or.inr (sn46 hw))).other W46 (Or.inr (sn49 hw)))
 have f48 := (f45.wr W46)
 obtain ⟨T49, h49, X49, e49, W49, st49⟩ := yp X46 hx hZ hown hby (w_47 hw) e46 f47 f48 (w_48 hw) (w_32 hw) (ty := .int) (v := (.int 0)) (by decide) rfl rfl 55 (l469_2 o1 q2) [] d2_55
 have N49 := Fr.snoc X49 N46 g_o1
 have Fw49 := f47.same W49
 have f50 := (((f39.other W43 (Or.inr (sn45 hw))).other W46 (Or.inr (sn50 hw))).other W49 (Or.inr (sn51 hw)))
 have f51 := (f48.wr W49)
 obtain ⟨T52, h52, X52, e52, W52, st52⟩ := yp X49 hx hZ hown hby (w_49 hw) e49 f50 f51 (w_50 hw) (w_32 hw) (ty := .int) (v := (.int 0)) (by decide) rfl rfl 60 (l469_2 o1 q2) [] d2_60
 have N52 := Fr.snoc X52 N49 g_o1
 have Fw52 := f50.same W52
 have f53 := ((((((P5.keep K12 (ninS ne16 nin0)).keep K34 (ninS ne38 nin0)).other W43 (Or.inr (sn48 hw))).other W46 (Or.inr (sn52 hw))).other W49 (Or.inr (sn53 hw))).other W52 (Or.inr (sn54 hw)))
 have f54 := (f51.wr W52)
 obtain ⟨T55, h55, X55, e55, W55, st55⟩ := yp X52 hx hZ hown hby (w_53 hw) e52 f53 f54 (w_54 hw) (w_32 hw) (ty := .int) (v := (.int 0)) (by decide) rfl rfl 65 (l469_2 o1 q2) [] d2_65
 have N55 := Fr.snoc X55 N52 g_o1
 have Fw55 := f53.same W55
 have f56 := (((((((P1.keep K12 (ninS ne16 nin0)).keep K34 (ninS ne38 nin0)).other W43 (Or.inr (sn44 hw))).other W46 (Or.inr (sn55 hw))).other W49 (Or.inr (sn56 hw))).other W52 (Or.inr (sn57 hw))).other W55 (Or.inr (sn58 hw)))
 have f57 := (f54.wr W55)
 obtain ⟨T58, h58, X58, e58, W58, st58⟩ := putFN X55 hx hZ hown (own_w hw 55 rfl) Via.refl e55 f56 f57 (Or.inl (w_56 hw)) (w_32 hw) (ty := .boolean) (v' := (.int 0)) (by decide) rfl (by decide) (g := (mkF m 70 (l469_2 o1 q2) [(.int 0), (.ref o1)])) rfl rfl (hb hby d2_70)
 have N58 := Fr.snoc X58 N55 g_o1
 have Fw58 := f56.same W58
 obtain ⟨fs, hr, hrun, hended, hW, hsame⟩ := X58.leave (v := none) (fun _ => rfl)
 have KL : Keep h0 h58 [o8, o9, o1] := (((((((((Keep.refl h0 [o8, o9, o1]).trans K12 (allS (Or.inl (List.mem_of_getElem? (i := 0) rfl)) all0)).trans K34 (allS (Or.inl (List.mem_of_getElem? (i := 1) rfl)) all0)).wr W43 (Or.inl (List.mem_of_getElem? (i := 2) rfl))).wr W46 (Or.inl (List.mem_of_getElem? (i := 2) rfl))).wr W49 (Or.inl (List.mem_of_getElem? (i := 2) rfl))).wr W52 (Or.inl (List.mem_of_getElem? (i := 2) rfl))).wr W55 (Or.inl (List.mem_of_getElem? (i := 2) rfl))).wr W58 (Or.inl (List.mem_of_getElem? (i := 2) rfl)))
 have f59 := (((((((f13.keep K34).wr W43).wr W46).wr W49).wr W52).wr W55).wr W58)
 have f60 := (((((((f14.keep K34 (ninS (Ne.symm ne_o9_o8) nin0)).other W43 (Or.inl (Ne.symm ne16))).other W46 (Or.inl (Ne.symm ne16))).other W49 (Or.inl (Ne.symm ne16))).other W52 (Or.inl (Ne.symm ne16))).other W55 (Or.inl (Ne.symm ne16))).other W58 (Or.inl (Ne.symm ne16)))
 have f61 := ((((((f35.wr W43).wr W46).wr W49).wr W52).wr W55).wr W58)
 have f62 := ((((((f36.other W43 (Or.inl (Ne.symm ne38))).other W46 (Or.inl (Ne.symm ne38))).other W49 (Or.inl (Ne.symm ne38))).other W52 (Or.inl (Ne.symm ne38))).other W55 (Or.inl (Ne.symm ne38))).other W58 (Or.inl (Ne.symm ne38)))
 have f63 := (f57.wr W58)
 have f64 := ((Fw52.other W55 (Or.inr (sn59 hw))).other W58 (Or.inr (sn60 hw)))
 have f65 := (((Fw49.other W52 (Or.inr (sn61 hw))).other W55 (Or.inr (sn62 hw))).other W58 (Or.inr (sn63 hw)))
 have f66 := ((((Fw46.other W49 (Or.inr (sn64 hw))).other W52 (Or.inr (sn65 hw))).other W55 (Or.inr (sn66 hw))).other W58 (Or.inr (sn67 hw)))
 have f67 := (Fw55.other W58 (Or.inr (sn68 hw)))
 have f68 := (((((Fw43.other W46 (Or.inr (sn69 hw))).other W49 (Or.inr (sn70 hw))).other W52 (Or.inr (sn71 hw))).other W55 (Or.inr (sn72 hw))).other W58 (Or.inr (sn73 hw)))
 refine ⟨_, _, pre0 _ ?_, hrun, hended, _, _, rfl, ?_, ⟨_, rfl⟩, hW, hsame.mono (by decide) (by decide)⟩
 ·
  refine st1 _ ?_
  refine yit X1 hx hby d2_4 (l' := (l469_0 o1 q2)) rfl ?_
  refine yin X1 hx hby d2_5 rfl ?_
  refine st2 _ ?_
  refine yno X2 hx hby d2_10 (tlt (by decide : (3 : Int32) < (5 : Int32))).2.1 ?_
  refine st3 _ ?_
  refine yin X3 hx hby d2_17 rfl ?_
  refine X3.aaload hx (j := (3 : Int32)) (v := (.ref o8)) (by rw [e3]; exact Ar4.1) (State.isArrayOf_alike hZ.alike Ar4.2.1) rfl Ar4.2.2 hin4 hat4 (g := (mkF m 18 (l469_0 o1 q2) [(.int 3), (.ref o6)])) rfl rfl (hb hby d2_18) _ ?_
  refine st5 _ ?_
  refine yfn X5 hx hby d2_22 ((if0 _ _).trans (feq (by decide : ¬ ((1 : Int32) = (0 : Int32)))).1) ?_
  refine st8 _ ?_
  refine yin X8 hx hby d2_29 rfl ?_
  refine X8.aaload hx (j := (3 : Int32)) (v := (.ref o8)) (by rw [e8]; exact Ar9.1) (State.isArrayOf_alike hZ.alike Ar9.2.1) rfl Ar9.2.2 hin9 hat9 (g := (mkF m 30 (l469_0 o1 q2) [(.int 3), (.ref o6)])) rfl rfl (hb hby d2_30) _ ?_
  refine XS.lloadN X8.here hx rfl (hb hby d2_31) rfl ?_
  refine st10 _ ?_
  refine XS.iinc X10.here hx rfl (hb hby d2_35) rfl (l' := (l469_1 o1 q2)) rfl ?_
  refine ygo X10 hx hby 38 5 rfl d2_38 (by decide) ?_
  refine yin X10 hx hby d2_5 rfl ?_
  refine st18 _ ?_
  refine yno X18 hx hby d2_10 (tlt (by decide : (4 : Int32) < (5 : Int32))).2.1 ?_
  refine st20 _ ?_
  refine yin X20 hx hby d2_17 rfl ?_
  refine X20.aaload hx (j := (4 : Int32)) (v := (.ref o9)) (by rw [e20]; exact Ar24.1) (State.isArrayOf_alike hZ.alike Ar24.2.1) rfl Ar24.2.2 hin24 hat24 (g := (mkF m 18 (l469_1 o1 q2) [(.int 4), (.ref o6)])) rfl rfl (hb hby d2_18) _ ?_
  refine st27 _ ?_
  refine yfn X27 hx hby d2_22 ((if0 _ _).trans (feq (by decide : ¬ ((1 : Int32) = (0 : Int32)))).1) ?_
  refine st30 _ ?_
  refine yin X30 hx hby d2_29 rfl ?_
  refine X30.aaload hx (j := (4 : Int32)) (v := (.ref o9)) (by rw [e30]; exact Ar31.1) (State.isArrayOf_alike hZ.alike Ar31.2.1) rfl Ar31.2.2 hin31 hat31 (g := (mkF m 30 (l469_1 o1 q2) [(.int 4), (.ref o6)])) rfl rfl (hb hby d2_30) _ ?_
  refine XS.lloadN X30.here hx rfl (hb hby d2_31) rfl ?_
  refine st32 _ ?_
  refine XS.iinc X32.here hx rfl (hb hby d2_35) rfl (l' := (l469_2 o1 q2)) rfl ?_
  refine ygo X32 hx hby 38 5 rfl d2_38 (by decide) ?_
  refine yin X32 hx hby d2_5 rfl ?_
  refine st40 _ ?_
  refine yye X40 hx hby 10 41 rfl d2_10 (flt (by decide : ¬ ((5 : Int32) < (5 : Int32)))).2.1 (by decide) ?_
  refine yan X40 hx hby d2_41 rfl rfl ?_
  refine st41 _ ?_
  refine st43 _ ?_
  refine yan X43 hx hby d2_48 rfl rfl ?_
  refine yic X43 hx hby d2_49 ?_
  refine st46 _ ?_
  refine yan X46 hx hby d2_53 rfl rfl ?_
  refine yic X46 hx hby d2_54 ?_
  refine st49 _ ?_
  refine yan X49 hx hby d2_58 rfl rfl ?_
  refine yic X49 hx hby d2_59 ?_
  refine st52 _ ?_
  refine yan X52 hx hby d2_63 rfl rfl ?_
  refine yic X52 hx hby d2_64 ?_
  refine st55 _ ?_
  refine yan X55 hx hby d2_68 rfl rfl ?_
  refine yic X55 hx hby d2_69 ?_
  refine st58 _ ?_
  show Steps p.tables e below (T58.setTop (mkF m 73 (l469_2 o1 q2) [])) _
  exact X58.returnOut hx hret (hb hby d2_73) hr
 ·
  show Q36 Z w1 kw1 o1 o6 o8 o9 kc7 p3 p4 p5 q2 h0 n0 _ T58.heap _
  rw [e58]
  exact ⟨rfl, N58, KL, f59, f60, f61, f62, f63, Fw58, f64, f65, f66, f67, f68⟩
def l470_0 (o1 o2 : Addr) (q3 : Int64) : Array Slot := #[.val (.ref o1), .val (.ref o2), .val (.long q3), .second]
theorem ef37 (m : MethodId) (x0 x1 : Addr) (x2 : Int64) : entryFrame m #[(.ref x0), (.ref x1), (.long x2)] 4 = mkF m 0 #[.val (.ref x0), .val (.ref x1), .val (.long x2), .second] [] := by first | (simp [entryFrame, mkF, argsToLocals, Value.category]; done) | rfl
def Q37 (Z : State) (o1 o2 : Addr) (o4 o6 : Addr) (kc5 : ClassId) (q3 : Int64) (h0 : Heap) (n0 : Nat) (v : Option Value) (h : Heap) (L : List Loc) : Prop :=
  (v = none ∧ Fr n0 L ∧ Keep h0 h [o2, o1] ∧ (Exa Z h o2 cn6) ∧ (Fld Z h o2 cn6 "removed" "J" (.long q3)) ∧ (Exa Z h o1 cn7) ∧ (Fld Z h o1 cn7 "addsFirst" "Z" (.int 1)) ∧ (Fld Z h o1 cn7 "end" "I" (.int 5)) ∧ (Fld Z h o1 cn7 "first" "I" (.int 4)) ∧ (Fld Z h o1 cn7 "low" "I" (.int 3)) ∧ (Fld Z h o1 cn7 "removed" "I" (.int 0)) ∧ (Fld Z h o1 cn7 "slots" cn3 (.ref o4)))
set_option maxRecDepth 65536 in
set_option maxHeartbeats 40000000 in
theorem rm37 (l : Launch) (Z : State) (a0 : Array Value) (hw : HW a0 Z) (ws : List Jvm.Cond) (o1 o2 : Addr) (o4 o6 : Addr) (kc5 : ClassId) (q3 : Int64) (h0 : Heap) (n0 : Nat) (O0 : Old Z n0 h0) (g_o1 : n0 ≤ o1) (g_o2 : n0 ≤ o2) (g_o4 : n0 ≤ o4) (g_o6 : n0 ≤ o6) (ne_o6_o2 : o6 ≠ o2) (Ov_kc5 : Ovr Z kc5 cn6) (hp0 : ¬ (q3 = (9223372036854775807 : Int64))) (P0 : Exa Z h0 o1 cn7) (P1 : Fld Z h0 o1 cn7 "addsFirst" "Z" (.int 1)) (P2 : Fld Z h0 o1 cn7 "end" "I" (.int 5)) (P3 : Fld Z h0 o1 cn7 "first" "I" (.int 3)) (P4 : Fld Z h0 o1 cn7 "low" "I" (.int 3)) (P5 : Fld Z h0 o1 cn7 "removed" "I" (.int 0)) (P6 : Fld Z h0 o1 cn7 "slots" cn3 (.ref o4)) (P7 : Exa Z h0 o2 cn6) (P8 : Fld Z h0 o2 cn6 "removed" "J" (.long 9223372036854775807)) (P9 : Arv Z h0 o4 kc5 (.object cn6) (9 : Int32) [.null, .null, .null, (.ref o2), (.ref o6), .null, .null, .null, .null] .null) (P10 : Exa Z h0 o4 cn3) (P11 : Exa Z h0 o6 cn6) (P12 : Fld Z h0 o6 cn6 "removed" "J" (.long 9223372036854775807)) :
    MF l yn15 prog_41_method_8_code 4 none ws ({ frames := 1, cells := 0, slots := 0, locals := 14 } : Room) #[(.ref o1), (.ref o2), (.long q3)] Z h0 (Q37 Z o1 o2 o4 o6 kc5 q3 h0 n0) := by
 refine MetFree.of_bodySF (plainFor_of_name pn1) hisR ?_
 intro p e s m args below meth c s₁ Bd hml hP hK
 obtain ⟨rfl, hZ, hh⟩ := hP
 obtain ⟨hx, hby, hown, hret, hlk, X0, e0, N0⟩ := own_bd Bd hh n0
 have pre0 := own_ct s₁ (p := p) (e := e) (below := below) (ef37 m o1 o2 q3)
 revert pre0
 generalize s₁.setTop (entryFrame m #[(.ref o1), (.ref o2), (.long q3)] 4) = E0
 intro pre0
 obtain ⟨_, T1, L1, X1, hQ1, st1⟩ := yv X0 hx hZ hown hby hml (y := yn14) (w_114 hw) (w_115 hw) (own_w hw 117 rfl) (w_116 hw) (w_118 hw) (w_5 hw) e0 P7 [(.long q3)] [] (rm20 l Z a0 hw [] o2 q3 h0 n0 O0 g_o2 hp0 P7 P8) 2 (l470_0 o1 o2 q3) rfl d15_2 (lenOf pd2 rfl) 0 0 0
 obtain ⟨rfl, Nq2, K3, f4, f5⟩ := hQ1
 have N1 := Fr.app N0 Nq2
 have O1 := Old.keep O0 K3 (allS g_o2 all0)
 have f6 := (P0.keep K3)
 have ne7 : o1 ≠ o2 := ne_exa f6 f4 (by decide)
 have f8 := (P5.keep K3 (ninS ne7 nin0))
 obtain ⟨T9, X9, e9, st9⟩ := yg X1 hx hZ hown hby (w_53 hw) rfl f8 7 (l470_0 o1 o2 q3) [(.ref o1)] d15_7
 obtain ⟨T10, h10, X10, e10, W10, st10⟩ := yp X9 hx hZ hown hby (w_53 hw) e9 f8 f6 (w_54 hw) (w_32 hw) (ty := .int) (v := (.int 1)) (by decide) rfl rfl 12 (l470_0 o1 o2 q3) [] d15_12
 have N10 := Fr.snoc X10 N1 g_o1
 have Fw10 := f8.same W10
 have O10 := Old.wr O1 W10 g_o1
 have f11 := ((P3.keep K3 (ninS ne7 nin0)).other W10 (Or.inr (sn62 hw)))
 obtain ⟨T12, X12, e12, st12⟩ := yag X10 hx hZ hown hby (w_47 hw) e10 f11 15 (l470_0 o1 o2 q3) [] d15_15 d15_16 rfl
 have f13 := ((P2.keep K3 (ninS ne7 nin0)).other W10 (Or.inr (sn59 hw)))
 obtain ⟨T14, X14, e14, st14⟩ := yag X12 hx hZ hown hby (w_49 hw) e12 f13 19 (l470_0 o1 o2 q3) [(.int 3)] d15_19 d15_20 rfl
 have f15 := ((P6.keep K3 (ninS ne7 nin0)).other W10 (Or.inr (sn72 hw)))
 obtain ⟨T16, X16, e16, st16⟩ := yag X14 hx hZ hown hby (w_40 hw) e14 f15 26 (l470_0 o1 o2 q3) [] d15_26 d15_27 rfl
 obtain ⟨T17, X17, e17, st17⟩ := yag X16 hx hZ hown hby (w_47 hw) e16 f11 30 (l470_0 o1 o2 q3) [(.ref o4)] d15_30 d15_31 rfl
 have f18 := ((P10.keep K3).wr W10)
 have f19 := (f4.wr W10)
 have ne20 : o4 ≠ o2 := ne_exa f18 f19 (by decide)
 have f21 := (f6.wr W10)
 have ne22 : o4 ≠ o1 := ne_exa f18 f21 (by decide)
 have f23 := ((P9.keep K3 (ninS ne20 nin0)).other W10 ne22)
 obtain ⟨cl24, Ar24, qa24, Sa24, Na24, Ha24, Ga24⟩ := id (f23)
 have hin24 := inb_of (j := (3 : Int32)) Sa24 ⟨by decide, by decide⟩
 have hat24 : cl24.slots[((3 : Int32)).toNatClampNeg]? = some (.ref o2) := Has.at Ha24 hin24 rfl
 have f25 := (f5.other W10 (Or.inl (Ne.symm ne7)))
 obtain ⟨_, T26, L26, X26, hQ26, st26⟩ := yv X17 hx hZ hown hby hml (y := yn7) (w_113 hw) (w_82 hw) (w_84 hw) (w_83 hw) (w_85 hw) (w_5 hw) e17 f19 [] [] (rm21 l Z a0 hw [] o2 q3 h10 n0 O10 g_o2 hp0 f25) 35 (l470_0 o1 o2 q3) rfl d15_35 (lenOf pd5 rfl) 0 0 0
 obtain ⟨rfl, Nq27, e28⟩ := hQ26
 have N26 := Fr.app N10 Nq27
 obtain ⟨T29, X29, e29, st29⟩ := yg X26 hx hZ hown hby (w_47 hw) e28 f11 43 (l470_0 o1 o2 q3) [(.ref o1)] d15_43
 obtain ⟨T30, h30, X30, e30, W30, st30⟩ := yp X29 hx hZ hown hby (w_47 hw) e29 f11 f21 (w_48 hw) (w_32 hw) (ty := .int) (v := (.int 4)) (by decide) rfl rfl 48 (l470_0 o1 o2 q3) [] d15_48
 have N30 := Fr.snoc X30 N26 g_o1
 have Fw30 := f11.same W30
 have O30 := Old.wr O10 W30 g_o1
 have f31 := (Fw10.other W30 (Or.inr (sn53 hw)))
 obtain ⟨T32, X32, e32, st32⟩ := yg X30 hx hZ hown hby (w_53 hw) e30 f31 53 (l470_0 o1 o2 q3) [(.ref o1)] d15_53
 have f33 := (f21.wr W30)
 obtain ⟨T34, h34, X34, e34, W34, st34⟩ := yp X32 hx hZ hown hby (w_53 hw) e32 f31 f33 (w_54 hw) (w_32 hw) (ty := .int) (v := (.int 0)) (by decide) rfl rfl 58 (l470_0 o1 o2 q3) [] d15_58
 have N34 := Fr.snoc X34 N30 g_o1
 have Fw34 := f31.same W34
 have O34 := Old.wr O30 W34 g_o1
 have f35 := (Fw30.other W34 (Or.inr (sn62 hw)))
 obtain ⟨T36, X36, e36, st36⟩ := yag X34 hx hZ hown hby (w_47 hw) e34 f35 15 (l470_0 o1 o2 q3) [] d15_15 d15_16 rfl
 have f37 := ((f13.other W30 (Or.inr (sn51 hw))).other W34 (Or.inr (sn59 hw)))
 obtain ⟨T38, X38, e38, st38⟩ := yag X36 hx hZ hown hby (w_49 hw) e36 f37 19 (l470_0 o1 o2 q3) [(.int 4)] d15_19 d15_20 rfl
 have f39 := ((f15.other W30 (Or.inr (sn70 hw))).other W34 (Or.inr (sn72 hw)))
 obtain ⟨T40, X40, e40, st40⟩ := yag X38 hx hZ hown hby (w_40 hw) e38 f39 26 (l470_0 o1 o2 q3) [] d15_26 d15_27 rfl
 obtain ⟨T41, X41, e41, st41⟩ := yag X40 hx hZ hown hby (w_47 hw) e40 f35 30 (l470_0 o1 o2 q3) [(.ref o4)] d15_30 d15_31 rfl
 have f42 := ((f23.other W30 ne22).other W34 ne22)
 obtain ⟨cl43, Ar43, qa43, Sa43, Na43, Ha43, Ga43⟩ := id (f42)
 have hin43 := inb_of (j := (4 : Int32)) Sa43 ⟨by decide, by decide⟩
 have hat43 : cl43.slots[((4 : Int32)).toNatClampNeg]? = some (.ref o6) := Has.at Ha43 hin43 rfl
 have f44 := ((((P11.keep K3).wr W10).wr W30).wr W34)
 have f45 := (f33.wr W34)
 have ne46 : o6 ≠ o1 := ne_exa f44 f45 (by decide)
 have f47 := ((((P12.keep K3 (ninS ne_o6_o2 nin0)).other W10 (Or.inl ne46)).other W30 (Or.inl ne46)).other W34 (Or.inl ne46))
 obtain ⟨_, T48, L48, X48, hQ48, st48⟩ := yv X41 hx hZ hown hby hml (y := yn7) (w_113 hw) (w_82 hw) (w_84 hw) (w_83 hw) (w_85 hw) (w_5 hw) e41 f44 [] [] (rm17 l Z a0 hw [] o6 ((9223372036854775807 : Int64)) h34 n0 O34 g_o6 (by decide : (9223372036854775807 : Int64) = (9223372036854775807 : Int64)) f47) 35 (l470_0 o1 o2 q3) rfl d15_35 (lenOf pd5 rfl) 0 0 0
 obtain ⟨rfl, Nq49, e50⟩ := hQ48
 have N48 := Fr.app N34 Nq49
 obtain ⟨T51, X51, e51, st51⟩ := yag X48 hx hZ hown hby (w_47 hw) e50 f35 64 (l470_0 o1 o2 q3) [] d15_64 d15_65 rfl
 have f52 := ((((P4.keep K3 (ninS ne7 nin0)).other W10 (Or.inr (sn66 hw))).other W30 (Or.inr (sn64 hw))).other W34 (Or.inr (sn66 hw)))
 obtain ⟨T53, X53, e53, st53⟩ := yag X51 hx hZ hown hby (w_51 hw) e51 f52 68 (l470_0 o1 o2 q3) [(.int 4)] d15_68 d15_69 rfl
 obtain ⟨T54, X54, e54, st54⟩ := yag X53 hx hZ hown hby (w_53 hw) e53 Fw34 73 (l470_0 o1 o2 q3) [(.int 1)] d15_73 d15_74 rfl
 obtain ⟨_, T55, L55, X55, hQ55, st55⟩ := yv X54 hx hZ hown hby hml (y := yn3) (own_w hw 100 rfl) (w_58 hw) (own_w hw 60 rfl) (w_59 hw) (own_w hw 61 rfl) (w_33 hw) e54 f45 [] [(.int 1)] (rm4 l Z a0 hw [] o1 ((5 : Int32)) ((4 : Int32)) ((0 : Int32)) h34 n0 O34 g_o1 f37 f35 Fw34) 79 (l470_0 o1 o2 q3) rfl d15_79 (lenOf pd3 rfl) 1 0 0
 obtain ⟨rfl, Nq56, e57⟩ := hQ55
 have N55 := Fr.app N48 Nq56
 obtain ⟨_, T58, L58, X58, hQ58, st58⟩ := own_cs X55 hx hZ hown (y := yn10) (own_w hw 101 rfl) (own_w hw 102 rfl) (own_w hw 104 rfl) (w_103 hw) e57 (argsL := [(.int (((5 : Int32) - (4 : Int32)) - (0 : Int32))), (.int 4)]) (rest := [(.int 1)]) (rm11 l Z a0 hw [] ((((5 : Int32) - (4 : Int32)) - (0 : Int32))) ((4 : Int32)) h34 n0 O34 ) (g := (mkF m 83 (l470_0 o1 o2 q3) [(.int 4), (.int (((5 : Int32) - (4 : Int32)) - (0 : Int32))), (.int 1)])) rfl (by rw [hml]; rfl) rfl (hb hby d15_83) (lenOf pd8 rfl) (W := 1) (c1 := 0) (s1 := 0)
 have pre59 : Go p e below T55 (mkF m 83 (l470_0 o1 o2 q3) [(.int 4), (.int (((5 : Int32) - (4 : Int32)) - (0 : Int32))), (.int 1)]) E0 := fun t k => by
  refine pre0 _ ?_
  refine yan X0 hx hby d15_0 rfl rfl ?_
  refine XS.lloadN X0.here hx rfl (hb hby d15_1) rfl ?_
  refine st1 _ ?_
  refine yan X1 hx hby d15_5 rfl rfl ?_
  refine XS.dup X1.here hx rfl (hb hby d15_6) rfl rfl ?_
  refine st9 _ ?_
  refine yic X9 hx hby d15_10 ?_
  refine yad X9 hx hby d15_11 ?_
  refine st10 _ ?_
  refine st12 _ ?_
  refine st14 _ ?_
  refine yno X14 hx hby d15_23 (tlt (by decide : (3 : Int32) < (5 : Int32))).2.1 ?_
  refine st16 _ ?_
  refine st17 _ ?_
  refine X17.aaload hx (j := (3 : Int32)) (v := (.ref o2)) (by rw [e17]; exact Ar24.1) (State.isArrayOf_alike hZ.alike Ar24.2.1) rfl Ar24.2.2 hin24 hat24 (g := (mkF m 34 (l470_0 o1 o2 q3) [(.int 3), (.ref o4)])) rfl rfl (hb hby d15_34) _ ?_
  refine st26 _ ?_
  refine yfn X26 hx hby d15_38 ((if0 _ _).trans (teq (by decide : (0 : Int32) = (0 : Int32))).2) ?_
  refine yan X26 hx hby d15_41 rfl rfl ?_
  refine XS.dup X26.here hx rfl (hb hby d15_42) rfl rfl ?_
  refine st29 _ ?_
  refine yic X29 hx hby d15_46 ?_
  refine yad X29 hx hby d15_47 ?_
  refine st30 _ ?_
  refine yan X30 hx hby d15_51 rfl rfl ?_
  refine XS.dup X30.here hx rfl (hb hby d15_52) rfl rfl ?_
  refine st32 _ ?_
  refine yic X32 hx hby d15_56 ?_
  refine ysu X32 hx hby d15_57 ?_
  refine st34 _ ?_
  refine ygo X34 hx hby 61 15 rfl d15_61 (by decide) ?_
  refine st36 _ ?_
  refine st38 _ ?_
  refine yno X38 hx hby d15_23 (tlt (by decide : (4 : Int32) < (5 : Int32))).2.1 ?_
  show Steps p.tables e below (T38.setTop (mkF m 26 (l470_0 o1 o2 q3) [])) _
  refine st40 _ ?_
  refine st41 _ ?_
  refine X41.aaload hx (j := (4 : Int32)) (v := (.ref o6)) (by rw [e41]; exact Ar43.1) (State.isArrayOf_alike hZ.alike Ar43.2.1) rfl Ar43.2.2 hin43 hat43 (g := (mkF m 34 (l470_0 o1 o2 q3) [(.int 4), (.ref o4)])) rfl rfl (hb hby d15_34) _ ?_
  refine st48 _ ?_
  refine XS.ifYes X48.here hx rfl (pc0 := 38) (pc' := 64) rfl (hb hby d15_38) rfl ((if0 _ _).trans (feq (by decide : ¬ ((1 : Int32) = (0 : Int32)))).2) (by decide) (by decide) ?_
  refine st51 _ ?_
  refine st53 _ ?_
  refine ysu X53 hx hby d15_72 ?_
  refine st54 _ ?_
  refine yad X54 hx hby d15_77 ?_
  refine yan X54 hx hby d15_78 rfl rfl ?_
  refine st55 _ ?_
  refine yic X55 hx hby d15_82 ?_
  exact k
 rcases hQ58 with ⟨hc60, rfl, Nq61, e62⟩ | ⟨hc63, rfl, Nq64, e65⟩
 ·
  have N58 := Fr.app N55 Nq61
  obtain ⟨fs, hr, hrun, hended, hW, hsame⟩ := X58.leave (v := none) (fun _ => rfl)
  have KL : Keep h0 h34 [o2, o1] := (((((Keep.refl h0 [o2, o1]).trans K3 (allS (Or.inl (List.mem_of_getElem? (i := 0) rfl)) all0)).wr W10 (Or.inl (List.mem_of_getElem? (i := 1) rfl))).wr W30 (Or.inl (List.mem_of_getElem? (i := 1) rfl))).wr W34 (Or.inl (List.mem_of_getElem? (i := 1) rfl)))
  have f66 := ((f19.wr W30).wr W34)
  have f67 := ((f25.other W30 (Or.inl (Ne.symm ne7))).other W34 (Or.inl (Ne.symm ne7)))
  have f68 := ((((P1.keep K3 (ninS ne7 nin0)).other W10 (Or.inr (sn58 hw))).other W30 (Or.inr (sn56 hw))).other W34 (Or.inr (sn58 hw)))
  refine ⟨_, _, pre59 _ ?_, hrun, hended, _, _, rfl, ?_, ⟨_, rfl⟩, hW, hsame.mono (by decide) (by decide)⟩
  ·
   refine st58 _ ?_
   refine yye X58 hx hby 86 93 rfl d15_86 (flt (by decide : ¬ ((4 : Int32) < (1 : Int32)))).2.2.2 (by decide) ?_
   show Steps p.tables e below (T58.setTop (mkF m 93 (l470_0 o1 o2 q3) [])) _
   exact X58.returnOut hx hret (hb hby d15_93) hr
  ·
   show Q37 Z o1 o2 o4 o6 kc5 q3 h0 n0 _ T58.heap _
   rw [e62]
   exact ⟨rfl, N58, KL, f66, f67, f45, f68, f37, f35, f52, Fw34, f39⟩
 ·
  exact absurd (own_glt1 (n := 4) (k := (4 : Int32)) (by decide) (by have q0 := own_sub (x := ((5 : Int32) - (4 : Int32))) (k := (0 : Int32)) (n := 0) (lo := 1) (hi := 1) (by decide) (by have q0 := own_sub (x := (5 : Int32)) (k := (4 : Int32)) (n := 4) (lo := 5) (hi := 5) (by decide) (by have q0 := (by decide : ((5 : Int32)).toInt = 5); omega) (by decide) (by decide); omega) (by decide) (by decide); omega)) hc63
def l471_0 (o1 : Addr) (q2 : Int64) : Array Slot := #[.val (.ref o1), .val (.long q2), .second, .val (.int 4)]
def l471_1 (o1 : Addr) (q2 : Int64) : Array Slot := #[.val (.ref o1), .val (.long q2), .second, .val (.int 5)]
theorem ef38 (m : MethodId) (x0 : Addr) (x1 : Int64) : entryFrame m #[(.ref x0), (.long x1)] 4 = mkF m 0 #[.val (.ref x0), .val (.long x1), .second, .unset] [] := by first | (simp [entryFrame, mkF, argsToLocals, Value.category]; done) | rfl
def Q38 (Z : State) (w1 : Addr) (kw1 : ClassId) (o1 o6 : Addr) (o8 o9 : Addr) (kc7 : ClassId) (q10 : Int64) (p3 p4 p5 : Int32) (q2 : Int64) (h0 : Heap) (n0 : Nat) (v : Option Value) (h : Heap) (L : List Loc) : Prop :=
  (v = none ∧ Fr n0 L ∧ Keep h0 h [o9, o1] ∧ (Exa Z h o9 cn6) ∧ (Fld Z h o9 cn6 "removed" "J" (.long q2)) ∧ (Exa Z h o1 cn7) ∧ (Fld Z h o1 cn7 "addsFirst" "Z" (.int 0)) ∧ (Fld Z h o1 cn7 "end" "I" (.int 0)) ∧ (Fld Z h o1 cn7 "first" "I" (.int 0)) ∧ (Fld Z h o1 cn7 "low" "I" (.int 0)) ∧ (Fld Z h o1 cn7 "removed" "I" (.int 0)) ∧ (Fld Z h o1 cn7 "slots" cn3 (.ref w1)))
set_option maxRecDepth 65536 in
set_option maxHeartbeats 40000000 in
theorem rm38 (l : Launch) (Z : State) (a0 : Array Value) (hw : HW a0 Z) (w1 : Addr) (kw1 : ClassId) (G : GW Z w1 kw1) (ws : List Jvm.Cond) (o1 o6 : Addr) (o8 o9 : Addr) (kc7 : ClassId) (q10 : Int64) (p3 p4 p5 : Int32) (q2 : Int64) (h0 : Heap) (n0 : Nat) (O0 : Old Z n0 h0) (g_o1 : n0 ≤ o1) (g_o6 : n0 ≤ o6) (g_o8 : n0 ≤ o8) (g_o9 : n0 ≤ o9) (Ov_kc7 : Ovr Z kc7 cn6) (hp0 : ¬ (q10 = (9223372036854775807 : Int64))) (P0 : Exa Z h0 o1 cn7) (P1 : Fld Z h0 o1 cn7 "addsFirst" "Z" (.int p3)) (P2 : Fld Z h0 o1 cn7 "end" "I" (.int 5)) (P3 : Fld Z h0 o1 cn7 "first" "I" (.int 4)) (P4 : Fld Z h0 o1 cn7 "low" "I" (.int p4)) (P5 : Fld Z h0 o1 cn7 "removed" "I" (.int p5)) (P6 : Fld Z h0 o1 cn7 "slots" cn3 (.ref o6)) (P7 : Arv Z h0 o6 kc7 (.object cn6) (9 : Int32) [.null, .null, .null, (.ref o8), (.ref o9), .null, .null, .null, .null] .null) (P11 : Exa Z h0 o9 cn6) (P12 : Fld Z h0 o9 cn6 "removed" "J" (.long 9223372036854775807)) :
    MF l yn2 prog_41_method_9_code 4 none ws ({ frames := 1, cells := 0, slots := 0, locals := 14 } : Room) #[(.ref o1), (.long q2)] Z h0 (Q38 Z w1 kw1 o1 o6 o8 o9 kc7 q10 p3 p4 p5 q2 h0 n0) := by
 obtain ⟨S_w1, A_w1⟩ := id G
 refine MetFree.of_bodySF (plainFor_of_name pn1) hisR ?_
 intro p e s m args below meth c s₁ Bd hml hP hK
 obtain ⟨rfl, hZ, hh⟩ := hP
 obtain ⟨hx, hby, hown, hret, hlk, X0, e0, N0⟩ := own_bd Bd hh n0
 have pre0 := own_ct s₁ (p := p) (e := e) (below := below) (ef38 m o1 q2)
 obtain ⟨T1, X1, e1, st1⟩ := yag X0 hx hZ hown hby (w_47 hw) e0 P3 0 #[.val (.ref o1), .val (.long q2), .second, .unset] [] d2_0 d2_1 rfl
 obtain ⟨T2, X2, e2, st2⟩ := yag X1 hx hZ hown hby (w_49 hw) e1 P2 6 (l471_0 o1 q2) [(.int 4)] d2_6 d2_7 rfl
 obtain ⟨T3, X3, e3, st3⟩ := yag X2 hx hZ hown hby (w_40 hw) e2 P6 13 (l471_0 o1 q2) [] d2_13 d2_14 rfl
 obtain ⟨cl4, Ar4, qa4, Sa4, Na4, Ha4, Ga4⟩ := id (P7)
 have hin4 := inb_of (j := (4 : Int32)) Sa4 ⟨by decide, by decide⟩
 have hat4 : cl4.slots[((4 : Int32)).toNatClampNeg]? = some (.ref o9) := Has.at Ha4 hin4 rfl
 obtain ⟨_, T5, L5, X5, hQ5, st5⟩ := yv X3 hx hZ hown hby hml (y := yn7) (w_113 hw) (w_82 hw) (w_84 hw) (w_83 hw) (w_85 hw) (w_5 hw) e3 P11 [] [] (rm17 l Z a0 hw [] o9 ((9223372036854775807 : Int64)) h0 n0 O0 g_o9 (by decide : (9223372036854775807 : Int64) = (9223372036854775807 : Int64)) P12) 19 (l471_0 o1 q2) rfl d2_19 (lenOf pd5 rfl) 0 0 0
 obtain ⟨rfl, Nq6, e7⟩ := hQ5
 have N5 := Fr.app N0 Nq6
 obtain ⟨T8, X8, e8, st8⟩ := yag X5 hx hZ hown hby (w_40 hw) e7 P6 25 (l471_0 o1 q2) [] d2_25 d2_26 rfl
 obtain ⟨cl9, Ar9, qa9, Sa9, Na9, Ha9, Ga9⟩ := id (P7)
 have hin9 := inb_of (j := (4 : Int32)) Sa9 ⟨by decide, by decide⟩
 have hat9 : cl9.slots[((4 : Int32)).toNatClampNeg]? = some (.ref o9) := Has.at Ha9 hin9 rfl
 obtain ⟨_, T10, L10, X10, hQ10, st10⟩ := yv X8 hx hZ hown hby hml (y := yn14) (w_114 hw) (w_115 hw) (own_w hw 117 rfl) (w_116 hw) (w_118 hw) (w_5 hw) e8 P11 [(.long q2)] [] (rm18 l Z a0 hw [] o9 q2 h0 n0 O0 g_o9 P11 P12) 32 (l471_0 o1 q2) rfl d2_32 (lenOf pd2 rfl) 0 0 0
 obtain ⟨rfl, Nq11, K12, f13, f14⟩ := hQ10
 have N10 := Fr.app N5 Nq11
 have O10 := Old.keep O0 K12 (allS g_o9 all0)
 have f15 := (P0.keep K12)
 have ne16 : o1 ≠ o9 := ne_exa f15 f13 (by decide)
 have f17 := (P2.keep K12 (ninS ne16 nin0))
 obtain ⟨T18, X18, e18, st18⟩ := yag X10 hx hZ hown hby (w_49 hw) rfl f17 6 (l471_1 o1 q2) [(.int 5)] d2_6 d2_7 rfl
 obtain ⟨T19, X19, e19, st19⟩ := getS2 X18 hx hZ hown (host := "") (Or.inl (own_w hw 38 rfl)) Via.refl e18 (S_w1.ext O10.2) (g := (mkF m 42 (l471_1 o1 q2) [(.ref o1)])) rfl (hb hby d2_42)
 have f20 := (P6.keep K12 (ninS ne16 nin0))
 obtain ⟨T21, h21, X21, e21, W21, st21⟩ := yp X19 hx hZ hown hby (w_40 hw) e19 f20 f15 (w_41 hw) (w_32 hw) (ty := (.array (.object cn6))) (v := (.ref w1)) (by decide) rfl rfl 45 (l471_1 o1 q2) [] d2_45
 have N21 := Fr.snoc X21 N10 g_o1
 have Fw21 := f20.same W21
 have f22 := ((P4.keep K12 (ninS ne16 nin0)).other W21 (Or.inr (sn47 hw)))
 have f23 := (f15.wr W21)
 obtain ⟨T24, h24, X24, e24, W24, st24⟩ := yp X21 hx hZ hown hby (w_51 hw) e21 f22 f23 (w_52 hw) (w_32 hw) (ty := .int) (v := (.int 0)) (by decide) rfl rfl 50 (l471_1 o1 q2) [] d2_50
 have N24 := Fr.snoc X24 N21 g_o1
 have Fw24 := f22.same W24
 have f25 := (((P3.keep K12 (ninS ne16 nin0)).other W21 (Or.inr (sn46 hw))).other W24 (Or.inr (sn49 hw)))
 have f26 := (f23.wr W24)
 obtain ⟨T27, h27, X27, e27, W27, st27⟩ := yp X24 hx hZ hown hby (w_47 hw) e24 f25 f26 (w_48 hw) (w_32 hw) (ty := .int) (v := (.int 0)) (by decide) rfl rfl 55 (l471_1 o1 q2) [] d2_55
 have N27 := Fr.snoc X27 N24 g_o1
 have Fw27 := f25.same W27
 have f28 := (((f17.other W21 (Or.inr (sn45 hw))).other W24 (Or.inr (sn50 hw))).other W27 (Or.inr (sn51 hw)))
 have f29 := (f26.wr W27)
 obtain ⟨T30, h30, X30, e30, W30, st30⟩ := yp X27 hx hZ hown hby (w_49 hw) e27 f28 f29 (w_50 hw) (w_32 hw) (ty := .int) (v := (.int 0)) (by decide) rfl rfl 60 (l471_1 o1 q2) [] d2_60
 have N30 := Fr.snoc X30 N27 g_o1
 have Fw30 := f28.same W30
 have f31 := (((((P5.keep K12 (ninS ne16 nin0)).other W21 (Or.inr (sn48 hw))).other W24 (Or.inr (sn52 hw))).other W27 (Or.inr (sn53 hw))).other W30 (Or.inr (sn54 hw)))
 have f32 := (f29.wr W30)
 obtain ⟨T33, h33, X33, e33, W33, st33⟩ := yp X30 hx hZ hown hby (w_53 hw) e30 f31 f32 (w_54 hw) (w_32 hw) (ty := .int) (v := (.int 0)) (by decide) rfl rfl 65 (l471_1 o1 q2) [] d2_65
 have N33 := Fr.snoc X33 N30 g_o1
 have Fw33 := f31.same W33
 have f34 := ((((((P1.keep K12 (ninS ne16 nin0)).other W21 (Or.inr (sn44 hw))).other W24 (Or.inr (sn55 hw))).other W27 (Or.inr (sn56 hw))).other W30 (Or.inr (sn57 hw))).other W33 (Or.inr (sn58 hw)))
 have f35 := (f32.wr W33)
 obtain ⟨T36, h36, X36, e36, W36, st36⟩ := putFN X33 hx hZ hown (own_w hw 55 rfl) Via.refl e33 f34 f35 (Or.inl (w_56 hw)) (w_32 hw) (ty := .boolean) (v' := (.int 0)) (by decide) rfl (by decide) (g := (mkF m 70 (l471_1 o1 q2) [(.int 0), (.ref o1)])) rfl rfl (hb hby d2_70)
 have N36 := Fr.snoc X36 N33 g_o1
 have Fw36 := f34.same W36
 obtain ⟨fs, hr, hrun, hended, hW, hsame⟩ := X36.leave (v := none) (fun _ => rfl)
 have KL : Keep h0 h36 [o9, o1] := ((((((((Keep.refl h0 [o9, o1]).trans K12 (allS (Or.inl (List.mem_of_getElem? (i := 0) rfl)) all0)).wr W21 (Or.inl (List.mem_of_getElem? (i := 1) rfl))).wr W24 (Or.inl (List.mem_of_getElem? (i := 1) rfl))).wr W27 (Or.inl (List.mem_of_getElem? (i := 1) rfl))).wr W30 (Or.inl (List.mem_of_getElem? (i := 1) rfl))).wr W33 (Or.inl (List.mem_of_getElem? (i := 1) rfl))).wr W36 (Or.inl (List.mem_of_getElem? (i := 1) rfl)))
 have f37 := ((((((f13.wr W21).wr W24).wr W27).wr W30).wr W33).wr W36)
 have f38 := ((((((f14.other W21 (Or.inl (Ne.symm ne16))).other W24 (Or.inl (Ne.symm ne16))).other W27 (Or.inl (Ne.symm ne16))).other W30 (Or.inl (Ne.symm ne16))).other W33 (Or.inl (Ne.symm ne16))).other W36 (Or.inl (Ne.symm ne16)))
 have f39 := (f35.wr W36)
 have f40 := ((Fw30.other W33 (Or.inr (sn59 hw))).other W36 (Or.inr (sn60 hw)))
 have f41 := (((Fw27.other W30 (Or.inr (sn61 hw))).other W33 (Or.inr (sn62 hw))).other W36 (Or.inr (sn63 hw)))
 have f42 := ((((Fw24.other W27 (Or.inr (sn64 hw))).other W30 (Or.inr (sn65 hw))).other W33 (Or.inr (sn66 hw))).other W36 (Or.inr (sn67 hw)))
 have f43 := (Fw33.other W36 (Or.inr (sn68 hw)))
 have f44 := (((((Fw21.other W24 (Or.inr (sn69 hw))).other W27 (Or.inr (sn70 hw))).other W30 (Or.inr (sn71 hw))).other W33 (Or.inr (sn72 hw))).other W36 (Or.inr (sn73 hw)))
 refine ⟨_, _, pre0 _ ?_, hrun, hended, _, _, rfl, ?_, ⟨_, rfl⟩, hW, hsame.mono (by decide) (by decide)⟩
 ·
  refine st1 _ ?_
  refine yit X1 hx hby d2_4 (l' := (l471_0 o1 q2)) rfl ?_
  refine yin X1 hx hby d2_5 rfl ?_
  refine st2 _ ?_
  refine yno X2 hx hby d2_10 (tlt (by decide : (4 : Int32) < (5 : Int32))).2.1 ?_
  refine st3 _ ?_
  refine yin X3 hx hby d2_17 rfl ?_
  refine X3.aaload hx (j := (4 : Int32)) (v := (.ref o9)) (by rw [e3]; exact Ar4.1) (State.isArrayOf_alike hZ.alike Ar4.2.1) rfl Ar4.2.2 hin4 hat4 (g := (mkF m 18 (l471_0 o1 q2) [(.int 4), (.ref o6)])) rfl rfl (hb hby d2_18) _ ?_
  refine st5 _ ?_
  refine yfn X5 hx hby d2_22 ((if0 _ _).trans (feq (by decide : ¬ ((1 : Int32) = (0 : Int32)))).1) ?_
  refine st8 _ ?_
  refine yin X8 hx hby d2_29 rfl ?_
  refine X8.aaload hx (j := (4 : Int32)) (v := (.ref o9)) (by rw [e8]; exact Ar9.1) (State.isArrayOf_alike hZ.alike Ar9.2.1) rfl Ar9.2.2 hin9 hat9 (g := (mkF m 30 (l471_0 o1 q2) [(.int 4), (.ref o6)])) rfl rfl (hb hby d2_30) _ ?_
  refine XS.lloadN X8.here hx rfl (hb hby d2_31) rfl ?_
  refine st10 _ ?_
  refine XS.iinc X10.here hx rfl (hb hby d2_35) rfl (l' := (l471_1 o1 q2)) rfl ?_
  refine ygo X10 hx hby 38 5 rfl d2_38 (by decide) ?_
  refine yin X10 hx hby d2_5 rfl ?_
  refine st18 _ ?_
  refine yye X18 hx hby 10 41 rfl d2_10 (flt (by decide : ¬ ((5 : Int32) < (5 : Int32)))).2.1 (by decide) ?_
  refine yan X18 hx hby d2_41 rfl rfl ?_
  refine st19 _ ?_
  refine st21 _ ?_
  refine yan X21 hx hby d2_48 rfl rfl ?_
  refine yic X21 hx hby d2_49 ?_
  refine st24 _ ?_
  refine yan X24 hx hby d2_53 rfl rfl ?_
  refine yic X24 hx hby d2_54 ?_
  refine st27 _ ?_
  refine yan X27 hx hby d2_58 rfl rfl ?_
  refine yic X27 hx hby d2_59 ?_
  refine st30 _ ?_
  refine yan X30 hx hby d2_63 rfl rfl ?_
  refine yic X30 hx hby d2_64 ?_
  refine st33 _ ?_
  show Steps p.tables e below (T33.setTop (mkF m 68 (l471_1 o1 q2) [])) _
  refine yan X33 hx hby d2_68 rfl rfl ?_
  refine yic X33 hx hby d2_69 ?_
  refine st36 _ ?_
  show Steps p.tables e below (T36.setTop (mkF m 73 (l471_1 o1 q2) [])) _
  exact X36.returnOut hx hret (hb hby d2_73) hr
 ·
  show Q38 Z w1 kw1 o1 o6 o8 o9 kc7 q10 p3 p4 p5 q2 h0 n0 _ T36.heap _
  rw [e36]
  exact ⟨rfl, N36, KL, f37, f38, f39, Fw36, f40, f41, f42, f43, f44⟩
def l472_0 (o1 o2 : Addr) (q3 : Int64) : Array Slot := #[.val (.ref o1), .val (.ref o2), .val (.long q3), .second]
theorem ef39 (m : MethodId) (x0 x1 : Addr) (x2 : Int64) : entryFrame m #[(.ref x0), (.ref x1), (.long x2)] 4 = mkF m 0 #[.val (.ref x0), .val (.ref x1), .val (.long x2), .second] [] := by first | (simp [entryFrame, mkF, argsToLocals, Value.category]; done) | rfl
def Q39 (Z : State) (o1 o2 : Addr) (o4 o6 : Addr) (kc5 : ClassId) (q3 : Int64) (h0 : Heap) (n0 : Nat) (v : Option Value) (h : Heap) (L : List Loc) : Prop :=
  (v = none ∧ Fr n0 L ∧ Keep h0 h [o2, o1] ∧ (Exa Z h o2 cn6) ∧ (Fld Z h o2 cn6 "removed" "J" (.long q3)) ∧ (Exa Z h o1 cn7) ∧ (Fld Z h o1 cn7 "addsFirst" "Z" (.int 1)) ∧ (Fld Z h o1 cn7 "end" "I" (.int 5)) ∧ (Fld Z h o1 cn7 "first" "I" (.int 3)) ∧ (Fld Z h o1 cn7 "low" "I" (.int 3)) ∧ (Fld Z h o1 cn7 "removed" "I" (.int 1)) ∧ (Fld Z h o1 cn7 "slots" cn3 (.ref o4)))
set_option maxRecDepth 65536 in
set_option maxHeartbeats 40000000 in
theorem rm39 (l : Launch) (Z : State) (a0 : Array Value) (hw : HW a0 Z) (ws : List Jvm.Cond) (o1 o2 : Addr) (o4 o6 : Addr) (kc5 : ClassId) (q3 : Int64) (h0 : Heap) (n0 : Nat) (O0 : Old Z n0 h0) (g_o1 : n0 ≤ o1) (g_o2 : n0 ≤ o2) (g_o4 : n0 ≤ o4) (g_o6 : n0 ≤ o6) (ne_o6_o2 : o6 ≠ o2) (Ov_kc5 : Ovr Z kc5 cn6) (hp0 : ¬ (q3 = (9223372036854775807 : Int64))) (P0 : Exa Z h0 o1 cn7) (P1 : Fld Z h0 o1 cn7 "addsFirst" "Z" (.int 1)) (P2 : Fld Z h0 o1 cn7 "end" "I" (.int 5)) (P3 : Fld Z h0 o1 cn7 "first" "I" (.int 3)) (P4 : Fld Z h0 o1 cn7 "low" "I" (.int 3)) (P5 : Fld Z h0 o1 cn7 "removed" "I" (.int 0)) (P6 : Fld Z h0 o1 cn7 "slots" cn3 (.ref o4)) (P7 : Exa Z h0 o2 cn6) (P8 : Fld Z h0 o2 cn6 "removed" "J" (.long 9223372036854775807)) (P9 : Arv Z h0 o4 kc5 (.object cn6) (9 : Int32) [.null, .null, .null, (.ref o6), (.ref o2), .null, .null, .null, .null] .null) (P10 : Exa Z h0 o4 cn3) (P11 : Exa Z h0 o6 cn6) (P12 : Fld Z h0 o6 cn6 "removed" "J" (.long 9223372036854775807)) :
    MF l yn15 prog_41_method_8_code 4 none ws ({ frames := 1, cells := 0, slots := 0, locals := 14 } : Room) #[(.ref o1), (.ref o2), (.long q3)] Z h0 (Q39 Z o1 o2 o4 o6 kc5 q3 h0 n0) := by
 refine MetFree.of_bodySF (plainFor_of_name pn1) hisR ?_
 intro p e s m args below meth c s₁ Bd hml hP hK
 obtain ⟨rfl, hZ, hh⟩ := hP
 obtain ⟨hx, hby, hown, hret, hlk, X0, e0, N0⟩ := own_bd Bd hh n0
 have pre0 := own_ct s₁ (p := p) (e := e) (below := below) (ef39 m o1 o2 q3)
 revert pre0
 generalize s₁.setTop (entryFrame m #[(.ref o1), (.ref o2), (.long q3)] 4) = E0
 intro pre0
 obtain ⟨_, T1, L1, X1, hQ1, st1⟩ := yv X0 hx hZ hown hby hml (y := yn14) (w_114 hw) (w_115 hw) (own_w hw 117 rfl) (w_116 hw) (w_118 hw) (w_5 hw) e0 P7 [(.long q3)] [] (rm20 l Z a0 hw [] o2 q3 h0 n0 O0 g_o2 hp0 P7 P8) 2 (l472_0 o1 o2 q3) rfl d15_2 (lenOf pd2 rfl) 0 0 0
 obtain ⟨rfl, Nq2, K3, f4, f5⟩ := hQ1
 have N1 := Fr.app N0 Nq2
 have O1 := Old.keep O0 K3 (allS g_o2 all0)
 have f6 := (P0.keep K3)
 have ne7 : o1 ≠ o2 := ne_exa f6 f4 (by decide)
 have f8 := (P5.keep K3 (ninS ne7 nin0))
 obtain ⟨T9, X9, e9, st9⟩ := yg X1 hx hZ hown hby (w_53 hw) rfl f8 7 (l472_0 o1 o2 q3) [(.ref o1)] d15_7
 obtain ⟨T10, h10, X10, e10, W10, st10⟩ := yp X9 hx hZ hown hby (w_53 hw) e9 f8 f6 (w_54 hw) (w_32 hw) (ty := .int) (v := (.int 1)) (by decide) rfl rfl 12 (l472_0 o1 o2 q3) [] d15_12
 have N10 := Fr.snoc X10 N1 g_o1
 have Fw10 := f8.same W10
 have O10 := Old.wr O1 W10 g_o1
 have f11 := ((P3.keep K3 (ninS ne7 nin0)).other W10 (Or.inr (sn62 hw)))
 obtain ⟨T12, X12, e12, st12⟩ := yag X10 hx hZ hown hby (w_47 hw) e10 f11 15 (l472_0 o1 o2 q3) [] d15_15 d15_16 rfl
 have f13 := ((P2.keep K3 (ninS ne7 nin0)).other W10 (Or.inr (sn59 hw)))
 obtain ⟨T14, X14, e14, st14⟩ := yag X12 hx hZ hown hby (w_49 hw) e12 f13 19 (l472_0 o1 o2 q3) [(.int 3)] d15_19 d15_20 rfl
 have f15 := ((P6.keep K3 (ninS ne7 nin0)).other W10 (Or.inr (sn72 hw)))
 obtain ⟨T16, X16, e16, st16⟩ := yag X14 hx hZ hown hby (w_40 hw) e14 f15 26 (l472_0 o1 o2 q3) [] d15_26 d15_27 rfl
 obtain ⟨T17, X17, e17, st17⟩ := yag X16 hx hZ hown hby (w_47 hw) e16 f11 30 (l472_0 o1 o2 q3) [(.ref o4)] d15_30 d15_31 rfl
 have f18 := ((P10.keep K3).wr W10)
 have f19 := (f4.wr W10)
 have ne20 : o4 ≠ o2 := ne_exa f18 f19 (by decide)
 have f21 := (f6.wr W10)
 have ne22 : o4 ≠ o1 := ne_exa f18 f21 (by decide)
 have f23 := ((P9.keep K3 (ninS ne20 nin0)).other W10 ne22)
 obtain ⟨cl24, Ar24, qa24, Sa24, Na24, Ha24, Ga24⟩ := id (f23)
 have hin24 := inb_of (j := (3 : Int32)) Sa24 ⟨by decide, by decide⟩
 have hat24 : cl24.slots[((3 : Int32)).toNatClampNeg]? = some (.ref o6) := Has.at Ha24 hin24 rfl
 have f25 := ((P11.keep K3).wr W10)
 have ne26 : o6 ≠ o1 := ne_exa f25 f21 (by decide)
 have f27 := ((P12.keep K3 (ninS ne_o6_o2 nin0)).other W10 (Or.inl ne26))
 obtain ⟨_, T28, L28, X28, hQ28, st28⟩ := yv X17 hx hZ hown hby hml (y := yn7) (w_113 hw) (w_82 hw) (w_84 hw) (w_83 hw) (w_85 hw) (w_5 hw) e17 f25 [] [] (rm17 l Z a0 hw [] o6 ((9223372036854775807 : Int64)) h10 n0 O10 g_o6 (by decide : (9223372036854775807 : Int64) = (9223372036854775807 : Int64)) f27) 35 (l472_0 o1 o2 q3) rfl d15_35 (lenOf pd5 rfl) 0 0 0
 obtain ⟨rfl, Nq29, e30⟩ := hQ28
 have N28 := Fr.app N10 Nq29
 obtain ⟨T31, X31, e31, st31⟩ := yag X28 hx hZ hown hby (w_47 hw) e30 f11 64 (l472_0 o1 o2 q3) [] d15_64 d15_65 rfl
 have f32 := ((P4.keep K3 (ninS ne7 nin0)).other W10 (Or.inr (sn66 hw)))
 obtain ⟨T33, X33, e33, st33⟩ := yag X31 hx hZ hown hby (w_51 hw) e31 f32 68 (l472_0 o1 o2 q3) [(.int 3)] d15_68 d15_69 rfl
 obtain ⟨T34, X34, e34, st34⟩ := yag X33 hx hZ hown hby (w_53 hw) e33 Fw10 73 (l472_0 o1 o2 q3) [(.int 0)] d15_73 d15_74 rfl
 obtain ⟨_, T35, L35, X35, hQ35, st35⟩ := yv X34 hx hZ hown hby hml (y := yn3) (own_w hw 100 rfl) (w_58 hw) (own_w hw 60 rfl) (w_59 hw) (own_w hw 61 rfl) (w_33 hw) e34 f21 [] [(.int 1)] (rm4 l Z a0 hw [] o1 ((5 : Int32)) ((3 : Int32)) ((1 : Int32)) h10 n0 O10 g_o1 f13 f11 Fw10) 79 (l472_0 o1 o2 q3) rfl d15_79 (lenOf pd3 rfl) 1 0 0
 obtain ⟨rfl, Nq36, e37⟩ := hQ35
 have N35 := Fr.app N28 Nq36
 obtain ⟨_, T38, L38, X38, hQ38, st38⟩ := own_cs X35 hx hZ hown (y := yn10) (own_w hw 101 rfl) (own_w hw 102 rfl) (own_w hw 104 rfl) (w_103 hw) e37 (argsL := [(.int (((5 : Int32) - (3 : Int32)) - (1 : Int32))), (.int 4)]) (rest := [(.int 1)]) (rm11 l Z a0 hw [] ((((5 : Int32) - (3 : Int32)) - (1 : Int32))) ((4 : Int32)) h10 n0 O10 ) (g := (mkF m 83 (l472_0 o1 o2 q3) [(.int 4), (.int (((5 : Int32) - (3 : Int32)) - (1 : Int32))), (.int 1)])) rfl (by rw [hml]; rfl) rfl (hb hby d15_83) (lenOf pd8 rfl) (W := 1) (c1 := 0) (s1 := 0)
 have pre39 : Go p e below T35 (mkF m 83 (l472_0 o1 o2 q3) [(.int 4), (.int (((5 : Int32) - (3 : Int32)) - (1 : Int32))), (.int 1)]) E0 := fun t k => by
  refine pre0 _ ?_
  refine yan X0 hx hby d15_0 rfl rfl ?_
  refine XS.lloadN X0.here hx rfl (hb hby d15_1) rfl ?_
  refine st1 _ ?_
  refine yan X1 hx hby d15_5 rfl rfl ?_
  refine XS.dup X1.here hx rfl (hb hby d15_6) rfl rfl ?_
  refine st9 _ ?_
  refine yic X9 hx hby d15_10 ?_
  refine yad X9 hx hby d15_11 ?_
  refine st10 _ ?_
  refine st12 _ ?_
  refine st14 _ ?_
  refine yno X14 hx hby d15_23 (tlt (by decide : (3 : Int32) < (5 : Int32))).2.1 ?_
  refine st16 _ ?_
  refine st17 _ ?_
  refine X17.aaload hx (j := (3 : Int32)) (v := (.ref o6)) (by rw [e17]; exact Ar24.1) (State.isArrayOf_alike hZ.alike Ar24.2.1) rfl Ar24.2.2 hin24 hat24 (g := (mkF m 34 (l472_0 o1 o2 q3) [(.int 3), (.ref o4)])) rfl rfl (hb hby d15_34) _ ?_
  refine st28 _ ?_
  refine XS.ifYes X28.here hx rfl (pc0 := 38) (pc' := 64) rfl (hb hby d15_38) rfl ((if0 _ _).trans (feq (by decide : ¬ ((1 : Int32) = (0 : Int32)))).2) (by decide) (by decide) ?_
  refine st31 _ ?_
  refine st33 _ ?_
  refine ysu X33 hx hby d15_72 ?_
  refine st34 _ ?_
  refine yad X34 hx hby d15_77 ?_
  refine yan X34 hx hby d15_78 rfl rfl ?_
  refine st35 _ ?_
  refine yic X35 hx hby d15_82 ?_
  exact k
 rcases hQ38 with ⟨hc40, rfl, Nq41, e42⟩ | ⟨hc43, rfl, Nq44, e45⟩
 ·
  have N38 := Fr.app N35 Nq41
  obtain ⟨fs, hr, hrun, hended, hW, hsame⟩ := X38.leave (v := none) (fun _ => rfl)
  have KL : Keep h0 h10 [o2, o1] := (((Keep.refl h0 [o2, o1]).trans K3 (allS (Or.inl (List.mem_of_getElem? (i := 0) rfl)) all0)).wr W10 (Or.inl (List.mem_of_getElem? (i := 1) rfl)))
  have f46 := (f5.other W10 (Or.inl (Ne.symm ne7)))
  have f47 := ((P1.keep K3 (ninS ne7 nin0)).other W10 (Or.inr (sn58 hw)))
  refine ⟨_, _, pre39 _ ?_, hrun, hended, _, _, rfl, ?_, ⟨_, rfl⟩, hW, hsame.mono (by decide) (by decide)⟩
  ·
   refine st38 _ ?_
   refine yye X38 hx hby 86 93 rfl d15_86 (flt (by decide : ¬ ((4 : Int32) < (1 : Int32)))).2.2.2 (by decide) ?_
   show Steps p.tables e below (T38.setTop (mkF m 93 (l472_0 o1 o2 q3) [])) _
   exact X38.returnOut hx hret (hb hby d15_93) hr
  ·
   show Q39 Z o1 o2 o4 o6 kc5 q3 h0 n0 _ T38.heap _
   rw [e42]
   exact ⟨rfl, N38, KL, f19, f46, f21, f47, f13, f11, f32, Fw10, f15⟩
 ·
  exact absurd (own_glt1 (n := 4) (k := (4 : Int32)) (by decide) (by have q0 := own_sub (x := ((5 : Int32) - (3 : Int32))) (k := (1 : Int32)) (n := 1) (lo := 2) (hi := 2) (by decide) (by have q0 := own_sub (x := (5 : Int32)) (k := (3 : Int32)) (n := 3) (lo := 5) (hi := 5) (by decide) (by have q0 := (by decide : ((5 : Int32)).toInt = 5); omega) (by decide) (by decide); omega) (by decide) (by decide); omega)) hc43
def l473_0 (o1 : Addr) (q2 : Int64) : Array Slot := #[.val (.ref o1), .val (.long q2), .second, .val (.int 3)]
def l473_1 (o1 : Addr) (q2 : Int64) : Array Slot := #[.val (.ref o1), .val (.long q2), .second, .val (.int 4)]
def l473_2 (o1 : Addr) (q2 : Int64) : Array Slot := #[.val (.ref o1), .val (.long q2), .second, .val (.int 5)]
theorem ef40 (m : MethodId) (x0 : Addr) (x1 : Int64) : entryFrame m #[(.ref x0), (.long x1)] 4 = mkF m 0 #[.val (.ref x0), .val (.long x1), .second, .unset] [] := by first | (simp [entryFrame, mkF, argsToLocals, Value.category]; done) | rfl
def Q40 (Z : State) (w1 : Addr) (kw1 : ClassId) (o1 o5 : Addr) (o7 o8 : Addr) (kc6 : ClassId) (q9 : Int64) (p3 p4 : Int32) (q2 : Int64) (h0 : Heap) (n0 : Nat) (v : Option Value) (h : Heap) (L : List Loc) : Prop :=
  (v = none ∧ Fr n0 L ∧ Keep h0 h [o7, o1] ∧ (Exa Z h o7 cn6) ∧ (Fld Z h o7 cn6 "removed" "J" (.long q2)) ∧ (Exa Z h o1 cn7) ∧ (Fld Z h o1 cn7 "addsFirst" "Z" (.int 0)) ∧ (Fld Z h o1 cn7 "end" "I" (.int 0)) ∧ (Fld Z h o1 cn7 "first" "I" (.int 0)) ∧ (Fld Z h o1 cn7 "low" "I" (.int 0)) ∧ (Fld Z h o1 cn7 "removed" "I" (.int 0)) ∧ (Fld Z h o1 cn7 "slots" cn3 (.ref w1)))
set_option maxRecDepth 65536 in
set_option maxHeartbeats 40000000 in
theorem rm40 (l : Launch) (Z : State) (a0 : Array Value) (hw : HW a0 Z) (w1 : Addr) (kw1 : ClassId) (G : GW Z w1 kw1) (ws : List Jvm.Cond) (o1 o5 : Addr) (o7 o8 : Addr) (kc6 : ClassId) (q9 : Int64) (p3 p4 : Int32) (q2 : Int64) (h0 : Heap) (n0 : Nat) (O0 : Old Z n0 h0) (g_o1 : n0 ≤ o1) (g_o5 : n0 ≤ o5) (g_o7 : n0 ≤ o7) (g_o8 : n0 ≤ o8) (ne_o8_o7 : o8 ≠ o7) (Ov_kc6 : Ovr Z kc6 cn6) (hp0 : ¬ (q9 = (9223372036854775807 : Int64))) (P0 : Exa Z h0 o1 cn7) (P1 : Fld Z h0 o1 cn7 "addsFirst" "Z" (.int p3)) (P2 : Fld Z h0 o1 cn7 "end" "I" (.int 5)) (P3 : Fld Z h0 o1 cn7 "first" "I" (.int 3)) (P4 : Fld Z h0 o1 cn7 "low" "I" (.int p4)) (P5 : Fld Z h0 o1 cn7 "removed" "I" (.int p3)) (P6 : Fld Z h0 o1 cn7 "slots" cn3 (.ref o5)) (P7 : Arv Z h0 o5 kc6 (.object cn6) (9 : Int32) [.null, .null, .null, (.ref o7), (.ref o8), .null, .null, .null, .null] .null) (P8 : Exa Z h0 o5 cn3) (P9 : Exa Z h0 o7 cn6) (P10 : Fld Z h0 o7 cn6 "removed" "J" (.long 9223372036854775807)) (P11 : Exa Z h0 o8 cn6) (P12 : Fld Z h0 o8 cn6 "removed" "J" (.long q9)) :
    MF l yn2 prog_41_method_9_code 4 none ws ({ frames := 1, cells := 0, slots := 0, locals := 14 } : Room) #[(.ref o1), (.long q2)] Z h0 (Q40 Z w1 kw1 o1 o5 o7 o8 kc6 q9 p3 p4 q2 h0 n0) := by
 obtain ⟨S_w1, A_w1⟩ := id G
 refine MetFree.of_bodySF (plainFor_of_name pn1) hisR ?_
 intro p e s m args below meth c s₁ Bd hml hP hK
 obtain ⟨rfl, hZ, hh⟩ := hP
 obtain ⟨hx, hby, hown, hret, hlk, X0, e0, N0⟩ := own_bd Bd hh n0
 have pre0 := own_ct s₁ (p := p) (e := e) (below := below) (ef40 m o1 q2)
 obtain ⟨T1, X1, e1, st1⟩ := yag X0 hx hZ hown hby (w_47 hw) e0 P3 0 #[.val (.ref o1), .val (.long q2), .second, .unset] [] d2_0 d2_1 rfl
 obtain ⟨T2, X2, e2, st2⟩ := yag X1 hx hZ hown hby (w_49 hw) e1 P2 6 (l473_0 o1 q2) [(.int 3)] d2_6 d2_7 rfl
 obtain ⟨T3, X3, e3, st3⟩ := yag X2 hx hZ hown hby (w_40 hw) e2 P6 13 (l473_0 o1 q2) [] d2_13 d2_14 rfl
 obtain ⟨cl4, Ar4, qa4, Sa4, Na4, Ha4, Ga4⟩ := id (P7)
 have hin4 := inb_of (j := (3 : Int32)) Sa4 ⟨by decide, by decide⟩
 have hat4 : cl4.slots[((3 : Int32)).toNatClampNeg]? = some (.ref o7) := Has.at Ha4 hin4 rfl
 obtain ⟨_, T5, L5, X5, hQ5, st5⟩ := yv X3 hx hZ hown hby hml (y := yn7) (w_113 hw) (w_82 hw) (w_84 hw) (w_83 hw) (w_85 hw) (w_5 hw) e3 P9 [] [] (rm17 l Z a0 hw [] o7 ((9223372036854775807 : Int64)) h0 n0 O0 g_o7 (by decide : (9223372036854775807 : Int64) = (9223372036854775807 : Int64)) P10) 19 (l473_0 o1 q2) rfl d2_19 (lenOf pd5 rfl) 0 0 0
 obtain ⟨rfl, Nq6, e7⟩ := hQ5
 have N5 := Fr.app N0 Nq6
 obtain ⟨T8, X8, e8, st8⟩ := yag X5 hx hZ hown hby (w_40 hw) e7 P6 25 (l473_0 o1 q2) [] d2_25 d2_26 rfl
 obtain ⟨cl9, Ar9, qa9, Sa9, Na9, Ha9, Ga9⟩ := id (P7)
 have hin9 := inb_of (j := (3 : Int32)) Sa9 ⟨by decide, by decide⟩
 have hat9 : cl9.slots[((3 : Int32)).toNatClampNeg]? = some (.ref o7) := Has.at Ha9 hin9 rfl
 obtain ⟨_, T10, L10, X10, hQ10, st10⟩ := yv X8 hx hZ hown hby hml (y := yn14) (w_114 hw) (w_115 hw) (own_w hw 117 rfl) (w_116 hw) (w_118 hw) (w_5 hw) e8 P9 [(.long q2)] [] (rm18 l Z a0 hw [] o7 q2 h0 n0 O0 g_o7 P9 P10) 32 (l473_0 o1 q2) rfl d2_32 (lenOf pd2 rfl) 0 0 0
 obtain ⟨rfl, Nq11, K12, f13, f14⟩ := hQ10
 have N10 := Fr.app N5 Nq11
 have O10 := Old.keep O0 K12 (allS g_o7 all0)
 have f15 := (P0.keep K12)
 have ne16 : o1 ≠ o7 := ne_exa f15 f13 (by decide)
 have f17 := (P2.keep K12 (ninS ne16 nin0))
 obtain ⟨T18, X18, e18, st18⟩ := yag X10 hx hZ hown hby (w_49 hw) rfl f17 6 (l473_1 o1 q2) [(.int 4)] d2_6 d2_7 rfl
 have f19 := (P6.keep K12 (ninS ne16 nin0))
 obtain ⟨T20, X20, e20, st20⟩ := yag X18 hx hZ hown hby (w_40 hw) e18 f19 13 (l473_1 o1 q2) [] d2_13 d2_14 rfl
 have f21 := (P8.keep K12)
 have ne22 : o5 ≠ o7 := ne_exa f21 f13 (by decide)
 have f23 := (P7.keep K12 (ninS ne22 nin0))
 obtain ⟨cl24, Ar24, qa24, Sa24, Na24, Ha24, Ga24⟩ := id (f23)
 have hin24 := inb_of (j := (4 : Int32)) Sa24 ⟨by decide, by decide⟩
 have hat24 : cl24.slots[((4 : Int32)).toNatClampNeg]? = some (.ref o8) := Has.at Ha24 hin24 rfl
 have f25 := (P12.keep K12 (ninS ne_o8_o7 nin0))
 have f26 := (P11.keep K12)
 obtain ⟨_, T27, L27, X27, hQ27, st27⟩ := yv X20 hx hZ hown hby hml (y := yn7) (w_113 hw) (w_82 hw) (w_84 hw) (w_83 hw) (w_85 hw) (w_5 hw) e20 f26 [] [] (rm21 l Z a0 hw [] o8 q9 T10.heap n0 O10 g_o8 hp0 f25) 19 (l473_1 o1 q2) rfl d2_19 (lenOf pd5 rfl) 0 0 0
 obtain ⟨rfl, Nq28, e29⟩ := hQ27
 have N27 := Fr.app N10 Nq28
 obtain ⟨T30, X30, e30, st30⟩ := yag X27 hx hZ hown hby (w_49 hw) e29 f17 6 (l473_2 o1 q2) [(.int 5)] d2_6 d2_7 rfl
 obtain ⟨T31, X31, e31, st31⟩ := getS2 X30 hx hZ hown (host := "") (Or.inl (own_w hw 38 rfl)) Via.refl e30 (S_w1.ext O10.2) (g := (mkF m 42 (l473_2 o1 q2) [(.ref o1)])) rfl (hb hby d2_42)
 obtain ⟨T32, h32, X32, e32, W32, st32⟩ := yp X31 hx hZ hown hby (w_40 hw) e31 f19 f15 (w_41 hw) (w_32 hw) (ty := (.array (.object cn6))) (v := (.ref w1)) (by decide) rfl rfl 45 (l473_2 o1 q2) [] d2_45
 have N32 := Fr.snoc X32 N27 g_o1
 have Fw32 := f19.same W32
 have f33 := ((P4.keep K12 (ninS ne16 nin0)).other W32 (Or.inr (sn47 hw)))
 have f34 := (f15.wr W32)
 obtain ⟨T35, h35, X35, e35, W35, st35⟩ := yp X32 hx hZ hown hby (w_51 hw) e32 f33 f34 (w_52 hw) (w_32 hw) (ty := .int) (v := (.int 0)) (by decide) rfl rfl 50 (l473_2 o1 q2) [] d2_50
 have N35 := Fr.snoc X35 N32 g_o1
 have Fw35 := f33.same W35
 have f36 := (((P3.keep K12 (ninS ne16 nin0)).other W32 (Or.inr (sn46 hw))).other W35 (Or.inr (sn49 hw)))
 have f37 := (f34.wr W35)
 obtain ⟨T38, h38, X38, e38, W38, st38⟩ := yp X35 hx hZ hown hby (w_47 hw) e35 f36 f37 (w_48 hw) (w_32 hw) (ty := .int) (v := (.int 0)) (by decide) rfl rfl 55 (l473_2 o1 q2) [] d2_55
 have N38 := Fr.snoc X38 N35 g_o1
 have Fw38 := f36.same W38
 have f39 := (((f17.other W32 (Or.inr (sn45 hw))).other W35 (Or.inr (sn50 hw))).other W38 (Or.inr (sn51 hw)))
 have f40 := (f37.wr W38)
 obtain ⟨T41, h41, X41, e41, W41, st41⟩ := yp X38 hx hZ hown hby (w_49 hw) e38 f39 f40 (w_50 hw) (w_32 hw) (ty := .int) (v := (.int 0)) (by decide) rfl rfl 60 (l473_2 o1 q2) [] d2_60
 have N41 := Fr.snoc X41 N38 g_o1
 have Fw41 := f39.same W41
 have f42 := (((((P5.keep K12 (ninS ne16 nin0)).other W32 (Or.inr (sn48 hw))).other W35 (Or.inr (sn52 hw))).other W38 (Or.inr (sn53 hw))).other W41 (Or.inr (sn54 hw)))
 have f43 := (f40.wr W41)
 obtain ⟨T44, h44, X44, e44, W44, st44⟩ := yp X41 hx hZ hown hby (w_53 hw) e41 f42 f43 (w_54 hw) (w_32 hw) (ty := .int) (v := (.int 0)) (by decide) rfl rfl 65 (l473_2 o1 q2) [] d2_65
 have N44 := Fr.snoc X44 N41 g_o1
 have Fw44 := f42.same W44
 have f45 := ((((((P1.keep K12 (ninS ne16 nin0)).other W32 (Or.inr (sn44 hw))).other W35 (Or.inr (sn55 hw))).other W38 (Or.inr (sn56 hw))).other W41 (Or.inr (sn57 hw))).other W44 (Or.inr (sn58 hw)))
 have f46 := (f43.wr W44)
 obtain ⟨T47, h47, X47, e47, W47, st47⟩ := putFN X44 hx hZ hown (own_w hw 55 rfl) Via.refl e44 f45 f46 (Or.inl (w_56 hw)) (w_32 hw) (ty := .boolean) (v' := (.int 0)) (by decide) rfl (by decide) (g := (mkF m 70 (l473_2 o1 q2) [(.int 0), (.ref o1)])) rfl rfl (hb hby d2_70)
 have N47 := Fr.snoc X47 N44 g_o1
 have Fw47 := f45.same W47
 obtain ⟨fs, hr, hrun, hended, hW, hsame⟩ := X47.leave (v := none) (fun _ => rfl)
 have KL : Keep h0 h47 [o7, o1] := ((((((((Keep.refl h0 [o7, o1]).trans K12 (allS (Or.inl (List.mem_of_getElem? (i := 0) rfl)) all0)).wr W32 (Or.inl (List.mem_of_getElem? (i := 1) rfl))).wr W35 (Or.inl (List.mem_of_getElem? (i := 1) rfl))).wr W38 (Or.inl (List.mem_of_getElem? (i := 1) rfl))).wr W41 (Or.inl (List.mem_of_getElem? (i := 1) rfl))).wr W44 (Or.inl (List.mem_of_getElem? (i := 1) rfl))).wr W47 (Or.inl (List.mem_of_getElem? (i := 1) rfl)))
 have f48 := ((((((f13.wr W32).wr W35).wr W38).wr W41).wr W44).wr W47)
 have f49 := ((((((f14.other W32 (Or.inl (Ne.symm ne16))).other W35 (Or.inl (Ne.symm ne16))).other W38 (Or.inl (Ne.symm ne16))).other W41 (Or.inl (Ne.symm ne16))).other W44 (Or.inl (Ne.symm ne16))).other W47 (Or.inl (Ne.symm ne16)))
 have f50 := (f46.wr W47)
 have f51 := ((Fw41.other W44 (Or.inr (sn59 hw))).other W47 (Or.inr (sn60 hw)))
 have f52 := (((Fw38.other W41 (Or.inr (sn61 hw))).other W44 (Or.inr (sn62 hw))).other W47 (Or.inr (sn63 hw)))
 have f53 := ((((Fw35.other W38 (Or.inr (sn64 hw))).other W41 (Or.inr (sn65 hw))).other W44 (Or.inr (sn66 hw))).other W47 (Or.inr (sn67 hw)))
 have f54 := (Fw44.other W47 (Or.inr (sn68 hw)))
 have f55 := (((((Fw32.other W35 (Or.inr (sn69 hw))).other W38 (Or.inr (sn70 hw))).other W41 (Or.inr (sn71 hw))).other W44 (Or.inr (sn72 hw))).other W47 (Or.inr (sn73 hw)))
 refine ⟨_, _, pre0 _ ?_, hrun, hended, _, _, rfl, ?_, ⟨_, rfl⟩, hW, hsame.mono (by decide) (by decide)⟩
 ·
  refine st1 _ ?_
  refine yit X1 hx hby d2_4 (l' := (l473_0 o1 q2)) rfl ?_
  refine yin X1 hx hby d2_5 rfl ?_
  refine st2 _ ?_
  refine yno X2 hx hby d2_10 (tlt (by decide : (3 : Int32) < (5 : Int32))).2.1 ?_
  refine st3 _ ?_
  refine yin X3 hx hby d2_17 rfl ?_
  refine X3.aaload hx (j := (3 : Int32)) (v := (.ref o7)) (by rw [e3]; exact Ar4.1) (State.isArrayOf_alike hZ.alike Ar4.2.1) rfl Ar4.2.2 hin4 hat4 (g := (mkF m 18 (l473_0 o1 q2) [(.int 3), (.ref o5)])) rfl rfl (hb hby d2_18) _ ?_
  refine st5 _ ?_
  refine yfn X5 hx hby d2_22 ((if0 _ _).trans (feq (by decide : ¬ ((1 : Int32) = (0 : Int32)))).1) ?_
  refine st8 _ ?_
  refine yin X8 hx hby d2_29 rfl ?_
  refine X8.aaload hx (j := (3 : Int32)) (v := (.ref o7)) (by rw [e8]; exact Ar9.1) (State.isArrayOf_alike hZ.alike Ar9.2.1) rfl Ar9.2.2 hin9 hat9 (g := (mkF m 30 (l473_0 o1 q2) [(.int 3), (.ref o5)])) rfl rfl (hb hby d2_30) _ ?_
  refine XS.lloadN X8.here hx rfl (hb hby d2_31) rfl ?_
  refine st10 _ ?_
  refine XS.iinc X10.here hx rfl (hb hby d2_35) rfl (l' := (l473_1 o1 q2)) rfl ?_
  refine ygo X10 hx hby 38 5 rfl d2_38 (by decide) ?_
  refine yin X10 hx hby d2_5 rfl ?_
  refine st18 _ ?_
  refine yno X18 hx hby d2_10 (tlt (by decide : (4 : Int32) < (5 : Int32))).2.1 ?_
  refine st20 _ ?_
  refine yin X20 hx hby d2_17 rfl ?_
  refine X20.aaload hx (j := (4 : Int32)) (v := (.ref o8)) (by rw [e20]; exact Ar24.1) (State.isArrayOf_alike hZ.alike Ar24.2.1) rfl Ar24.2.2 hin24 hat24 (g := (mkF m 18 (l473_1 o1 q2) [(.int 4), (.ref o5)])) rfl rfl (hb hby d2_18) _ ?_
  refine st27 _ ?_
  refine XS.ifYes X27.here hx rfl (pc0 := 22) (pc' := 35) rfl (hb hby d2_22) rfl ((if0 _ _).trans (teq (by decide : (0 : Int32) = (0 : Int32))).1) (by decide) (by decide) ?_
  refine XS.iinc X27.here hx rfl (hb hby d2_35) rfl (l' := (l473_2 o1 q2)) rfl ?_
  refine ygo X27 hx hby 38 5 rfl d2_38 (by decide) ?_
  refine yin X27 hx hby d2_5 rfl ?_
  refine st30 _ ?_
  refine yye X30 hx hby 10 41 rfl d2_10 (flt (by decide : ¬ ((5 : Int32) < (5 : Int32)))).2.1 (by decide) ?_
  refine yan X30 hx hby d2_41 rfl rfl ?_
  refine st31 _ ?_
  refine st32 _ ?_
  show Steps p.tables e below (T32.setTop (mkF m 48 (l473_2 o1 q2) [])) _
  refine yan X32 hx hby d2_48 rfl rfl ?_
  refine yic X32 hx hby d2_49 ?_
  refine st35 _ ?_
  refine yan X35 hx hby d2_53 rfl rfl ?_
  refine yic X35 hx hby d2_54 ?_
  refine st38 _ ?_
  refine yan X38 hx hby d2_58 rfl rfl ?_
  refine yic X38 hx hby d2_59 ?_
  refine st41 _ ?_
  refine yan X41 hx hby d2_63 rfl rfl ?_
  refine yic X41 hx hby d2_64 ?_
  refine st44 _ ?_
  refine yan X44 hx hby d2_68 rfl rfl ?_
  refine yic X44 hx hby d2_69 ?_
  refine st47 _ ?_
  show Steps p.tables e below (T47.setTop (mkF m 73 (l473_2 o1 q2) [])) _
  exact X47.returnOut hx hret (hb hby d2_73) hr
 ·
  show Q40 Z w1 kw1 o1 o5 o7 o8 kc6 q9 p3 p4 q2 h0 n0 _ T47.heap _
  rw [e47]
  exact ⟨rfl, N47, KL, f48, f49, f50, Fw47, f51, f52, f53, f54, f55⟩
def l474_0 (o1 o2 : Addr) (q3 : Int64) : Array Slot := #[.val (.ref o1), .val (.ref o2), .val (.long q3), .second]
theorem ef41 (m : MethodId) (x0 x1 : Addr) (x2 : Int64) : entryFrame m #[(.ref x0), (.ref x1), (.long x2)] 4 = mkF m 0 #[.val (.ref x0), .val (.ref x1), .val (.long x2), .second] [] := by first | (simp [entryFrame, mkF, argsToLocals, Value.category]; done) | rfl
def Q41 (Z : State) (o1 o2 : Addr) (o4 o6 : Addr) (kc5 : ClassId) (q3 q7 : Int64) (h0 : Heap) (n0 : Nat) (v : Option Value) (h : Heap) (L : List Loc) : Prop :=
  (v = none ∧ Fr n0 L ∧ Keep h0 h [o2, o1] ∧ (Exa Z h o2 cn6) ∧ (Fld Z h o2 cn6 "removed" "J" (.long q3)) ∧ (Exa Z h o1 cn7) ∧ (Fld Z h o1 cn7 "addsFirst" "Z" (.int 1)) ∧ (Fld Z h o1 cn7 "end" "I" (.int 5)) ∧ (Fld Z h o1 cn7 "first" "I" (.int 5)) ∧ (Fld Z h o1 cn7 "low" "I" (.int 3)) ∧ (Fld Z h o1 cn7 "removed" "I" (.int 0)) ∧ (Fld Z h o1 cn7 "slots" cn3 (.ref o4)))
set_option maxRecDepth 65536 in
set_option maxHeartbeats 40000000 in
theorem rm41 (l : Launch) (Z : State) (a0 : Array Value) (hw : HW a0 Z) (ws : List Jvm.Cond) (o1 o2 : Addr) (o4 o6 : Addr) (kc5 : ClassId) (q3 q7 : Int64) (h0 : Heap) (n0 : Nat) (O0 : Old Z n0 h0) (g_o1 : n0 ≤ o1) (g_o2 : n0 ≤ o2) (g_o4 : n0 ≤ o4) (g_o6 : n0 ≤ o6) (ne_o6_o2 : o6 ≠ o2) (Ov_kc5 : Ovr Z kc5 cn6) (hp0 : ¬ (q3 = (9223372036854775807 : Int64))) (hp1 : ¬ (q7 = (9223372036854775807 : Int64))) (P0 : Exa Z h0 o1 cn7) (P1 : Fld Z h0 o1 cn7 "addsFirst" "Z" (.int 1)) (P2 : Fld Z h0 o1 cn7 "end" "I" (.int 5)) (P3 : Fld Z h0 o1 cn7 "first" "I" (.int 3)) (P4 : Fld Z h0 o1 cn7 "low" "I" (.int 3)) (P5 : Fld Z h0 o1 cn7 "removed" "I" (.int 1)) (P6 : Fld Z h0 o1 cn7 "slots" cn3 (.ref o4)) (P7 : Exa Z h0 o2 cn6) (P8 : Fld Z h0 o2 cn6 "removed" "J" (.long 9223372036854775807)) (P9 : Arv Z h0 o4 kc5 (.object cn6) (9 : Int32) [.null, .null, .null, (.ref o2), (.ref o6), .null, .null, .null, .null] .null) (P10 : Exa Z h0 o4 cn3) (P11 : Exa Z h0 o6 cn6) (P12 : Fld Z h0 o6 cn6 "removed" "J" (.long q7)) :
    MF l yn15 prog_41_method_8_code 4 none ws ({ frames := 1, cells := 0, slots := 0, locals := 14 } : Room) #[(.ref o1), (.ref o2), (.long q3)] Z h0 (Q41 Z o1 o2 o4 o6 kc5 q3 q7 h0 n0) := by
 refine MetFree.of_bodySF (plainFor_of_name pn1) hisR ?_
 intro p e s m args below meth c s₁ Bd hml hP hK
 obtain ⟨rfl, hZ, hh⟩ := hP
 obtain ⟨hx, hby, hown, hret, hlk, X0, e0, N0⟩ := own_bd Bd hh n0
 have pre0 := own_ct s₁ (p := p) (e := e) (below := below) (ef41 m o1 o2 q3)
 revert pre0
 generalize s₁.setTop (entryFrame m #[(.ref o1), (.ref o2), (.long q3)] 4) = E0
 intro pre0
 obtain ⟨_, T1, L1, X1, hQ1, st1⟩ := yv X0 hx hZ hown hby hml (y := yn14) (w_114 hw) (w_115 hw) (own_w hw 117 rfl) (w_116 hw) (w_118 hw) (w_5 hw) e0 P7 [(.long q3)] [] (rm20 l Z a0 hw [] o2 q3 h0 n0 O0 g_o2 hp0 P7 P8) 2 (l474_0 o1 o2 q3) rfl d15_2 (lenOf pd2 rfl) 0 0 0
 obtain ⟨rfl, Nq2, K3, f4, f5⟩ := hQ1
 have N1 := Fr.app N0 Nq2
 have O1 := Old.keep O0 K3 (allS g_o2 all0)
 have f6 := (P0.keep K3)
 have ne7 : o1 ≠ o2 := ne_exa f6 f4 (by decide)
 have f8 := (P5.keep K3 (ninS ne7 nin0))
 obtain ⟨T9, X9, e9, st9⟩ := yg X1 hx hZ hown hby (w_53 hw) rfl f8 7 (l474_0 o1 o2 q3) [(.ref o1)] d15_7
 obtain ⟨T10, h10, X10, e10, W10, st10⟩ := yp X9 hx hZ hown hby (w_53 hw) e9 f8 f6 (w_54 hw) (w_32 hw) (ty := .int) (v := (.int 2)) (by decide) rfl rfl 12 (l474_0 o1 o2 q3) [] d15_12
 have N10 := Fr.snoc X10 N1 g_o1
 have Fw10 := f8.same W10
 have O10 := Old.wr O1 W10 g_o1
 have f11 := ((P3.keep K3 (ninS ne7 nin0)).other W10 (Or.inr (sn62 hw)))
 obtain ⟨T12, X12, e12, st12⟩ := yag X10 hx hZ hown hby (w_47 hw) e10 f11 15 (l474_0 o1 o2 q3) [] d15_15 d15_16 rfl
 have f13 := ((P2.keep K3 (ninS ne7 nin0)).other W10 (Or.inr (sn59 hw)))
 obtain ⟨T14, X14, e14, st14⟩ := yag X12 hx hZ hown hby (w_49 hw) e12 f13 19 (l474_0 o1 o2 q3) [(.int 3)] d15_19 d15_20 rfl
 have f15 := ((P6.keep K3 (ninS ne7 nin0)).other W10 (Or.inr (sn72 hw)))
 obtain ⟨T16, X16, e16, st16⟩ := yag X14 hx hZ hown hby (w_40 hw) e14 f15 26 (l474_0 o1 o2 q3) [] d15_26 d15_27 rfl
 obtain ⟨T17, X17, e17, st17⟩ := yag X16 hx hZ hown hby (w_47 hw) e16 f11 30 (l474_0 o1 o2 q3) [(.ref o4)] d15_30 d15_31 rfl
 have f18 := ((P10.keep K3).wr W10)
 have f19 := (f4.wr W10)
 have ne20 : o4 ≠ o2 := ne_exa f18 f19 (by decide)
 have f21 := (f6.wr W10)
 have ne22 : o4 ≠ o1 := ne_exa f18 f21 (by decide)
 have f23 := ((P9.keep K3 (ninS ne20 nin0)).other W10 ne22)
 obtain ⟨cl24, Ar24, qa24, Sa24, Na24, Ha24, Ga24⟩ := id (f23)
 have hin24 := inb_of (j := (3 : Int32)) Sa24 ⟨by decide, by decide⟩
 have hat24 : cl24.slots[((3 : Int32)).toNatClampNeg]? = some (.ref o2) := Has.at Ha24 hin24 rfl
 have f25 := (f5.other W10 (Or.inl (Ne.symm ne7)))
 obtain ⟨_, T26, L26, X26, hQ26, st26⟩ := yv X17 hx hZ hown hby hml (y := yn7) (w_113 hw) (w_82 hw) (w_84 hw) (w_83 hw) (w_85 hw) (w_5 hw) e17 f19 [] [] (rm21 l Z a0 hw [] o2 q3 h10 n0 O10 g_o2 hp0 f25) 35 (l474_0 o1 o2 q3) rfl d15_35 (lenOf pd5 rfl) 0 0 0
 obtain ⟨rfl, Nq27, e28⟩ := hQ26
 have N26 := Fr.app N10 Nq27
 obtain ⟨T29, X29, e29, st29⟩ := yg X26 hx hZ hown hby (w_47 hw) e28 f11 43 (l474_0 o1 o2 q3) [(.ref o1)] d15_43
 obtain ⟨T30, h30, X30, e30, W30, st30⟩ := yp X29 hx hZ hown hby (w_47 hw) e29 f11 f21 (w_48 hw) (w_32 hw) (ty := .int) (v := (.int 4)) (by decide) rfl rfl 48 (l474_0 o1 o2 q3) [] d15_48
 have N30 := Fr.snoc X30 N26 g_o1
 have Fw30 := f11.same W30
 have O30 := Old.wr O10 W30 g_o1
 have f31 := (Fw10.other W30 (Or.inr (sn53 hw)))
 obtain ⟨T32, X32, e32, st32⟩ := yg X30 hx hZ hown hby (w_53 hw) e30 f31 53 (l474_0 o1 o2 q3) [(.ref o1)] d15_53
 have f33 := (f21.wr W30)
 obtain ⟨T34, h34, X34, e34, W34, st34⟩ := yp X32 hx hZ hown hby (w_53 hw) e32 f31 f33 (w_54 hw) (w_32 hw) (ty := .int) (v := (.int 1)) (by decide) rfl rfl 58 (l474_0 o1 o2 q3) [] d15_58
 have N34 := Fr.snoc X34 N30 g_o1
 have Fw34 := f31.same W34
 have O34 := Old.wr O30 W34 g_o1
 have f35 := (Fw30.other W34 (Or.inr (sn62 hw)))
 obtain ⟨T36, X36, e36, st36⟩ := yag X34 hx hZ hown hby (w_47 hw) e34 f35 15 (l474_0 o1 o2 q3) [] d15_15 d15_16 rfl
 have f37 := ((f13.other W30 (Or.inr (sn51 hw))).other W34 (Or.inr (sn59 hw)))
 obtain ⟨T38, X38, e38, st38⟩ := yag X36 hx hZ hown hby (w_49 hw) e36 f37 19 (l474_0 o1 o2 q3) [(.int 4)] d15_19 d15_20 rfl
 have f39 := ((f15.other W30 (Or.inr (sn70 hw))).other W34 (Or.inr (sn72 hw)))
 obtain ⟨T40, X40, e40, st40⟩ := yag X38 hx hZ hown hby (w_40 hw) e38 f39 26 (l474_0 o1 o2 q3) [] d15_26 d15_27 rfl
 obtain ⟨T41, X41, e41, st41⟩ := yag X40 hx hZ hown hby (w_47 hw) e40 f35 30 (l474_0 o1 o2 q3) [(.ref o4)] d15_30 d15_31 rfl
 have f42 := ((f23.other W30 ne22).other W34 ne22)
 obtain ⟨cl43, Ar43, qa43, Sa43, Na43, Ha43, Ga43⟩ := id (f42)
 have hin43 := inb_of (j := (4 : Int32)) Sa43 ⟨by decide, by decide⟩
 have hat43 : cl43.slots[((4 : Int32)).toNatClampNeg]? = some (.ref o6) := Has.at Ha43 hin43 rfl
 have f44 := ((((P11.keep K3).wr W10).wr W30).wr W34)
 have f45 := (f33.wr W34)
 have ne46 : o6 ≠ o1 := ne_exa f44 f45 (by decide)
 have f47 := ((((P12.keep K3 (ninS ne_o6_o2 nin0)).other W10 (Or.inl ne46)).other W30 (Or.inl ne46)).other W34 (Or.inl ne46))
 obtain ⟨_, T48, L48, X48, hQ48, st48⟩ := yv X41 hx hZ hown hby hml (y := yn7) (w_113 hw) (w_82 hw) (w_84 hw) (w_83 hw) (w_85 hw) (w_5 hw) e41 f44 [] [] (rm21 l Z a0 hw [] o6 q7 h34 n0 O34 g_o6 hp1 f47) 35 (l474_0 o1 o2 q3) rfl d15_35 (lenOf pd5 rfl) 0 0 0
 obtain ⟨rfl, Nq49, e50⟩ := hQ48
 have N48 := Fr.app N34 Nq49
 obtain ⟨T51, X51, e51, st51⟩ := yg X48 hx hZ hown hby (w_47 hw) e50 f35 43 (l474_0 o1 o2 q3) [(.ref o1)] d15_43
 obtain ⟨T52, h52, X52, e52, W52, st52⟩ := yp X51 hx hZ hown hby (w_47 hw) e51 f35 f45 (w_48 hw) (w_32 hw) (ty := .int) (v := (.int 5)) (by decide) rfl rfl 48 (l474_0 o1 o2 q3) [] d15_48
 have N52 := Fr.snoc X52 N48 g_o1
 have Fw52 := f35.same W52
 have O52 := Old.wr O34 W52 g_o1
 have f53 := (Fw34.other W52 (Or.inr (sn53 hw)))
 obtain ⟨T54, X54, e54, st54⟩ := yg X52 hx hZ hown hby (w_53 hw) e52 f53 53 (l474_0 o1 o2 q3) [(.ref o1)] d15_53
 have f55 := (f45.wr W52)
 obtain ⟨T56, h56, X56, e56, W56, st56⟩ := yp X54 hx hZ hown hby (w_53 hw) e54 f53 f55 (w_54 hw) (w_32 hw) (ty := .int) (v := (.int 0)) (by decide) rfl rfl 58 (l474_0 o1 o2 q3) [] d15_58
 have N56 := Fr.snoc X56 N52 g_o1
 have Fw56 := f53.same W56
 have O56 := Old.wr O52 W56 g_o1
 have f57 := (Fw52.other W56 (Or.inr (sn62 hw)))
 obtain ⟨T58, X58, e58, st58⟩ := yag X56 hx hZ hown hby (w_47 hw) e56 f57 15 (l474_0 o1 o2 q3) [] d15_15 d15_16 rfl
 have f59 := ((f37.other W52 (Or.inr (sn51 hw))).other W56 (Or.inr (sn59 hw)))
 obtain ⟨T60, X60, e60, st60⟩ := yag X58 hx hZ hown hby (w_49 hw) e58 f59 19 (l474_0 o1 o2 q3) [(.int 5)] d15_19 d15_20 rfl
 obtain ⟨T61, X61, e61, st61⟩ := yag X60 hx hZ hown hby (w_47 hw) e60 f57 64 (l474_0 o1 o2 q3) [] d15_64 d15_65 rfl
 have f62 := ((((((P4.keep K3 (ninS ne7 nin0)).other W10 (Or.inr (sn66 hw))).other W30 (Or.inr (sn64 hw))).other W34 (Or.inr (sn66 hw))).other W52 (Or.inr (sn64 hw))).other W56 (Or.inr (sn66 hw)))
 obtain ⟨T63, X63, e63, st63⟩ := yag X61 hx hZ hown hby (w_51 hw) e61 f62 68 (l474_0 o1 o2 q3) [(.int 5)] d15_68 d15_69 rfl
 obtain ⟨T64, X64, e64, st64⟩ := yag X63 hx hZ hown hby (w_53 hw) e63 Fw56 73 (l474_0 o1 o2 q3) [(.int 2)] d15_73 d15_74 rfl
 have f65 := (f55.wr W56)
 obtain ⟨_, T66, L66, X66, hQ66, st66⟩ := yv X64 hx hZ hown hby hml (y := yn3) (own_w hw 100 rfl) (w_58 hw) (own_w hw 60 rfl) (w_59 hw) (own_w hw 61 rfl) (w_33 hw) e64 f65 [] [(.int 2)] (rm4 l Z a0 hw [] o1 ((5 : Int32)) ((5 : Int32)) ((0 : Int32)) h56 n0 O56 g_o1 f59 f57 Fw56) 79 (l474_0 o1 o2 q3) rfl d15_79 (lenOf pd3 rfl) 1 0 0
 obtain ⟨rfl, Nq67, e68⟩ := hQ66
 have N66 := Fr.app N56 Nq67
 obtain ⟨_, T69, L69, X69, hQ69, st69⟩ := own_cs X66 hx hZ hown (y := yn10) (own_w hw 101 rfl) (own_w hw 102 rfl) (own_w hw 104 rfl) (w_103 hw) e68 (argsL := [(.int (((5 : Int32) - (5 : Int32)) - (0 : Int32))), (.int 4)]) (rest := [(.int 2)]) (rm11 l Z a0 hw [] ((((5 : Int32) - (5 : Int32)) - (0 : Int32))) ((4 : Int32)) h56 n0 O56 ) (g := (mkF m 83 (l474_0 o1 o2 q3) [(.int 4), (.int (((5 : Int32) - (5 : Int32)) - (0 : Int32))), (.int 2)])) rfl (by rw [hml]; rfl) rfl (hb hby d15_83) (lenOf pd8 rfl) (W := 1) (c1 := 0) (s1 := 0)
 have pre70 : Go p e below T66 (mkF m 83 (l474_0 o1 o2 q3) [(.int 4), (.int (((5 : Int32) - (5 : Int32)) - (0 : Int32))), (.int 2)]) E0 := fun t k => by
  refine pre0 _ ?_
  refine yan X0 hx hby d15_0 rfl rfl ?_
  refine XS.lloadN X0.here hx rfl (hb hby d15_1) rfl ?_
  refine st1 _ ?_
  refine yan X1 hx hby d15_5 rfl rfl ?_
  refine XS.dup X1.here hx rfl (hb hby d15_6) rfl rfl ?_
  refine st9 _ ?_
  refine yic X9 hx hby d15_10 ?_
  refine yad X9 hx hby d15_11 ?_
  refine st10 _ ?_
  refine st12 _ ?_
  refine st14 _ ?_
  refine yno X14 hx hby d15_23 (tlt (by decide : (3 : Int32) < (5 : Int32))).2.1 ?_
  refine st16 _ ?_
  refine st17 _ ?_
  refine X17.aaload hx (j := (3 : Int32)) (v := (.ref o2)) (by rw [e17]; exact Ar24.1) (State.isArrayOf_alike hZ.alike Ar24.2.1) rfl Ar24.2.2 hin24 hat24 (g := (mkF m 34 (l474_0 o1 o2 q3) [(.int 3), (.ref o4)])) rfl rfl (hb hby d15_34) _ ?_
  refine st26 _ ?_
  refine yfn X26 hx hby d15_38 ((if0 _ _).trans (teq (by decide : (0 : Int32) = (0 : Int32))).2) ?_
  refine yan X26 hx hby d15_41 rfl rfl ?_
  refine XS.dup X26.here hx rfl (hb hby d15_42) rfl rfl ?_
  refine st29 _ ?_
  refine yic X29 hx hby d15_46 ?_
  refine yad X29 hx hby d15_47 ?_
  refine st30 _ ?_
  refine yan X30 hx hby d15_51 rfl rfl ?_
  refine XS.dup X30.here hx rfl (hb hby d15_52) rfl rfl ?_
  refine st32 _ ?_
  refine yic X32 hx hby d15_56 ?_
  refine ysu X32 hx hby d15_57 ?_
  refine st34 _ ?_
  refine ygo X34 hx hby 61 15 rfl d15_61 (by decide) ?_
  refine st36 _ ?_
  refine st38 _ ?_
  refine yno X38 hx hby d15_23 (tlt (by decide : (4 : Int32) < (5 : Int32))).2.1 ?_
  show Steps p.tables e below (T38.setTop (mkF m 26 (l474_0 o1 o2 q3) [])) _
  refine st40 _ ?_
  refine st41 _ ?_
  refine X41.aaload hx (j := (4 : Int32)) (v := (.ref o6)) (by rw [e41]; exact Ar43.1) (State.isArrayOf_alike hZ.alike Ar43.2.1) rfl Ar43.2.2 hin43 hat43 (g := (mkF m 34 (l474_0 o1 o2 q3) [(.int 4), (.ref o4)])) rfl rfl (hb hby d15_34) _ ?_
  refine st48 _ ?_
  refine yfn X48 hx hby d15_38 ((if0 _ _).trans (teq (by decide : (0 : Int32) = (0 : Int32))).2) ?_
  refine yan X48 hx hby d15_41 rfl rfl ?_
  refine XS.dup X48.here hx rfl (hb hby d15_42) rfl rfl ?_
  refine st51 _ ?_
  refine yic X51 hx hby d15_46 ?_
  refine yad X51 hx hby d15_47 ?_
  refine st52 _ ?_
  refine yan X52 hx hby d15_51 rfl rfl ?_
  refine XS.dup X52.here hx rfl (hb hby d15_52) rfl rfl ?_
  refine st54 _ ?_
  refine yic X54 hx hby d15_56 ?_
  refine ysu X54 hx hby d15_57 ?_
  refine st56 _ ?_
  refine ygo X56 hx hby 61 15 rfl d15_61 (by decide) ?_
  refine st58 _ ?_
  refine st60 _ ?_
  refine yye X60 hx hby 23 64 rfl d15_23 (flt (by decide : ¬ ((5 : Int32) < (5 : Int32)))).2.1 (by decide) ?_
  refine st61 _ ?_
  refine st63 _ ?_
  refine ysu X63 hx hby d15_72 ?_
  refine st64 _ ?_
  refine yad X64 hx hby d15_77 ?_
  refine yan X64 hx hby d15_78 rfl rfl ?_
  refine st66 _ ?_
  refine yic X66 hx hby d15_82 ?_
  exact k
 rcases hQ69 with ⟨hc71, rfl, Nq72, e73⟩ | ⟨hc74, rfl, Nq75, e76⟩
 ·
  have N69 := Fr.app N66 Nq72
  obtain ⟨fs, hr, hrun, hended, hW, hsame⟩ := X69.leave (v := none) (fun _ => rfl)
  have KL : Keep h0 h56 [o2, o1] := (((((((Keep.refl h0 [o2, o1]).trans K3 (allS (Or.inl (List.mem_of_getElem? (i := 0) rfl)) all0)).wr W10 (Or.inl (List.mem_of_getElem? (i := 1) rfl))).wr W30 (Or.inl (List.mem_of_getElem? (i := 1) rfl))).wr W34 (Or.inl (List.mem_of_getElem? (i := 1) rfl))).wr W52 (Or.inl (List.mem_of_getElem? (i := 1) rfl))).wr W56 (Or.inl (List.mem_of_getElem? (i := 1) rfl)))
  have f77 := ((((f19.wr W30).wr W34).wr W52).wr W56)
  have f78 := ((((f25.other W30 (Or.inl (Ne.symm ne7))).other W34 (Or.inl (Ne.symm ne7))).other W52 (Or.inl (Ne.symm ne7))).other W56 (Or.inl (Ne.symm ne7)))
  have f79 := ((((((P1.keep K3 (ninS ne7 nin0)).other W10 (Or.inr (sn58 hw))).other W30 (Or.inr (sn56 hw))).other W34 (Or.inr (sn58 hw))).other W52 (Or.inr (sn56 hw))).other W56 (Or.inr (sn58 hw)))
  have f80 := ((f39.other W52 (Or.inr (sn70 hw))).other W56 (Or.inr (sn72 hw)))
  refine ⟨_, _, pre70 _ ?_, hrun, hended, _, _, rfl, ?_, ⟨_, rfl⟩, hW, hsame.mono (by decide) (by decide)⟩
  ·
   refine st69 _ ?_
   refine yye X69 hx hby 86 93 rfl d15_86 (flt (by decide : ¬ ((4 : Int32) < (2 : Int32)))).2.2.2 (by decide) ?_
   show Steps p.tables e below (T69.setTop (mkF m 93 (l474_0 o1 o2 q3) [])) _
   exact X69.returnOut hx hret (hb hby d15_93) hr
  ·
   show Q41 Z o1 o2 o4 o6 kc5 q3 q7 h0 n0 _ T69.heap _
   rw [e73]
   exact ⟨rfl, N69, KL, f77, f78, f65, f79, f59, f57, f62, Fw56, f80⟩
 ·
  exact absurd (own_glt1 (n := 4) (k := (4 : Int32)) (by decide) (by have q0 := own_sub (x := ((5 : Int32) - (5 : Int32))) (k := (0 : Int32)) (n := 0) (lo := 0) (hi := 0) (by decide) (by have q0 := own_sub (x := (5 : Int32)) (k := (5 : Int32)) (n := 5) (lo := 5) (hi := 5) (by decide) (by have q0 := (by decide : ((5 : Int32)).toInt = 5); omega) (by decide) (by decide); omega) (by decide) (by decide); omega)) hc74
def l475_0 (dp1 : Int32) (dq2 q3 q4 : Int64) (dp3 dp4 : Int32) (zz51 zz52 zz53 : Int32) (dq50 : Int64) (da5 o6 : Addr) (o7 o8 o9 : Addr) : Array Slot := #[.val (.int dp1), .val (.long dq2), .second, .val (.long q3), .second, .val (.long q4), .second, .val (.int 1), .val (.int 1), .val (.int dp3), .val (.int dp4), .val (.int zz51), .val (.int zz52), .val (.int zz53), .val (.long dq50), .second, .val (.ref da5), .val (.ref o6), .val (.ref o7), .val (.ref o8), .val (.ref o9), .unset, .unset, .unset, .unset, .unset, .unset, .unset, .unset, .unset]
def l475_1 (dp1 : Int32) (dq2 q3 q4 : Int64) (dp3 dp4 : Int32) (zz52 zz53 : Int32) (dq50 : Int64) (da5 o6 : Addr) (o7 o8 o9 : Addr) : Array Slot := #[.val (.int dp1), .val (.long dq2), .second, .val (.long q3), .second, .val (.long q4), .second, .val (.int 1), .val (.int 1), .val (.int dp3), .val (.int dp4), .val (.int 0), .val (.int zz52), .val (.int zz53), .val (.long dq50), .second, .val (.ref da5), .val (.ref o6), .val (.ref o7), .val (.ref o8), .val (.ref o9), .unset, .unset, .unset, .unset, .unset, .unset, .unset, .unset, .unset]
def l475_2 (dp1 : Int32) (dq2 q3 q4 : Int64) (dp3 dp4 : Int32) (zz52 zz53 : Int32) (dq50 : Int64) (da5 o6 : Addr) (o7 o8 o9 : Addr) : Array Slot := #[.val (.int dp1), .val (.long dq2), .second, .val (.long q3), .second, .val (.long q4), .second, .val (.int 1), .val (.int 1), .val (.int dp3), .val (.int dp4), .val (.int 1), .val (.int zz52), .val (.int zz53), .val (.long dq50), .second, .val (.ref da5), .val (.ref o6), .val (.ref o7), .val (.ref o8), .val (.ref o9), .unset, .unset, .unset, .unset, .unset, .unset, .unset, .unset, .unset]
def l475_3 (dp1 : Int32) (dq2 q3 q4 : Int64) (dp3 dp4 zz53 : Int32) (dq50 : Int64) (da5 o6 : Addr) (o7 o8 o9 : Addr) : Array Slot := #[.val (.int dp1), .val (.long dq2), .second, .val (.long q3), .second, .val (.long q4), .second, .val (.int 1), .val (.int 1), .val (.int dp3), .val (.int dp4), .val (.int 0), .val (.int 0), .val (.int zz53), .val (.long dq50), .second, .val (.ref da5), .val (.ref o6), .val (.ref o7), .val (.ref o8), .val (.ref o9), .unset, .unset, .unset, .unset, .unset, .unset, .unset, .unset, .unset]
def l475_4 (dp1 : Int32) (dq2 q3 q4 : Int64) (dp3 dp4 zz53 : Int32) (dq50 : Int64) (da5 o6 : Addr) (o7 o8 o9 : Addr) : Array Slot := #[.val (.int dp1), .val (.long dq2), .second, .val (.long q3), .second, .val (.long q4), .second, .val (.int 1), .val (.int 1), .val (.int dp3), .val (.int dp4), .val (.int 0), .val (.int 1), .val (.int zz53), .val (.long dq50), .second, .val (.ref da5), .val (.ref o6), .val (.ref o7), .val (.ref o8), .val (.ref o9), .unset, .unset, .unset, .unset, .unset, .unset, .unset, .unset, .unset]
def l475_5 (dp1 : Int32) (dq2 q3 q4 : Int64) (dp3 dp4 zz53 : Int32) (dq50 : Int64) (da5 o6 : Addr) (o7 o8 o9 : Addr) : Array Slot := #[.val (.int dp1), .val (.long dq2), .second, .val (.long q3), .second, .val (.long q4), .second, .val (.int 1), .val (.int 1), .val (.int dp3), .val (.int dp4), .val (.int 1), .val (.int 0), .val (.int zz53), .val (.long dq50), .second, .val (.ref da5), .val (.ref o6), .val (.ref o7), .val (.ref o8), .val (.ref o9), .unset, .unset, .unset, .unset, .unset, .unset, .unset, .unset, .unset]
def l475_6 (dp1 : Int32) (dq2 q3 q4 : Int64) (dp3 dp4 zz53 : Int32) (dq50 : Int64) (da5 o6 : Addr) (o7 o8 o9 : Addr) : Array Slot := #[.val (.int dp1), .val (.long dq2), .second, .val (.long q3), .second, .val (.long q4), .second, .val (.int 1), .val (.int 1), .val (.int dp3), .val (.int dp4), .val (.int 1), .val (.int 1), .val (.int zz53), .val (.long dq50), .second, .val (.ref da5), .val (.ref o6), .val (.ref o7), .val (.ref o8), .val (.ref o9), .unset, .unset, .unset, .unset, .unset, .unset, .unset, .unset, .unset]
set_option maxRecDepth 65536 in
set_option maxHeartbeats 40000000 in
theorem ct19 {p : Program} {l : Launch} {e : Env} {s : State} {m : MethodId} {below : List Frame} {meth : Method} {c : Code} {E0 T0 : State} {locs : List Loc} {Z : State} {a0 : Array Value} (hw : HW a0 Z) (w1 : Addr) (kw1 : ClassId) (G : GW Z w1 kw1) (o6 o7 : Addr) (o8 o9 o10 : Addr) (kc11 : ClassId) (dq50 : Int64) (zz51 zz52 : Int32) (zz53 dp1 : Int32) (dq2 q3 q4 : Int64) (dp3 dp4 : Int32) (da5 : Addr) (p1 : Int32) (q2 : Int64) (h0 : Heap) (n0 : Nat) (O0 : Old Z n0 h0)
    (hx : p.tables.exec = Jvm.exec) (hby : c.code = code) (hml : c.maxLocals = 30) (hown : s.vm.findClass cn8 = some m.cls) (hret : meth.sig.returnType = ret) (hlk : meth.locks = false) (hZ : Z.Warmed39 s.vm)
    (X0 : Stand p l e room_1 s m #[(.int p1), (.long q2), (.long q3), (.long q4)] below meth c T0 locs 7 46) (e0 : T0.heap = h0) (N0 : Fr n0 locs) (pre0 : Go p e below T0 (mkF m 236 (l475_0 dp1 dq2 q3 q4 dp3 dp4 zz51 zz52 zz53 dq50 da5 o6 o7 o8 o9) []) E0) (g_o6 : n0 ≤ o6) (g_o7 : n0 ≤ o7) (g_o8 : n0 ≤ o8) (g_o9 : n0 ≤ o9) (g_o10 : n0 ≤ o10) (ne_o6_o7 : o6 ≠ o7) (Ov_kc11 : Ovr Z kc11 cn6) (P0 : Exa Z h0 o6 cn6) (P1 : Fld Z h0 o6 cn6 "removed" "J" (.long 9223372036854775807)) (P2 : Exa Z h0 o7 cn6) (P3 : Fld Z h0 o7 cn6 "removed" "J" (.long 9223372036854775807)) (P4 : Exa Z h0 o8 cn6) (P6 : Exa Z h0 o9 cn7) (P7 : Fld Z h0 o9 cn7 "addsFirst" "Z" (.int 1)) (P8 : Fld Z h0 o9 cn7 "end" "I" (.int 5)) (P9 : Fld Z h0 o9 cn7 "first" "I" (.int 3)) (P10 : Fld Z h0 o9 cn7 "low" "I" (.int 3)) (P11 : Fld Z h0 o9 cn7 "removed" "I" (.int 0)) (P12 : Fld Z h0 o9 cn7 "slots" cn3 (.ref o10)) (P13 : Arv Z h0 o10 kc11 (.object cn6) (9 : Int32) [.null, .null, .null, (.ref o7), (.ref o6), .null, .null, .null, .null] .null) (P14 : Exa Z h0 o10 cn3) (hC0 : ¬ (dq50 = (9223372036854775807 : Int64))) (bzz51 : 0 ≤ zz51.toInt ∧ zz51.toInt ≤ 1) (bzz52 : 0 ≤ zz52.toInt ∧ zz52.toInt ≤ 1) (bzz53 : 0 ≤ zz53.toInt ∧ zz53.toInt ≤ 1) :
    ∃ (s₂ : State) (o : Outcome), Steps p.tables e below E0 s₂ ∧ s₂.status = .running ∧ Ended s₂ below o ∧ ∃ v L, o = .returned v ∧ Q0 n0 v s₂.heap L ∧ FrameEnd s o s₂ L 24 192 := by
 obtain ⟨S_w1, A_w1⟩ := id G
 have pre1 : Go p e below T0 (mkF m 238 (l475_0 dp1 dq2 q3 q4 dp3 dp4 zz51 zz52 zz53 dq50 da5 o6 o7 o8 o9) [(.int zz51)]) E0 := fun t k => by
  refine pre0 _ ?_
  refine yil X0 hx hby at_236 rfl ?_
  exact k
 by_cases hc2 : zz51 = (0 : Int32)
 ·
  have pre3 : Go p e below T0 (mkF m 238 (l475_1 dp1 dq2 q3 q4 dp3 dp4 zz52 zz53 dq50 da5 o6 o7 o8 o9) [(.int 0)]) E0 := fun t k => pre1 t (by rw [hc2]; exact k)
  have pre4 : Go p e below T0 (mkF m 252 (l475_1 dp1 dq2 q3 q4 dp3 dp4 zz52 zz53 dq50 da5 o6 o7 o8 o9) [(.int zz52)]) E0 := fun t k => by
   refine pre3 _ ?_
   refine XS.ifYes X0.here hx rfl (pc0 := 238) (pc' := 250) rfl (hb hby at_238) rfl ((if0 _ _).trans (teq (by decide : (0 : Int32) = (0 : Int32))).1) (by decide) (by decide) ?_
   refine yil X0 hx hby at_250 rfl ?_
   exact k
  by_cases hc5 : zz52 = (0 : Int32)
  ·
   have pre6 : Go p e below T0 (mkF m 252 (l475_3 dp1 dq2 q3 q4 dp3 dp4 zz53 dq50 da5 o6 o7 o8 o9) [(.int 0)]) E0 := fun t k => pre4 t (by rw [hc5]; exact k)
   obtain ⟨_, T7, L7, X7, hQ7, st7⟩ := yv X0 hx hZ hown hby hml (y := yn2) (own_w hw 42 rfl) (w_43 hw) (own_w hw 45 rfl) (w_44 hw) (own_w hw 46 rfl) (w_33 hw) e0 P6 [(.long q3)] [] (rm36 l Z a0 hw w1 kw1 G [] o9 o10 o7 o6 kc11 ((1 : Int32)) ((3 : Int32)) ((0 : Int32)) q3 h0 n0 O0 g_o9 g_o10 g_o7 g_o6 ne_o6_o7 Ov_kc11 P6 P7 P8 P9 P10 P11 P12 P13 P14 P2 P3 P0 P1) 267 (l475_3 dp1 dq2 q3 q4 dp3 dp4 zz53 dq50 da5 o6 o7 o8 o9) rfl at_267 (lenOf pd2 rfl) 0 7 46
   obtain ⟨rfl, Nq8, K9, f10, f11, f12, f13, f14, f15, f16, f17, f18, f19, f20⟩ := hQ7
   have N7 := Fr.app N0 Nq8
   have O7 := Old.keep O0 K9 (allS g_o7 (allS g_o6 (allS g_o9 all0)))
   have pre21 : Go p e below T7 (mkF m 270 (l475_3 dp1 dq2 q3 q4 dp3 dp4 zz53 dq50 da5 o6 o7 o8 o9) []) E0 := fun t k => by
    refine pre6 _ ?_
    refine XS.ifYes X0.here hx rfl (pc0 := 252) (pc' := 264) rfl (hb hby at_252) rfl ((if0 _ _).trans (teq (by decide : (0 : Int32) = (0 : Int32))).1) (by decide) (by decide) ?_
    refine yal X0 hx hby at_264 rfl rfl ?_
    refine XS.lloadN X0.here hx rfl (hb hby at_266) rfl ?_
    refine st7 _ ?_
    exact k
   have f22 := (P4.keep K9)
   exact ct15 hw w1 kw1 G o6 o7 o8 o9 q3 zz53 dp1 dq2 q4 dp3 dp4 dq50 da5 p1 q2 T7.heap n0 O7 hx hby hml hown hret hlk hZ (X7.more (by decide) (by decide)) rfl N7 pre21 g_o6 g_o7 g_o8 g_o9 f12 f13 f10 f11 f22 f14 f15 f16 f17 f18 f19 f20 (by have q0 := bzz53; omega)
  ·
   have hq23 : zz52 = (1 : Int32) := (own_geq (n := 1) (k := (1 : Int32)) (by decide) (by have q0 := bzz52; have q1 := own_neq (n := 0) (k := (0 : Int32)) (by decide) hc5; omega))
   have pre24 : Go p e below T0 (mkF m 252 (l475_4 dp1 dq2 q3 q4 dp3 dp4 zz53 dq50 da5 o6 o7 o8 o9) [(.int 1)]) E0 := fun t k => pre4 t (by rw [hq23]; exact k)
   obtain ⟨_, T25, L25, X25, hQ25, st25⟩ := yv X0 hx hZ hown hby hml (y := yn15) (own_w hw 119 rfl) (own_w hw 120 rfl) (own_w hw 122 rfl) (own_w hw 121 rfl) (own_w hw 123 rfl) (w_33 hw) e0 P6 [(.ref o7), (.long dq50)] [] (rm37 l Z a0 hw [] o9 o7 o10 o6 kc11 dq50 h0 n0 O0 g_o9 g_o7 g_o10 g_o6 ne_o6_o7 Ov_kc11 hC0 P6 P7 P8 P9 P10 P11 P12 P2 P3 P13 P14 P0 P1) 261 (l475_4 dp1 dq2 q3 q4 dp3 dp4 zz53 dq50 da5 o6 o7 o8 o9) rfl at_261 (lenOf pd10 rfl) 0 7 46
   obtain ⟨rfl, Nq26, K27, f28, f29, f30, f31, f32, f33, f34, f35, f36⟩ := hQ25
   have N25 := Fr.app N0 Nq26
   have O25 := Old.keep O0 K27 (allS g_o7 (allS g_o9 all0))
   have f37 := (P14.keep K27)
   have ne38 : o10 ≠ o9 := ne_exa f37 f30 (by decide)
   have ne39 : o10 ≠ o7 := ne_exa f37 f28 (by decide)
   have f40 := (P13.keep K27 (ninS ne39 (ninS ne38 nin0)))
   have f41 := (P0.keep K27)
   have ne42 : o6 ≠ o9 := ne_exa f41 f30 (by decide)
   have f43 := (P1.keep K27 (ninS ne_o6_o7 (ninS ne42 nin0)))
   obtain ⟨_, T44, L44, X44, hQ44, st44⟩ := yv X25 hx hZ hown hby hml (y := yn2) (own_w hw 42 rfl) (w_43 hw) (own_w hw 45 rfl) (w_44 hw) (own_w hw 46 rfl) (w_33 hw) rfl f30 [(.long q3)] [] (rm38 l Z a0 hw w1 kw1 G [] o9 o10 o7 o6 kc11 dq50 ((1 : Int32)) ((3 : Int32)) ((0 : Int32)) q3 T25.heap n0 O25 g_o9 g_o10 g_o7 g_o6 Ov_kc11 hC0 f30 f31 f32 f33 f34 f35 f36 f40 f41 f43) 267 (l475_4 dp1 dq2 q3 q4 dp3 dp4 zz53 dq50 da5 o6 o7 o8 o9) rfl at_267 (lenOf pd2 rfl) 0 7 46
   obtain ⟨rfl, Nq45, K46, f47, f48, f49, f50, f51, f52, f53, f54, f55⟩ := hQ44
   have N44 := Fr.app N25 Nq45
   have O44 := Old.keep O25 K46 (allS g_o6 (allS g_o9 all0))
   have pre56 : Go p e below T44 (mkF m 270 (l475_4 dp1 dq2 q3 q4 dp3 dp4 zz53 dq50 da5 o6 o7 o8 o9) []) E0 := fun t k => by
    refine pre24 _ ?_
    refine yfn X0 hx hby at_252 ((if0 _ _).trans (feq (by decide : ¬ ((1 : Int32) = (0 : Int32)))).1) ?_
    refine yal X0 hx hby at_255 rfl rfl ?_
    refine yal X0 hx hby at_257 rfl rfl ?_
    refine XS.lload X0.here hx rfl (hb hby at_259) rfl ?_
    refine st25 _ ?_
    refine yal X25 hx hby at_264 rfl rfl ?_
    refine XS.lloadN X25.here hx rfl (hb hby at_266) rfl ?_
    refine st44 _ ?_
    exact k
   have f57 := (f28.keep K46)
   have ne58 : o7 ≠ o9 := ne_exa f57 f49 (by decide)
   have f59 := (f29.keep K46 (ninS (Ne.symm ne_o6_o7) (ninS ne58 nin0)))
   have f60 := ((P4.keep K27).keep K46)
   exact ct16 hw w1 kw1 G o6 o7 o8 o9 q3 dq50 zz53 dp1 dq2 q4 dp3 dp4 da5 p1 q2 T44.heap n0 O44 hx hby hml hown hret hlk hZ (X44.more (by decide) (by decide)) rfl N44 pre56 g_o6 g_o7 g_o8 g_o9 f47 f48 f57 f59 f60 f49 f50 f51 f52 f53 f54 f55 (by have q0 := bzz53; omega)
 ·
  have hq61 : zz51 = (1 : Int32) := (own_geq (n := 1) (k := (1 : Int32)) (by decide) (by have q0 := bzz51; have q1 := own_neq (n := 0) (k := (0 : Int32)) (by decide) hc2; omega))
  have pre62 : Go p e below T0 (mkF m 238 (l475_2 dp1 dq2 q3 q4 dp3 dp4 zz52 zz53 dq50 da5 o6 o7 o8 o9) [(.int 1)]) E0 := fun t k => pre1 t (by rw [hq61]; exact k)
  obtain ⟨_, T63, L63, X63, hQ63, st63⟩ := yv X0 hx hZ hown hby hml (y := yn15) (own_w hw 119 rfl) (own_w hw 120 rfl) (own_w hw 122 rfl) (own_w hw 121 rfl) (own_w hw 123 rfl) (w_33 hw) e0 P6 [(.ref o6), (.long dq50)] [] (rm39 l Z a0 hw [] o9 o6 o10 o7 kc11 dq50 h0 n0 O0 g_o9 g_o6 g_o10 g_o7 (Ne.symm ne_o6_o7) Ov_kc11 hC0 P6 P7 P8 P9 P10 P11 P12 P0 P1 P13 P14 P2 P3) 247 (l475_2 dp1 dq2 q3 q4 dp3 dp4 zz52 zz53 dq50 da5 o6 o7 o8 o9) rfl at_247 (lenOf pd10 rfl) 0 7 46
  obtain ⟨rfl, Nq64, K65, f66, f67, f68, f69, f70, f71, f72, f73, f74⟩ := hQ63
  have N63 := Fr.app N0 Nq64
  have O63 := Old.keep O0 K65 (allS g_o6 (allS g_o9 all0))
  have pre75 : Go p e below T63 (mkF m 252 (l475_2 dp1 dq2 q3 q4 dp3 dp4 zz52 zz53 dq50 da5 o6 o7 o8 o9) [(.int zz52)]) E0 := fun t k => by
   refine pre62 _ ?_
   refine yfn X0 hx hby at_238 ((if0 _ _).trans (feq (by decide : ¬ ((1 : Int32) = (0 : Int32)))).1) ?_
   refine yal X0 hx hby at_241 rfl rfl ?_
   refine yal X0 hx hby at_243 rfl rfl ?_
   refine XS.lload X0.here hx rfl (hb hby at_245) rfl ?_
   refine st63 _ ?_
   refine yil X63 hx hby at_250 rfl ?_
   exact k
  by_cases hc76 : zz52 = (0 : Int32)
  ·
   have pre77 : Go p e below T63 (mkF m 252 (l475_5 dp1 dq2 q3 q4 dp3 dp4 zz53 dq50 da5 o6 o7 o8 o9) [(.int 0)]) E0 := fun t k => pre75 t (by rw [hc76]; exact k)
   have f78 := (P14.keep K65)
   have ne79 : o10 ≠ o9 := ne_exa f78 f68 (by decide)
   have ne80 : o10 ≠ o6 := ne_exa f78 f66 (by decide)
   have f81 := (P13.keep K65 (ninS ne80 (ninS ne79 nin0)))
   have f82 := (P2.keep K65)
   have ne83 : o7 ≠ o9 := ne_exa f82 f68 (by decide)
   have f84 := (P3.keep K65 (ninS (Ne.symm ne_o6_o7) (ninS ne83 nin0)))
   obtain ⟨_, T85, L85, X85, hQ85, st85⟩ := yv X63 hx hZ hown hby hml (y := yn2) (own_w hw 42 rfl) (w_43 hw) (own_w hw 45 rfl) (w_44 hw) (own_w hw 46 rfl) (w_33 hw) rfl f68 [(.long q3)] [] (rm40 l Z a0 hw w1 kw1 G [] o9 o10 o7 o6 kc11 dq50 ((1 : Int32)) ((3 : Int32)) q3 T63.heap n0 O63 g_o9 g_o10 g_o7 g_o6 ne_o6_o7 Ov_kc11 hC0 f68 f69 f70 f71 f72 f73 f74 f81 f78 f82 f84 f66 f67) 267 (l475_5 dp1 dq2 q3 q4 dp3 dp4 zz53 dq50 da5 o6 o7 o8 o9) rfl at_267 (lenOf pd2 rfl) 0 7 46
   obtain ⟨rfl, Nq86, K87, f88, f89, f90, f91, f92, f93, f94, f95, f96⟩ := hQ85
   have N85 := Fr.app N63 Nq86
   have O85 := Old.keep O63 K87 (allS g_o7 (allS g_o9 all0))
   have pre97 : Go p e below T85 (mkF m 270 (l475_5 dp1 dq2 q3 q4 dp3 dp4 zz53 dq50 da5 o6 o7 o8 o9) []) E0 := fun t k => by
    refine pre77 _ ?_
    refine XS.ifYes X63.here hx rfl (pc0 := 252) (pc' := 264) rfl (hb hby at_252) rfl ((if0 _ _).trans (teq (by decide : (0 : Int32) = (0 : Int32))).1) (by decide) (by decide) ?_
    refine yal X63 hx hby at_264 rfl rfl ?_
    refine XS.lloadN X63.here hx rfl (hb hby at_266) rfl ?_
    refine st85 _ ?_
    exact k
   have f98 := (f66.keep K87)
   have ne99 : o6 ≠ o9 := ne_exa f98 f90 (by decide)
   have f100 := (f67.keep K87 (ninS ne_o6_o7 (ninS ne99 nin0)))
   have f101 := ((P4.keep K65).keep K87)
   exact ct17 hw w1 kw1 G o6 o7 o8 o9 dq50 q3 zz53 dp1 dq2 q4 dp3 dp4 da5 p1 q2 T85.heap n0 O85 hx hby hml hown hret hlk hZ (X85.more (by decide) (by decide)) rfl N85 pre97 g_o6 g_o7 g_o8 g_o9 f98 f100 f88 f89 f101 f90 f91 f92 f93 f94 f95 f96 (by have q0 := bzz53; omega)
  ·
   have hq102 : zz52 = (1 : Int32) := (own_geq (n := 1) (k := (1 : Int32)) (by decide) (by have q0 := bzz52; have q1 := own_neq (n := 0) (k := (0 : Int32)) (by decide) hc76; omega))
   have pre103 : Go p e below T63 (mkF m 252 (l475_6 dp1 dq2 q3 q4 dp3 dp4 zz53 dq50 da5 o6 o7 o8 o9) [(.int 1)]) E0 := fun t k => pre75 t (by rw [hq102]; exact k)
   have f104 := (P2.keep K65)
   have ne105 : o7 ≠ o9 := ne_exa f104 f68 (by decide)
   have f106 := (P3.keep K65 (ninS (Ne.symm ne_o6_o7) (ninS ne105 nin0)))
   have f107 := (P14.keep K65)
   have ne108 : o10 ≠ o9 := ne_exa f107 f68 (by decide)
   have ne109 : o10 ≠ o6 := ne_exa f107 f66 (by decide)
   have f110 := (P13.keep K65 (ninS ne109 (ninS ne108 nin0)))
   obtain ⟨_, T111, L111, X111, hQ111, st111⟩ := yv X63 hx hZ hown hby hml (y := yn15) (own_w hw 119 rfl) (own_w hw 120 rfl) (own_w hw 122 rfl) (own_w hw 121 rfl) (own_w hw 123 rfl) (w_33 hw) rfl f68 [(.ref o7), (.long dq50)] [] (rm41 l Z a0 hw [] o9 o7 o10 o6 kc11 dq50 dq50 T63.heap n0 O63 g_o9 g_o7 g_o10 g_o6 ne_o6_o7 Ov_kc11 hC0 hC0 f68 f69 f70 f71 f72 f73 f74 f104 f106 f110 f107 f66 f67) 261 (l475_6 dp1 dq2 q3 q4 dp3 dp4 zz53 dq50 da5 o6 o7 o8 o9) rfl at_261 (lenOf pd10 rfl) 0 7 46
   obtain ⟨rfl, Nq112, K113, f114, f115, f116, f117, f118, f119, f120, f121, f122⟩ := hQ111
   have N111 := Fr.app N63 Nq112
   have O111 := Old.keep O63 K113 (allS g_o7 (allS g_o9 all0))
   obtain ⟨_, T123, L123, X123, hQ123, st123⟩ := yv X111 hx hZ hown hby hml (y := yn2) (own_w hw 42 rfl) (w_43 hw) (own_w hw 45 rfl) (w_44 hw) (own_w hw 46 rfl) (w_33 hw) rfl f116 [(.long q3)] [] (rm26 l Z a0 hw w1 kw1 G [] o9 o10 ((1 : Int32)) ((5 : Int32)) ((3 : Int32)) ((0 : Int32)) q3 T111.heap n0 O111 g_o9 g_o10 f116 f117 f118 f119 f120 f121 f122) 267 (l475_6 dp1 dq2 q3 q4 dp3 dp4 zz53 dq50 da5 o6 o7 o8 o9) rfl at_267 (lenOf pd2 rfl) 0 7 46
   obtain ⟨rfl, Nq124, K125, f126, f127, f128, f129, f130, f131, f132⟩ := hQ123
   have N123 := Fr.app N111 Nq124
   have O123 := Old.keep O111 K125 (allS g_o9 all0)
   have pre133 : Go p e below T123 (mkF m 270 (l475_6 dp1 dq2 q3 q4 dp3 dp4 zz53 dq50 da5 o6 o7 o8 o9) []) E0 := fun t k => by
    refine pre103 _ ?_
    refine yfn X63 hx hby at_252 ((if0 _ _).trans (feq (by decide : ¬ ((1 : Int32) = (0 : Int32)))).1) ?_
    refine yal X63 hx hby at_255 rfl rfl ?_
    refine yal X63 hx hby at_257 rfl rfl ?_
    refine XS.lload X63.here hx rfl (hb hby at_259) rfl ?_
    refine st111 _ ?_
    refine yal X111 hx hby at_264 rfl rfl ?_
    refine XS.lloadN X111.here hx rfl (hb hby at_266) rfl ?_
    refine st123 _ ?_
    exact k
   have f134 := ((f66.keep K113).keep K125)
   have ne135 : o6 ≠ o9 := ne_exa f134 f126 (by decide)
   have f136 := ((f67.keep K113 (ninS ne_o6_o7 (ninS ne135 nin0))).keep K125 (ninS ne135 nin0))
   have f137 := (f114.keep K125)
   have f138 := (f115.keep K125 (ninS ne105 nin0))
   have f139 := (((P4.keep K65).keep K113).keep K125)
   exact ct18 hw w1 kw1 G o6 o7 o8 o9 dq50 zz53 dp1 dq2 q3 q4 dp3 dp4 da5 p1 q2 T123.heap n0 O123 hx hby hml hown hret hlk hZ (X123.more (by decide) (by decide)) rfl N123 pre133 g_o6 g_o7 g_o8 g_o9 f134 f136 f137 f138 f139 f126 f127 f128 f129 f130 f131 f132 (by have q0 := bzz53; omega)
def l476_0 (dp1 : Int32) (dq2 q3 q4 : Int64) (dp3 dp4 : Int32) (zz51 zz52 : Int32) (dq50 : Int64) (da5 o6 : Addr) (o7 o8 o9 : Addr) : Array Slot := #[.val (.int dp1), .val (.long dq2), .second, .val (.long q3), .second, .val (.long q4), .second, .val (.int 1), .val (.int 0), .val (.int dp3), .val (.int dp4), .val (.int zz51), .val (.int 0), .val (.int zz52), .val (.long dq50), .second, .val (.ref da5), .val (.ref o6), .val (.ref o7), .val (.ref o8), .val (.ref o9), .unset, .unset, .unset, .unset, .unset, .unset, .unset, .unset, .unset]
def l476_1 (dp1 : Int32) (dq2 q3 q4 : Int64) (dp3 dp4 zz52 : Int32) (dq50 : Int64) (da5 o6 : Addr) (o7 o8 o9 : Addr) : Array Slot := #[.val (.int dp1), .val (.long dq2), .second, .val (.long q3), .second, .val (.long q4), .second, .val (.int 1), .val (.int 0), .val (.int dp3), .val (.int dp4), .val (.int 0), .val (.int 0), .val (.int zz52), .val (.long dq50), .second, .val (.ref da5), .val (.ref o6), .val (.ref o7), .val (.ref o8), .val (.ref o9), .unset, .unset, .unset, .unset, .unset, .unset, .unset, .unset, .unset]
def l476_2 (dp1 : Int32) (dq2 q3 q4 : Int64) (dp3 dp4 zz52 : Int32) (dq50 : Int64) (da5 o6 : Addr) (o7 o8 o9 : Addr) : Array Slot := #[.val (.int dp1), .val (.long dq2), .second, .val (.long q3), .second, .val (.long q4), .second, .val (.int 1), .val (.int 0), .val (.int dp3), .val (.int dp4), .val (.int 1), .val (.int 0), .val (.int zz52), .val (.long dq50), .second, .val (.ref da5), .val (.ref o6), .val (.ref o7), .val (.ref o8), .val (.ref o9), .unset, .unset, .unset, .unset, .unset, .unset, .unset, .unset, .unset]
set_option maxRecDepth 65536 in
set_option maxHeartbeats 40000000 in
theorem ct20 {p : Program} {l : Launch} {e : Env} {s : State} {m : MethodId} {below : List Frame} {meth : Method} {c : Code} {E0 T0 : State} {locs : List Loc} {Z : State} {a0 : Array Value} (hw : HW a0 Z) (w1 : Addr) (kw1 : ClassId) (G : GW Z w1 kw1) (o6 o7 : Addr) (o8 o9 o10 : Addr) (kc11 : ClassId) (dq50 : Int64) (zz51 zz52 dp1 : Int32) (dq2 q3 q4 : Int64) (dp3 dp4 : Int32) (da5 : Addr) (p1 : Int32) (q2 : Int64) (h0 : Heap) (n0 : Nat) (O0 : Old Z n0 h0)
    (hx : p.tables.exec = Jvm.exec) (hby : c.code = code) (hml : c.maxLocals = 30) (hown : s.vm.findClass cn8 = some m.cls) (hret : meth.sig.returnType = ret) (hlk : meth.locks = false) (hZ : Z.Warmed39 s.vm)
    (X0 : Stand p l e room_1 s m #[(.int p1), (.long q2), (.long q3), (.long q4)] below meth c T0 locs 7 46) (e0 : T0.heap = h0) (N0 : Fr n0 locs) (pre0 : Go p e below T0 (mkF m 236 (l476_0 dp1 dq2 q3 q4 dp3 dp4 zz51 zz52 dq50 da5 o6 o7 o8 o9) []) E0) (g_o6 : n0 ≤ o6) (g_o7 : n0 ≤ o7) (g_o8 : n0 ≤ o8) (g_o9 : n0 ≤ o9) (g_o10 : n0 ≤ o10) (ne_o7_o6 : o7 ≠ o6) (Ov_kc11 : Ovr Z kc11 cn6) (P0 : Exa Z h0 o6 cn6) (P1 : Fld Z h0 o6 cn6 "removed" "J" (.long 9223372036854775807)) (P2 : Exa Z h0 o7 cn6) (P3 : Fld Z h0 o7 cn6 "removed" "J" (.long 9223372036854775807)) (P4 : Exa Z h0 o8 cn6) (P6 : Exa Z h0 o9 cn7) (P7 : Fld Z h0 o9 cn7 "addsFirst" "Z" (.int 1)) (P8 : Fld Z h0 o9 cn7 "end" "I" (.int 4)) (P9 : Fld Z h0 o9 cn7 "first" "I" (.int 3)) (P10 : Fld Z h0 o9 cn7 "low" "I" (.int 3)) (P11 : Fld Z h0 o9 cn7 "removed" "I" (.int 0)) (P12 : Fld Z h0 o9 cn7 "slots" cn3 (.ref o10)) (P13 : Arv Z h0 o10 kc11 (.object cn6) (8 : Int32) [.null, .null, .null, (.ref o6), .null, .null, .null, .null] .null) (P14 : Exa Z h0 o10 cn3) (hC0 : ¬ (dq50 = (9223372036854775807 : Int64))) (bzz51 : 0 ≤ zz51.toInt ∧ zz51.toInt ≤ 1) (bzz52 : 0 ≤ zz52.toInt ∧ zz52.toInt ≤ 1) :
    ∃ (s₂ : State) (o : Outcome), Steps p.tables e below E0 s₂ ∧ s₂.status = .running ∧ Ended s₂ below o ∧ ∃ v L, o = .returned v ∧ Q0 n0 v s₂.heap L ∧ FrameEnd s o s₂ L 24 192 := by
 obtain ⟨S_w1, A_w1⟩ := id G
 have pre1 : Go p e below T0 (mkF m 238 (l476_0 dp1 dq2 q3 q4 dp3 dp4 zz51 zz52 dq50 da5 o6 o7 o8 o9) [(.int zz51)]) E0 := fun t k => by
  refine pre0 _ ?_
  refine yil X0 hx hby at_236 rfl ?_
  exact k
 by_cases hc2 : zz51 = (0 : Int32)
 ·
  have pre3 : Go p e below T0 (mkF m 238 (l476_1 dp1 dq2 q3 q4 dp3 dp4 zz52 dq50 da5 o6 o7 o8 o9) [(.int 0)]) E0 := fun t k => pre1 t (by rw [hc2]; exact k)
  obtain ⟨_, T4, L4, X4, hQ4, st4⟩ := yv X0 hx hZ hown hby hml (y := yn2) (own_w hw 42 rfl) (w_43 hw) (own_w hw 45 rfl) (w_44 hw) (own_w hw 46 rfl) (w_33 hw) e0 P6 [(.long q3)] [] (rm24 l Z a0 hw w1 kw1 G [] o9 o10 o6 kc11 ((1 : Int32)) ((3 : Int32)) ((0 : Int32)) q3 h0 n0 O0 g_o9 g_o10 g_o6 Ov_kc11 P6 P7 P8 P9 P10 P11 P12 P13 P0 P1) 267 (l476_1 dp1 dq2 q3 q4 dp3 dp4 zz52 dq50 da5 o6 o7 o8 o9) rfl at_267 (lenOf pd2 rfl) 0 7 46
  obtain ⟨rfl, Nq5, K6, f7, f8, f9, f10, f11, f12, f13, f14, f15⟩ := hQ4
  have N4 := Fr.app N0 Nq5
  have O4 := Old.keep O0 K6 (allS g_o6 (allS g_o9 all0))
  have pre16 : Go p e below T4 (mkF m 270 (l476_1 dp1 dq2 q3 q4 dp3 dp4 zz52 dq50 da5 o6 o7 o8 o9) []) E0 := fun t k => by
   refine pre3 _ ?_
   refine XS.ifYes X0.here hx rfl (pc0 := 238) (pc' := 250) rfl (hb hby at_238) rfl ((if0 _ _).trans (teq (by decide : (0 : Int32) = (0 : Int32))).1) (by decide) (by decide) ?_
   refine yil X0 hx hby at_250 rfl ?_
   refine XS.ifYes X0.here hx rfl (pc0 := 252) (pc' := 264) rfl (hb hby at_252) rfl ((if0 _ _).trans (teq (by decide : (0 : Int32) = (0 : Int32))).1) (by decide) (by decide) ?_
   refine yal X0 hx hby at_264 rfl rfl ?_
   refine XS.lloadN X0.here hx rfl (hb hby at_266) rfl ?_
   refine st4 _ ?_
   exact k
  have f17 := (P2.keep K6)
  have ne18 : o7 ≠ o9 := ne_exa f17 f9 (by decide)
  have f19 := (P3.keep K6 (ninS ne_o7_o6 (ninS ne18 nin0)))
  have f20 := (P4.keep K6)
  exact ct12 hw w1 kw1 G o6 o7 o8 o9 q3 zz52 dp1 dq2 q4 dp3 dp4 dq50 da5 p1 q2 T4.heap n0 O4 hx hby hml hown hret hlk hZ (X4.more (by decide) (by decide)) rfl N4 pre16 g_o6 g_o7 g_o8 g_o9 f7 f8 f17 f19 f20 f9 f10 f11 f12 f13 f14 f15 (by have q0 := bzz52; omega)
 ·
  have hq21 : zz51 = (1 : Int32) := (own_geq (n := 1) (k := (1 : Int32)) (by decide) (by have q0 := bzz51; have q1 := own_neq (n := 0) (k := (0 : Int32)) (by decide) hc2; omega))
  have pre22 : Go p e below T0 (mkF m 238 (l476_2 dp1 dq2 q3 q4 dp3 dp4 zz52 dq50 da5 o6 o7 o8 o9) [(.int 1)]) E0 := fun t k => pre1 t (by rw [hq21]; exact k)
  obtain ⟨_, T23, L23, X23, hQ23, st23⟩ := yv X0 hx hZ hown hby hml (y := yn15) (own_w hw 119 rfl) (own_w hw 120 rfl) (own_w hw 122 rfl) (own_w hw 121 rfl) (own_w hw 123 rfl) (w_33 hw) e0 P6 [(.ref o6), (.long dq50)] [] (rm25 l Z a0 hw [] o9 o6 o10 kc11 dq50 h0 n0 O0 g_o9 g_o6 g_o10 Ov_kc11 hC0 P6 P7 P8 P9 P10 P11 P12 P0 P1 P13 P14) 247 (l476_2 dp1 dq2 q3 q4 dp3 dp4 zz52 dq50 da5 o6 o7 o8 o9) rfl at_247 (lenOf pd10 rfl) 0 7 46
  obtain ⟨rfl, Nq24, K25, f26, f27, f28, f29, f30, f31, f32, f33, f34⟩ := hQ23
  have N23 := Fr.app N0 Nq24
  have O23 := Old.keep O0 K25 (allS g_o6 (allS g_o9 all0))
  obtain ⟨_, T35, L35, X35, hQ35, st35⟩ := yv X23 hx hZ hown hby hml (y := yn2) (own_w hw 42 rfl) (w_43 hw) (own_w hw 45 rfl) (w_44 hw) (own_w hw 46 rfl) (w_33 hw) rfl f28 [(.long q3)] [] (rm26 l Z a0 hw w1 kw1 G [] o9 o10 ((1 : Int32)) ((4 : Int32)) ((3 : Int32)) ((0 : Int32)) q3 T23.heap n0 O23 g_o9 g_o10 f28 f29 f30 f31 f32 f33 f34) 267 (l476_2 dp1 dq2 q3 q4 dp3 dp4 zz52 dq50 da5 o6 o7 o8 o9) rfl at_267 (lenOf pd2 rfl) 0 7 46
  obtain ⟨rfl, Nq36, K37, f38, f39, f40, f41, f42, f43, f44⟩ := hQ35
  have N35 := Fr.app N23 Nq36
  have O35 := Old.keep O23 K37 (allS g_o9 all0)
  have pre45 : Go p e below T35 (mkF m 270 (l476_2 dp1 dq2 q3 q4 dp3 dp4 zz52 dq50 da5 o6 o7 o8 o9) []) E0 := fun t k => by
   refine pre22 _ ?_
   refine yfn X0 hx hby at_238 ((if0 _ _).trans (feq (by decide : ¬ ((1 : Int32) = (0 : Int32)))).1) ?_
   refine yal X0 hx hby at_241 rfl rfl ?_
   refine yal X0 hx hby at_243 rfl rfl ?_
   refine XS.lload X0.here hx rfl (hb hby at_245) rfl ?_
   refine st23 _ ?_
   refine yil X23 hx hby at_250 rfl ?_
   refine XS.ifYes X23.here hx rfl (pc0 := 252) (pc' := 264) rfl (hb hby at_252) rfl ((if0 _ _).trans (teq (by decide : (0 : Int32) = (0 : Int32))).1) (by decide) (by decide) ?_
   refine yal X23 hx hby at_264 rfl rfl ?_
   refine XS.lloadN X23.here hx rfl (hb hby at_266) rfl ?_
   refine st35 _ ?_
   exact k
  have f46 := (f26.keep K37)
  have ne47 : o6 ≠ o9 := ne_exa f46 f38 (by decide)
  have f48 := (f27.keep K37 (ninS ne47 nin0))
  have f49 := ((P2.keep K25).keep K37)
  have ne50 : o7 ≠ o9 := ne_exa f49 f38 (by decide)
  have f51 := ((P3.keep K25 (ninS ne_o7_o6 (ninS ne50 nin0))).keep K37 (ninS ne50 nin0))
  have f52 := ((P4.keep K25).keep K37)
  exact ct13 hw w1 kw1 G o6 o7 o8 o9 dq50 zz52 dp1 dq2 q3 q4 dp3 dp4 da5 p1 q2 T35.heap n0 O35 hx hby hml hown hret hlk hZ (X35.more (by decide) (by decide)) rfl N35 pre45 g_o6 g_o7 g_o8 g_o9 f46 f48 f49 f51 f52 f38 f39 f40 f41 f42 f43 f44 (by have q0 := bzz52; omega)
def l477_0 (o1 o2 : Addr) : Array Slot := #[.val (.ref o1), .val (.ref o2)]
theorem ef42 (m : MethodId) (x0 x1 : Addr) : entryFrame m #[(.ref x0), (.ref x1)] 2 = mkF m 0 #[.val (.ref x0), .val (.ref x1)] [] := by first | (simp [entryFrame, mkF, argsToLocals, Value.category]; done) | rfl
def Q42 (Z : State) (o1 o2 : Addr) (o3 o5 : Addr) (kc4 : ClassId) (h0 : Heap) (n0 : Nat) (v : Option Value) (h : Heap) (L : List Loc) : Prop :=
  (v = none ∧ Fr n0 L ∧ Keep h0 h [o3, o1] ∧ (Arv Z h o3 kc4 (.object cn6) (8 : Int32) [.null, .null, .null, (.ref o5), (.ref o2), .null, .null, .null] .null) ∧ (Exa Z h o3 cn3) ∧ (Exa Z h o1 cn7) ∧ (Fld Z h o1 cn7 "addsFirst" "Z" (.int 1)) ∧ (Fld Z h o1 cn7 "end" "I" (.int 5)) ∧ (Fld Z h o1 cn7 "first" "I" (.int 3)) ∧ (Fld Z h o1 cn7 "low" "I" (.int 3)) ∧ (Fld Z h o1 cn7 "removed" "I" (.int 0)) ∧ (Fld Z h o1 cn7 "slots" cn3 (.ref o3)))
set_option maxRecDepth 65536 in
set_option maxHeartbeats 40000000 in
theorem rm42 (l : Launch) (Z : State) (a0 : Array Value) (hw : HW a0 Z) (ws : List Jvm.Cond) (o1 o2 : Addr) (o3 o5 : Addr) (kc4 : ClassId) (h0 : Heap) (n0 : Nat) (O0 : Old Z n0 h0) (g_o1 : n0 ≤ o1) (g_o2 : n0 ≤ o2) (g_o3 : n0 ≤ o3) (g_o5 : n0 ≤ o5) (Ov_kc4 : Ovr Z kc4 cn6) (P0 : Exa Z h0 o1 cn7) (P1 : Fld Z h0 o1 cn7 "addsFirst" "Z" (.int 1)) (P2 : Fld Z h0 o1 cn7 "end" "I" (.int 4)) (P3 : Fld Z h0 o1 cn7 "first" "I" (.int 3)) (P4 : Fld Z h0 o1 cn7 "low" "I" (.int 3)) (P5 : Fld Z h0 o1 cn7 "removed" "I" (.int 0)) (P6 : Fld Z h0 o1 cn7 "slots" cn3 (.ref o3)) (P7 : Exa Z h0 o2 cn6) (P9 : Arv Z h0 o3 kc4 (.object cn6) (8 : Int32) [.null, .null, .null, (.ref o5), .null, .null, .null, .null] .null) (P10 : Exa Z h0 o3 cn3) :
    MF l yn12 prog_41_method_6_code 2 none ws ({ frames := 0, cells := 0, slots := 0, locals := 0 } : Room) #[(.ref o1), (.ref o2)] Z h0 (Q42 Z o1 o2 o3 o5 kc4 h0 n0) := by
 refine MetFree.of_bodySF (plainFor_of_name pn1) hisR ?_
 intro p e s m args below meth c s₁ Bd hml hP hK
 obtain ⟨rfl, hZ, hh⟩ := hP
 obtain ⟨hx, hby, hown, hret, hlk, X0, e0, N0⟩ := own_bd Bd hh n0
 have pre0 := own_ct s₁ (p := p) (e := e) (below := below) (ef42 m o1 o2)
 obtain ⟨T1, X1, e1, st1⟩ := yag X0 hx hZ hown hby (w_49 hw) e0 P2 0 (l477_0 o1 o2) [] d10_0 d10_1 rfl
 obtain ⟨T2, X2, e2, st2⟩ := yag X1 hx hZ hown hby (w_40 hw) e1 P6 4 (l477_0 o1 o2) [(.int 4)] d10_4 d10_5 rfl
 obtain ⟨cl3, Ar3, qa3, Sa3, Na3, Ha3, Ga3⟩ := id (P9)
 obtain ⟨T4, X4, e4, st4⟩ := yag X2 hx hZ hown hby (w_40 hw) e2 P6 16 (l477_0 o1 o2) [] d10_16 d10_17 rfl
 obtain ⟨T5, X5, e5, st5⟩ := yag X4 hx hZ hown hby (w_49 hw) e4 P2 20 (l477_0 o1 o2) [(.ref o3)] d10_20 d10_21 rfl
 obtain ⟨cl6, Ar6, qa6, Sa6, Na6, Ha6, Ga6⟩ := id (P9)
 have hin6 := inb_of (j := (4 : Int32)) Sa6 ⟨by decide, by decide⟩
 obtain ⟨T7, h7, X7, e7, W7, st7⟩ := stR X5 hx hZ e5 Ar6 (j := (4 : Int32)) hin6 rfl (Sto.ofV Ar6 qa6 Ov_kc4 (Ins.self P7)) (g := (mkF m 25 (l477_0 o1 o2) [(.ref o2), (.int 4), (.ref o3)])) rfl rfl (hb hby d10_25)
 have V7 : Arv Z h7 o3 kc4 (.object cn6) (8 : Int32) [.null, .null, .null, (.ref o5), (.ref o2), .null, .null, .null] .null := Arv.set Ar6 qa6 Sa6 Na6 Ha6 Ga6 rfl W7 4 rfl (Nat.le_of_ble_eq_true rfl)
 have N7 := Fr.snoc X7 N0 g_o3
 have f8 := (P0.wr W7)
 have f9 := (P10.wr W7)
 have ne10 : o1 ≠ o3 := ne_exa f8 f9 (by decide)
 have f11 := (P2.other W7 (Or.inl ne10))
 obtain ⟨T12, X12, e12, st12⟩ := yg X7 hx hZ hown hby (w_49 hw) e7 f11 28 (l477_0 o1 o2) [(.ref o1)] d10_28
 obtain ⟨T13, h13, X13, e13, W13, st13⟩ := yp X12 hx hZ hown hby (w_49 hw) e12 f11 f8 (w_50 hw) (w_32 hw) (ty := .int) (v := (.int 5)) (by decide) rfl rfl 33 (l477_0 o1 o2) [] d10_33
 have N13 := Fr.snoc X13 N7 g_o1
 have Fw13 := f11.same W13
 obtain ⟨fs, hr, hrun, hended, hW, hsame⟩ := X13.leave (v := none) (fun _ => rfl)
 have KL : Keep h0 h13 [o3, o1] := (((Keep.refl h0 [o3, o1]).wr W7 (Or.inl (List.mem_of_getElem? (i := 0) rfl))).wr W13 (Or.inl (List.mem_of_getElem? (i := 1) rfl)))
 have f14 := (V7.other W13 (Ne.symm ne10))
 have f15 := (f9.wr W13)
 have f16 := (f8.wr W13)
 have f17 := ((P1.other W7 (Or.inl ne10)).other W13 (Or.inr (sn57 hw)))
 have f18 := ((P3.other W7 (Or.inl ne10)).other W13 (Or.inr (sn61 hw)))
 have f19 := ((P4.other W7 (Or.inl ne10)).other W13 (Or.inr (sn65 hw)))
 have f20 := ((P5.other W7 (Or.inl ne10)).other W13 (Or.inr (sn54 hw)))
 have f21 := ((P6.other W7 (Or.inl ne10)).other W13 (Or.inr (sn71 hw)))
 refine ⟨_, _, pre0 _ ?_, hrun, hended, _, _, rfl, ?_, ⟨_, rfl⟩, hW, hsame.mono (by decide) (by decide)⟩
 ·
  refine st1 _ ?_
  refine st2 _ ?_
  refine X2.arraylength hx (by rw [e2]; exact Ar3.1) (State.isArrayOf_alike hZ.alike Ar3.2.1) (g := (mkF m 8 (l477_0 o1 o2) [(.ref o3), (.int 4)])) rfl rfl (hb hby d10_8) _ ?_
  rw [len_of Sa3 Na3]
  refine yye X2 hx hby 9 16 rfl d10_9 (feq (by decide : ¬ ((4 : Int32) = (8 : Int32)))).2 (by decide) ?_
  refine st4 _ ?_
  refine st5 _ ?_
  refine yan X5 hx hby d10_24 rfl rfl ?_
  refine st7 _ ?_
  refine yan X7 hx hby d10_26 rfl rfl ?_
  refine XS.dup X7.here hx rfl (hb hby d10_27) rfl rfl ?_
  refine st12 _ ?_
  refine yic X12 hx hby d10_31 ?_
  refine yad X12 hx hby d10_32 ?_
  refine st13 _ ?_
  show Steps p.tables e below (T13.setTop (mkF m 36 (l477_0 o1 o2) [])) _
  exact X13.returnOut hx hret (hb hby d10_36) hr
 ·
  show Q42 Z o1 o2 o3 o5 kc4 h0 n0 _ T13.heap _
  rw [e13]
  exact ⟨rfl, N13, KL, f14, f15, f16, f17, Fw13, f18, f19, f20, f21⟩
def l478_0 (o1 : Addr) (q2 : Int64) : Array Slot := #[.val (.ref o1), .val (.long q2), .second, .val (.int 3)]
def l478_1 (o1 : Addr) (q2 : Int64) : Array Slot := #[.val (.ref o1), .val (.long q2), .second, .val (.int 4)]
def l478_2 (o1 : Addr) (q2 : Int64) : Array Slot := #[.val (.ref o1), .val (.long q2), .second, .val (.int 5)]
theorem ef43 (m : MethodId) (x0 : Addr) (x1 : Int64) : entryFrame m #[(.ref x0), (.long x1)] 4 = mkF m 0 #[.val (.ref x0), .val (.long x1), .second, .unset] [] := by first | (simp [entryFrame, mkF, argsToLocals, Value.category]; done) | rfl
def Q43 (Z : State) (w1 : Addr) (kw1 : ClassId) (o1 o6 : Addr) (o8 o9 : Addr) (kc7 : ClassId) (p3 p4 p5 : Int32) (q2 : Int64) (h0 : Heap) (n0 : Nat) (v : Option Value) (h : Heap) (L : List Loc) : Prop :=
  (v = none ∧ Fr n0 L ∧ Keep h0 h [o8, o9, o1] ∧ (Exa Z h o8 cn6) ∧ (Fld Z h o8 cn6 "removed" "J" (.long q2)) ∧ (Exa Z h o9 cn6) ∧ (Fld Z h o9 cn6 "removed" "J" (.long q2)) ∧ (Exa Z h o1 cn7) ∧ (Fld Z h o1 cn7 "addsFirst" "Z" (.int 0)) ∧ (Fld Z h o1 cn7 "end" "I" (.int 0)) ∧ (Fld Z h o1 cn7 "first" "I" (.int 0)) ∧ (Fld Z h o1 cn7 "low" "I" (.int 0)) ∧ (Fld Z h o1 cn7 "removed" "I" (.int 0)) ∧ (Fld Z h o1 cn7 "slots" cn3 (.ref w1)))
set_option maxRecDepth 65536 in
set_option maxHeartbeats 40000000 in
theorem rm43 (l : Launch) (Z : State) (a0 : Array Value) (hw : HW a0 Z) (w1 : Addr) (kw1 : ClassId) (G : GW Z w1 kw1) (ws : List Jvm.Cond) (o1 o6 : Addr) (o8 o9 : Addr) (kc7 : ClassId) (p3 p4 p5 : Int32) (q2 : Int64) (h0 : Heap) (n0 : Nat) (O0 : Old Z n0 h0) (g_o1 : n0 ≤ o1) (g_o6 : n0 ≤ o6) (g_o8 : n0 ≤ o8) (g_o9 : n0 ≤ o9) (ne_o9_o8 : o9 ≠ o8) (Ov_kc7 : Ovr Z kc7 cn6) (P0 : Exa Z h0 o1 cn7) (P1 : Fld Z h0 o1 cn7 "addsFirst" "Z" (.int p3)) (P2 : Fld Z h0 o1 cn7 "end" "I" (.int 5)) (P3 : Fld Z h0 o1 cn7 "first" "I" (.int 3)) (P4 : Fld Z h0 o1 cn7 "low" "I" (.int p4)) (P5 : Fld Z h0 o1 cn7 "removed" "I" (.int p5)) (P6 : Fld Z h0 o1 cn7 "slots" cn3 (.ref o6)) (P7 : Arv Z h0 o6 kc7 (.object cn6) (8 : Int32) [.null, .null, .null, (.ref o8), (.ref o9), .null, .null, .null] .null) (P8 : Exa Z h0 o6 cn3) (P9 : Exa Z h0 o8 cn6) (P10 : Fld Z h0 o8 cn6 "removed" "J" (.long 9223372036854775807)) (P11 : Exa Z h0 o9 cn6) (P12 : Fld Z h0 o9 cn6 "removed" "J" (.long 9223372036854775807)) :
    MF l yn2 prog_41_method_9_code 4 none ws ({ frames := 1, cells := 0, slots := 0, locals := 14 } : Room) #[(.ref o1), (.long q2)] Z h0 (Q43 Z w1 kw1 o1 o6 o8 o9 kc7 p3 p4 p5 q2 h0 n0) := by
 obtain ⟨S_w1, A_w1⟩ := id G
 refine MetFree.of_bodySF (plainFor_of_name pn1) hisR ?_
 intro p e s m args below meth c s₁ Bd hml hP hK
 obtain ⟨rfl, hZ, hh⟩ := hP
 obtain ⟨hx, hby, hown, hret, hlk, X0, e0, N0⟩ := own_bd Bd hh n0
 have pre0 := own_ct s₁ (p := p) (e := e) (below := below) (ef43 m o1 q2)
 obtain ⟨T1, X1, e1, st1⟩ := yag X0 hx hZ hown hby (w_47 hw) e0 P3 0 #[.val (.ref o1), .val (.long q2), .second, .unset] [] d2_0 d2_1 rfl
 obtain ⟨T2, X2, e2, st2⟩ := yag X1 hx hZ hown hby (w_49 hw) e1 P2 6 (l478_0 o1 q2) [(.int 3)] d2_6 d2_7 rfl
 obtain ⟨T3, X3, e3, st3⟩ := yag X2 hx hZ hown hby (w_40 hw) e2 P6 13 (l478_0 o1 q2) [] d2_13 d2_14 rfl
 obtain ⟨cl4, Ar4, qa4, Sa4, Na4, Ha4, Ga4⟩ := id (P7)
 have hin4 := inb_of (j := (3 : Int32)) Sa4 ⟨by decide, by decide⟩
 have hat4 : cl4.slots[((3 : Int32)).toNatClampNeg]? = some (.ref o8) := Has.at Ha4 hin4 rfl
 obtain ⟨_, T5, L5, X5, hQ5, st5⟩ := yv X3 hx hZ hown hby hml (y := yn7) (w_113 hw) (w_82 hw) (w_84 hw) (w_83 hw) (w_85 hw) (w_5 hw) e3 P9 [] [] (rm17 l Z a0 hw [] o8 ((9223372036854775807 : Int64)) h0 n0 O0 g_o8 (by decide : (9223372036854775807 : Int64) = (9223372036854775807 : Int64)) P10) 19 (l478_0 o1 q2) rfl d2_19 (lenOf pd5 rfl) 0 0 0
 obtain ⟨rfl, Nq6, e7⟩ := hQ5
 have N5 := Fr.app N0 Nq6
 obtain ⟨T8, X8, e8, st8⟩ := yag X5 hx hZ hown hby (w_40 hw) e7 P6 25 (l478_0 o1 q2) [] d2_25 d2_26 rfl
 obtain ⟨cl9, Ar9, qa9, Sa9, Na9, Ha9, Ga9⟩ := id (P7)
 have hin9 := inb_of (j := (3 : Int32)) Sa9 ⟨by decide, by decide⟩
 have hat9 : cl9.slots[((3 : Int32)).toNatClampNeg]? = some (.ref o8) := Has.at Ha9 hin9 rfl
 obtain ⟨_, T10, L10, X10, hQ10, st10⟩ := yv X8 hx hZ hown hby hml (y := yn14) (w_114 hw) (w_115 hw) (own_w hw 117 rfl) (w_116 hw) (w_118 hw) (w_5 hw) e8 P9 [(.long q2)] [] (rm18 l Z a0 hw [] o8 q2 h0 n0 O0 g_o8 P9 P10) 32 (l478_0 o1 q2) rfl d2_32 (lenOf pd2 rfl) 0 0 0
 obtain ⟨rfl, Nq11, K12, f13, f14⟩ := hQ10
 have N10 := Fr.app N5 Nq11
 have O10 := Old.keep O0 K12 (allS g_o8 all0)
 have f15 := (P0.keep K12)
 have ne16 : o1 ≠ o8 := ne_exa f15 f13 (by decide)
 have f17 := (P2.keep K12 (ninS ne16 nin0))
 obtain ⟨T18, X18, e18, st18⟩ := yag X10 hx hZ hown hby (w_49 hw) rfl f17 6 (l478_1 o1 q2) [(.int 4)] d2_6 d2_7 rfl
 have f19 := (P6.keep K12 (ninS ne16 nin0))
 obtain ⟨T20, X20, e20, st20⟩ := yag X18 hx hZ hown hby (w_40 hw) e18 f19 13 (l478_1 o1 q2) [] d2_13 d2_14 rfl
 have f21 := (P8.keep K12)
 have ne22 : o6 ≠ o8 := ne_exa f21 f13 (by decide)
 have f23 := (P7.keep K12 (ninS ne22 nin0))
 obtain ⟨cl24, Ar24, qa24, Sa24, Na24, Ha24, Ga24⟩ := id (f23)
 have hin24 := inb_of (j := (4 : Int32)) Sa24 ⟨by decide, by decide⟩
 have hat24 : cl24.slots[((4 : Int32)).toNatClampNeg]? = some (.ref o9) := Has.at Ha24 hin24 rfl
 have f25 := (P12.keep K12 (ninS ne_o9_o8 nin0))
 have f26 := (P11.keep K12)
 obtain ⟨_, T27, L27, X27, hQ27, st27⟩ := yv X20 hx hZ hown hby hml (y := yn7) (w_113 hw) (w_82 hw) (w_84 hw) (w_83 hw) (w_85 hw) (w_5 hw) e20 f26 [] [] (rm17 l Z a0 hw [] o9 ((9223372036854775807 : Int64)) T10.heap n0 O10 g_o9 (by decide : (9223372036854775807 : Int64) = (9223372036854775807 : Int64)) f25) 19 (l478_1 o1 q2) rfl d2_19 (lenOf pd5 rfl) 0 0 0
 obtain ⟨rfl, Nq28, e29⟩ := hQ27
 have N27 := Fr.app N10 Nq28
 obtain ⟨T30, X30, e30, st30⟩ := yag X27 hx hZ hown hby (w_40 hw) e29 f19 25 (l478_1 o1 q2) [] d2_25 d2_26 rfl
 obtain ⟨cl31, Ar31, qa31, Sa31, Na31, Ha31, Ga31⟩ := id (f23)
 have hin31 := inb_of (j := (4 : Int32)) Sa31 ⟨by decide, by decide⟩
 have hat31 : cl31.slots[((4 : Int32)).toNatClampNeg]? = some (.ref o9) := Has.at Ha31 hin31 rfl
 obtain ⟨_, T32, L32, X32, hQ32, st32⟩ := yv X30 hx hZ hown hby hml (y := yn14) (w_114 hw) (w_115 hw) (own_w hw 117 rfl) (w_116 hw) (w_118 hw) (w_5 hw) e30 f26 [(.long q2)] [] (rm18 l Z a0 hw [] o9 q2 T10.heap n0 O10 g_o9 f26 f25) 32 (l478_1 o1 q2) rfl d2_32 (lenOf pd2 rfl) 0 0 0
 obtain ⟨rfl, Nq33, K34, f35, f36⟩ := hQ32
 have N32 := Fr.app N27 Nq33
 have O32 := Old.keep O10 K34 (allS g_o9 all0)
 have f37 := (f15.keep K34)
 have ne38 : o1 ≠ o9 := ne_exa f37 f35 (by decide)
 have f39 := (f17.keep K34 (ninS ne38 nin0))
 obtain ⟨T40, X40, e40, st40⟩ := yag X32 hx hZ hown hby (w_49 hw) rfl f39 6 (l478_2 o1 q2) [(.int 5)] d2_6 d2_7 rfl
 obtain ⟨T41, X41, e41, st41⟩ := getS2 X40 hx hZ hown (host := "") (Or.inl (own_w hw 38 rfl)) Via.refl e40 (S_w1.ext O32.2) (g := (mkF m 42 (l478_2 o1 q2) [(.ref o1)])) rfl (hb hby d2_42)
 have f42 := (f19.keep K34 (ninS ne38 nin0))
 obtain ⟨T43, h43, X43, e43, W43, st43⟩ := yp X41 hx hZ hown hby (w_40 hw) e41 f42 f37 (w_41 hw) (w_32 hw) (ty := (.array (.object cn6))) (v := (.ref w1)) (by decide) rfl rfl 45 (l478_2 o1 q2) [] d2_45
 have N43 := Fr.snoc X43 N32 g_o1
 have Fw43 := f42.same W43
 have f44 := (((P4.keep K12 (ninS ne16 nin0)).keep K34 (ninS ne38 nin0)).other W43 (Or.inr (sn47 hw)))
 have f45 := (f37.wr W43)
 obtain ⟨T46, h46, X46, e46, W46, st46⟩ := yp X43 hx hZ hown hby (w_51 hw) e43 f44 f45 (w_52 hw) (w_32 hw) (ty := .int) (v := (.int 0)) (by decide) rfl rfl 50 (l478_2 o1 q2) [] d2_50
 have N46 := Fr.snoc X46 N43 g_o1
 have Fw46 := f44.same W46
 have f47 := ((((P3.keep K12 (ninS ne16 nin0)).keep K34 (ninS ne38 nin0)).other W43 (Or.inr (sn46 hw))).other W46 (Or.inr (sn49 hw)))
 have f48 := (f45.wr W46)
 obtain ⟨T49, h49, X49, e49, W49, st49⟩ := yp X46 hx hZ hown hby (w_47 hw) e46 f47 f48 (w_48 hw) (w_32 hw) (ty := .int) (v := (.int 0)) (by decide) rfl rfl 55 (l478_2 o1 q2) [] d2_55
 have N49 := Fr.snoc X49 N46 g_o1
 have Fw49 := f47.same W49
 have f50 := (((f39.other W43 (Or.inr (sn45 hw))).other W46 (Or.inr (sn50 hw))).other W49 (Or.inr (sn51 hw)))
 have f51 := (f48.wr W49)
 obtain ⟨T52, h52, X52, e52, W52, st52⟩ := yp X49 hx hZ hown hby (w_49 hw) e49 f50 f51 (w_50 hw) (w_32 hw) (ty := .int) (v := (.int 0)) (by decide) rfl rfl 60 (l478_2 o1 q2) [] d2_60
 have N52 := Fr.snoc X52 N49 g_o1
 have Fw52 := f50.same W52
 have f53 := ((((((P5.keep K12 (ninS ne16 nin0)).keep K34 (ninS ne38 nin0)).other W43 (Or.inr (sn48 hw))).other W46 (Or.inr (sn52 hw))).other W49 (Or.inr (sn53 hw))).other W52 (Or.inr (sn54 hw)))
 have f54 := (f51.wr W52)
 obtain ⟨T55, h55, X55, e55, W55, st55⟩ := yp X52 hx hZ hown hby (w_53 hw) e52 f53 f54 (w_54 hw) (w_32 hw) (ty := .int) (v := (.int 0)) (by decide) rfl rfl 65 (l478_2 o1 q2) [] d2_65
 have N55 := Fr.snoc X55 N52 g_o1
 have Fw55 := f53.same W55
 have f56 := (((((((P1.keep K12 (ninS ne16 nin0)).keep K34 (ninS ne38 nin0)).other W43 (Or.inr (sn44 hw))).other W46 (Or.inr (sn55 hw))).other W49 (Or.inr (sn56 hw))).other W52 (Or.inr (sn57 hw))).other W55 (Or.inr (sn58 hw)))
 have f57 := (f54.wr W55)
 obtain ⟨T58, h58, X58, e58, W58, st58⟩ := putFN X55 hx hZ hown (own_w hw 55 rfl) Via.refl e55 f56 f57 (Or.inl (w_56 hw)) (w_32 hw) (ty := .boolean) (v' := (.int 0)) (by decide) rfl (by decide) (g := (mkF m 70 (l478_2 o1 q2) [(.int 0), (.ref o1)])) rfl rfl (hb hby d2_70)
 have N58 := Fr.snoc X58 N55 g_o1
 have Fw58 := f56.same W58
 obtain ⟨fs, hr, hrun, hended, hW, hsame⟩ := X58.leave (v := none) (fun _ => rfl)
 have KL : Keep h0 h58 [o8, o9, o1] := (((((((((Keep.refl h0 [o8, o9, o1]).trans K12 (allS (Or.inl (List.mem_of_getElem? (i := 0) rfl)) all0)).trans K34 (allS (Or.inl (List.mem_of_getElem? (i := 1) rfl)) all0)).wr W43 (Or.inl (List.mem_of_getElem? (i := 2) rfl))).wr W46 (Or.inl (List.mem_of_getElem? (i := 2) rfl))).wr W49 (Or.inl (List.mem_of_getElem? (i := 2) rfl))).wr W52 (Or.inl (List.mem_of_getElem? (i := 2) rfl))).wr W55 (Or.inl (List.mem_of_getElem? (i := 2) rfl))).wr W58 (Or.inl (List.mem_of_getElem? (i := 2) rfl)))
 have f59 := (((((((f13.keep K34).wr W43).wr W46).wr W49).wr W52).wr W55).wr W58)
 have f60 := (((((((f14.keep K34 (ninS (Ne.symm ne_o9_o8) nin0)).other W43 (Or.inl (Ne.symm ne16))).other W46 (Or.inl (Ne.symm ne16))).other W49 (Or.inl (Ne.symm ne16))).other W52 (Or.inl (Ne.symm ne16))).other W55 (Or.inl (Ne.symm ne16))).other W58 (Or.inl (Ne.symm ne16)))
 have f61 := ((((((f35.wr W43).wr W46).wr W49).wr W52).wr W55).wr W58)
 have f62 := ((((((f36.other W43 (Or.inl (Ne.symm ne38))).other W46 (Or.inl (Ne.symm ne38))).other W49 (Or.inl (Ne.symm ne38))).other W52 (Or.inl (Ne.symm ne38))).other W55 (Or.inl (Ne.symm ne38))).other W58 (Or.inl (Ne.symm ne38)))
 have f63 := (f57.wr W58)
 have f64 := ((Fw52.other W55 (Or.inr (sn59 hw))).other W58 (Or.inr (sn60 hw)))
 have f65 := (((Fw49.other W52 (Or.inr (sn61 hw))).other W55 (Or.inr (sn62 hw))).other W58 (Or.inr (sn63 hw)))
 have f66 := ((((Fw46.other W49 (Or.inr (sn64 hw))).other W52 (Or.inr (sn65 hw))).other W55 (Or.inr (sn66 hw))).other W58 (Or.inr (sn67 hw)))
 have f67 := (Fw55.other W58 (Or.inr (sn68 hw)))
 have f68 := (((((Fw43.other W46 (Or.inr (sn69 hw))).other W49 (Or.inr (sn70 hw))).other W52 (Or.inr (sn71 hw))).other W55 (Or.inr (sn72 hw))).other W58 (Or.inr (sn73 hw)))
 refine ⟨_, _, pre0 _ ?_, hrun, hended, _, _, rfl, ?_, ⟨_, rfl⟩, hW, hsame.mono (by decide) (by decide)⟩
 ·
  refine st1 _ ?_
  refine yit X1 hx hby d2_4 (l' := (l478_0 o1 q2)) rfl ?_
  refine yin X1 hx hby d2_5 rfl ?_
  refine st2 _ ?_
  refine yno X2 hx hby d2_10 (tlt (by decide : (3 : Int32) < (5 : Int32))).2.1 ?_
  refine st3 _ ?_
  refine yin X3 hx hby d2_17 rfl ?_
  refine X3.aaload hx (j := (3 : Int32)) (v := (.ref o8)) (by rw [e3]; exact Ar4.1) (State.isArrayOf_alike hZ.alike Ar4.2.1) rfl Ar4.2.2 hin4 hat4 (g := (mkF m 18 (l478_0 o1 q2) [(.int 3), (.ref o6)])) rfl rfl (hb hby d2_18) _ ?_
  refine st5 _ ?_
  refine yfn X5 hx hby d2_22 ((if0 _ _).trans (feq (by decide : ¬ ((1 : Int32) = (0 : Int32)))).1) ?_
  refine st8 _ ?_
  refine yin X8 hx hby d2_29 rfl ?_
  refine X8.aaload hx (j := (3 : Int32)) (v := (.ref o8)) (by rw [e8]; exact Ar9.1) (State.isArrayOf_alike hZ.alike Ar9.2.1) rfl Ar9.2.2 hin9 hat9 (g := (mkF m 30 (l478_0 o1 q2) [(.int 3), (.ref o6)])) rfl rfl (hb hby d2_30) _ ?_
  refine XS.lloadN X8.here hx rfl (hb hby d2_31) rfl ?_
  refine st10 _ ?_
  refine XS.iinc X10.here hx rfl (hb hby d2_35) rfl (l' := (l478_1 o1 q2)) rfl ?_
  refine ygo X10 hx hby 38 5 rfl d2_38 (by decide) ?_
  refine yin X10 hx hby d2_5 rfl ?_
  refine st18 _ ?_
  refine yno X18 hx hby d2_10 (tlt (by decide : (4 : Int32) < (5 : Int32))).2.1 ?_
  refine st20 _ ?_
  refine yin X20 hx hby d2_17 rfl ?_
  refine X20.aaload hx (j := (4 : Int32)) (v := (.ref o9)) (by rw [e20]; exact Ar24.1) (State.isArrayOf_alike hZ.alike Ar24.2.1) rfl Ar24.2.2 hin24 hat24 (g := (mkF m 18 (l478_1 o1 q2) [(.int 4), (.ref o6)])) rfl rfl (hb hby d2_18) _ ?_
  refine st27 _ ?_
  refine yfn X27 hx hby d2_22 ((if0 _ _).trans (feq (by decide : ¬ ((1 : Int32) = (0 : Int32)))).1) ?_
  refine st30 _ ?_
  refine yin X30 hx hby d2_29 rfl ?_
  refine X30.aaload hx (j := (4 : Int32)) (v := (.ref o9)) (by rw [e30]; exact Ar31.1) (State.isArrayOf_alike hZ.alike Ar31.2.1) rfl Ar31.2.2 hin31 hat31 (g := (mkF m 30 (l478_1 o1 q2) [(.int 4), (.ref o6)])) rfl rfl (hb hby d2_30) _ ?_
  refine XS.lloadN X30.here hx rfl (hb hby d2_31) rfl ?_
  refine st32 _ ?_
  refine XS.iinc X32.here hx rfl (hb hby d2_35) rfl (l' := (l478_2 o1 q2)) rfl ?_
  refine ygo X32 hx hby 38 5 rfl d2_38 (by decide) ?_
  refine yin X32 hx hby d2_5 rfl ?_
  refine st40 _ ?_
  refine yye X40 hx hby 10 41 rfl d2_10 (flt (by decide : ¬ ((5 : Int32) < (5 : Int32)))).2.1 (by decide) ?_
  refine yan X40 hx hby d2_41 rfl rfl ?_
  refine st41 _ ?_
  refine st43 _ ?_
  refine yan X43 hx hby d2_48 rfl rfl ?_
  refine yic X43 hx hby d2_49 ?_
  refine st46 _ ?_
  refine yan X46 hx hby d2_53 rfl rfl ?_
  refine yic X46 hx hby d2_54 ?_
  refine st49 _ ?_
  refine yan X49 hx hby d2_58 rfl rfl ?_
  refine yic X49 hx hby d2_59 ?_
  refine st52 _ ?_
  refine yan X52 hx hby d2_63 rfl rfl ?_
  refine yic X52 hx hby d2_64 ?_
  refine st55 _ ?_
  refine yan X55 hx hby d2_68 rfl rfl ?_
  refine yic X55 hx hby d2_69 ?_
  refine st58 _ ?_
  show Steps p.tables e below (T58.setTop (mkF m 73 (l478_2 o1 q2) [])) _
  exact X58.returnOut hx hret (hb hby d2_73) hr
 ·
  show Q43 Z w1 kw1 o1 o6 o8 o9 kc7 p3 p4 p5 q2 h0 n0 _ T58.heap _
  rw [e58]
  exact ⟨rfl, N58, KL, f59, f60, f61, f62, f63, Fw58, f64, f65, f66, f67, f68⟩
def l479_0 (o1 o2 : Addr) (q3 : Int64) : Array Slot := #[.val (.ref o1), .val (.ref o2), .val (.long q3), .second]
theorem ef44 (m : MethodId) (x0 x1 : Addr) (x2 : Int64) : entryFrame m #[(.ref x0), (.ref x1), (.long x2)] 4 = mkF m 0 #[.val (.ref x0), .val (.ref x1), .val (.long x2), .second] [] := by first | (simp [entryFrame, mkF, argsToLocals, Value.category]; done) | rfl
def Q44 (Z : State) (o1 o2 : Addr) (o4 o6 : Addr) (kc5 : ClassId) (q3 : Int64) (h0 : Heap) (n0 : Nat) (v : Option Value) (h : Heap) (L : List Loc) : Prop :=
  (v = none ∧ Fr n0 L ∧ Keep h0 h [o2, o1] ∧ (Exa Z h o2 cn6) ∧ (Fld Z h o2 cn6 "removed" "J" (.long q3)) ∧ (Exa Z h o1 cn7) ∧ (Fld Z h o1 cn7 "addsFirst" "Z" (.int 1)) ∧ (Fld Z h o1 cn7 "end" "I" (.int 5)) ∧ (Fld Z h o1 cn7 "first" "I" (.int 3)) ∧ (Fld Z h o1 cn7 "low" "I" (.int 3)) ∧ (Fld Z h o1 cn7 "removed" "I" (.int 1)) ∧ (Fld Z h o1 cn7 "slots" cn3 (.ref o4)))
set_option maxRecDepth 65536 in
set_option maxHeartbeats 40000000 in
theorem rm44 (l : Launch) (Z : State) (a0 : Array Value) (hw : HW a0 Z) (ws : List Jvm.Cond) (o1 o2 : Addr) (o4 o6 : Addr) (kc5 : ClassId) (q3 : Int64) (h0 : Heap) (n0 : Nat) (O0 : Old Z n0 h0) (g_o1 : n0 ≤ o1) (g_o2 : n0 ≤ o2) (g_o4 : n0 ≤ o4) (g_o6 : n0 ≤ o6) (ne_o6_o2 : o6 ≠ o2) (Ov_kc5 : Ovr Z kc5 cn6) (hp0 : ¬ (q3 = (9223372036854775807 : Int64))) (P0 : Exa Z h0 o1 cn7) (P1 : Fld Z h0 o1 cn7 "addsFirst" "Z" (.int 1)) (P2 : Fld Z h0 o1 cn7 "end" "I" (.int 5)) (P3 : Fld Z h0 o1 cn7 "first" "I" (.int 3)) (P4 : Fld Z h0 o1 cn7 "low" "I" (.int 3)) (P5 : Fld Z h0 o1 cn7 "removed" "I" (.int 0)) (P6 : Fld Z h0 o1 cn7 "slots" cn3 (.ref o4)) (P7 : Exa Z h0 o2 cn6) (P8 : Fld Z h0 o2 cn6 "removed" "J" (.long 9223372036854775807)) (P9 : Arv Z h0 o4 kc5 (.object cn6) (8 : Int32) [.null, .null, .null, (.ref o6), (.ref o2), .null, .null, .null] .null) (P10 : Exa Z h0 o4 cn3) (P11 : Exa Z h0 o6 cn6) (P12 : Fld Z h0 o6 cn6 "removed" "J" (.long 9223372036854775807)) :
    MF l yn15 prog_41_method_8_code 4 none ws ({ frames := 1, cells := 0, slots := 0, locals := 14 } : Room) #[(.ref o1), (.ref o2), (.long q3)] Z h0 (Q44 Z o1 o2 o4 o6 kc5 q3 h0 n0) := by
 refine MetFree.of_bodySF (plainFor_of_name pn1) hisR ?_
 intro p e s m args below meth c s₁ Bd hml hP hK
 obtain ⟨rfl, hZ, hh⟩ := hP
 obtain ⟨hx, hby, hown, hret, hlk, X0, e0, N0⟩ := own_bd Bd hh n0
 have pre0 := own_ct s₁ (p := p) (e := e) (below := below) (ef44 m o1 o2 q3)
 revert pre0
 generalize s₁.setTop (entryFrame m #[(.ref o1), (.ref o2), (.long q3)] 4) = E0
 intro pre0
 obtain ⟨_, T1, L1, X1, hQ1, st1⟩ := yv X0 hx hZ hown hby hml (y := yn14) (w_114 hw) (w_115 hw) (own_w hw 117 rfl) (w_116 hw) (w_118 hw) (w_5 hw) e0 P7 [(.long q3)] [] (rm20 l Z a0 hw [] o2 q3 h0 n0 O0 g_o2 hp0 P7 P8) 2 (l479_0 o1 o2 q3) rfl d15_2 (lenOf pd2 rfl) 0 0 0
 obtain ⟨rfl, Nq2, K3, f4, f5⟩ := hQ1
 have N1 := Fr.app N0 Nq2
 have O1 := Old.keep O0 K3 (allS g_o2 all0)
 have f6 := (P0.keep K3)
 have ne7 : o1 ≠ o2 := ne_exa f6 f4 (by decide)
 have f8 := (P5.keep K3 (ninS ne7 nin0))
 obtain ⟨T9, X9, e9, st9⟩ := yg X1 hx hZ hown hby (w_53 hw) rfl f8 7 (l479_0 o1 o2 q3) [(.ref o1)] d15_7
 obtain ⟨T10, h10, X10, e10, W10, st10⟩ := yp X9 hx hZ hown hby (w_53 hw) e9 f8 f6 (w_54 hw) (w_32 hw) (ty := .int) (v := (.int 1)) (by decide) rfl rfl 12 (l479_0 o1 o2 q3) [] d15_12
 have N10 := Fr.snoc X10 N1 g_o1
 have Fw10 := f8.same W10
 have O10 := Old.wr O1 W10 g_o1
 have f11 := ((P3.keep K3 (ninS ne7 nin0)).other W10 (Or.inr (sn62 hw)))
 obtain ⟨T12, X12, e12, st12⟩ := yag X10 hx hZ hown hby (w_47 hw) e10 f11 15 (l479_0 o1 o2 q3) [] d15_15 d15_16 rfl
 have f13 := ((P2.keep K3 (ninS ne7 nin0)).other W10 (Or.inr (sn59 hw)))
 obtain ⟨T14, X14, e14, st14⟩ := yag X12 hx hZ hown hby (w_49 hw) e12 f13 19 (l479_0 o1 o2 q3) [(.int 3)] d15_19 d15_20 rfl
 have f15 := ((P6.keep K3 (ninS ne7 nin0)).other W10 (Or.inr (sn72 hw)))
 obtain ⟨T16, X16, e16, st16⟩ := yag X14 hx hZ hown hby (w_40 hw) e14 f15 26 (l479_0 o1 o2 q3) [] d15_26 d15_27 rfl
 obtain ⟨T17, X17, e17, st17⟩ := yag X16 hx hZ hown hby (w_47 hw) e16 f11 30 (l479_0 o1 o2 q3) [(.ref o4)] d15_30 d15_31 rfl
 have f18 := ((P10.keep K3).wr W10)
 have f19 := (f4.wr W10)
 have ne20 : o4 ≠ o2 := ne_exa f18 f19 (by decide)
 have f21 := (f6.wr W10)
 have ne22 : o4 ≠ o1 := ne_exa f18 f21 (by decide)
 have f23 := ((P9.keep K3 (ninS ne20 nin0)).other W10 ne22)
 obtain ⟨cl24, Ar24, qa24, Sa24, Na24, Ha24, Ga24⟩ := id (f23)
 have hin24 := inb_of (j := (3 : Int32)) Sa24 ⟨by decide, by decide⟩
 have hat24 : cl24.slots[((3 : Int32)).toNatClampNeg]? = some (.ref o6) := Has.at Ha24 hin24 rfl
 have f25 := ((P11.keep K3).wr W10)
 have ne26 : o6 ≠ o1 := ne_exa f25 f21 (by decide)
 have f27 := ((P12.keep K3 (ninS ne_o6_o2 nin0)).other W10 (Or.inl ne26))
 obtain ⟨_, T28, L28, X28, hQ28, st28⟩ := yv X17 hx hZ hown hby hml (y := yn7) (w_113 hw) (w_82 hw) (w_84 hw) (w_83 hw) (w_85 hw) (w_5 hw) e17 f25 [] [] (rm17 l Z a0 hw [] o6 ((9223372036854775807 : Int64)) h10 n0 O10 g_o6 (by decide : (9223372036854775807 : Int64) = (9223372036854775807 : Int64)) f27) 35 (l479_0 o1 o2 q3) rfl d15_35 (lenOf pd5 rfl) 0 0 0
 obtain ⟨rfl, Nq29, e30⟩ := hQ28
 have N28 := Fr.app N10 Nq29
 obtain ⟨T31, X31, e31, st31⟩ := yag X28 hx hZ hown hby (w_47 hw) e30 f11 64 (l479_0 o1 o2 q3) [] d15_64 d15_65 rfl
 have f32 := ((P4.keep K3 (ninS ne7 nin0)).other W10 (Or.inr (sn66 hw)))
 obtain ⟨T33, X33, e33, st33⟩ := yag X31 hx hZ hown hby (w_51 hw) e31 f32 68 (l479_0 o1 o2 q3) [(.int 3)] d15_68 d15_69 rfl
 obtain ⟨T34, X34, e34, st34⟩ := yag X33 hx hZ hown hby (w_53 hw) e33 Fw10 73 (l479_0 o1 o2 q3) [(.int 0)] d15_73 d15_74 rfl
 obtain ⟨_, T35, L35, X35, hQ35, st35⟩ := yv X34 hx hZ hown hby hml (y := yn3) (own_w hw 100 rfl) (w_58 hw) (own_w hw 60 rfl) (w_59 hw) (own_w hw 61 rfl) (w_33 hw) e34 f21 [] [(.int 1)] (rm4 l Z a0 hw [] o1 ((5 : Int32)) ((3 : Int32)) ((1 : Int32)) h10 n0 O10 g_o1 f13 f11 Fw10) 79 (l479_0 o1 o2 q3) rfl d15_79 (lenOf pd3 rfl) 1 0 0
 obtain ⟨rfl, Nq36, e37⟩ := hQ35
 have N35 := Fr.app N28 Nq36
 obtain ⟨_, T38, L38, X38, hQ38, st38⟩ := own_cs X35 hx hZ hown (y := yn10) (own_w hw 101 rfl) (own_w hw 102 rfl) (own_w hw 104 rfl) (w_103 hw) e37 (argsL := [(.int (((5 : Int32) - (3 : Int32)) - (1 : Int32))), (.int 4)]) (rest := [(.int 1)]) (rm11 l Z a0 hw [] ((((5 : Int32) - (3 : Int32)) - (1 : Int32))) ((4 : Int32)) h10 n0 O10 ) (g := (mkF m 83 (l479_0 o1 o2 q3) [(.int 4), (.int (((5 : Int32) - (3 : Int32)) - (1 : Int32))), (.int 1)])) rfl (by rw [hml]; rfl) rfl (hb hby d15_83) (lenOf pd8 rfl) (W := 1) (c1 := 0) (s1 := 0)
 have pre39 : Go p e below T35 (mkF m 83 (l479_0 o1 o2 q3) [(.int 4), (.int (((5 : Int32) - (3 : Int32)) - (1 : Int32))), (.int 1)]) E0 := fun t k => by
  refine pre0 _ ?_
  refine yan X0 hx hby d15_0 rfl rfl ?_
  refine XS.lloadN X0.here hx rfl (hb hby d15_1) rfl ?_
  refine st1 _ ?_
  refine yan X1 hx hby d15_5 rfl rfl ?_
  refine XS.dup X1.here hx rfl (hb hby d15_6) rfl rfl ?_
  refine st9 _ ?_
  refine yic X9 hx hby d15_10 ?_
  refine yad X9 hx hby d15_11 ?_
  refine st10 _ ?_
  refine st12 _ ?_
  refine st14 _ ?_
  refine yno X14 hx hby d15_23 (tlt (by decide : (3 : Int32) < (5 : Int32))).2.1 ?_
  refine st16 _ ?_
  refine st17 _ ?_
  refine X17.aaload hx (j := (3 : Int32)) (v := (.ref o6)) (by rw [e17]; exact Ar24.1) (State.isArrayOf_alike hZ.alike Ar24.2.1) rfl Ar24.2.2 hin24 hat24 (g := (mkF m 34 (l479_0 o1 o2 q3) [(.int 3), (.ref o4)])) rfl rfl (hb hby d15_34) _ ?_
  refine st28 _ ?_
  refine XS.ifYes X28.here hx rfl (pc0 := 38) (pc' := 64) rfl (hb hby d15_38) rfl ((if0 _ _).trans (feq (by decide : ¬ ((1 : Int32) = (0 : Int32)))).2) (by decide) (by decide) ?_
  refine st31 _ ?_
  refine st33 _ ?_
  refine ysu X33 hx hby d15_72 ?_
  refine st34 _ ?_
  refine yad X34 hx hby d15_77 ?_
  refine yan X34 hx hby d15_78 rfl rfl ?_
  refine st35 _ ?_
  refine yic X35 hx hby d15_82 ?_
  exact k
 rcases hQ38 with ⟨hc40, rfl, Nq41, e42⟩ | ⟨hc43, rfl, Nq44, e45⟩
 ·
  have N38 := Fr.app N35 Nq41
  obtain ⟨fs, hr, hrun, hended, hW, hsame⟩ := X38.leave (v := none) (fun _ => rfl)
  have KL : Keep h0 h10 [o2, o1] := (((Keep.refl h0 [o2, o1]).trans K3 (allS (Or.inl (List.mem_of_getElem? (i := 0) rfl)) all0)).wr W10 (Or.inl (List.mem_of_getElem? (i := 1) rfl)))
  have f46 := (f5.other W10 (Or.inl (Ne.symm ne7)))
  have f47 := ((P1.keep K3 (ninS ne7 nin0)).other W10 (Or.inr (sn58 hw)))
  refine ⟨_, _, pre39 _ ?_, hrun, hended, _, _, rfl, ?_, ⟨_, rfl⟩, hW, hsame.mono (by decide) (by decide)⟩
  ·
   refine st38 _ ?_
   refine yye X38 hx hby 86 93 rfl d15_86 (flt (by decide : ¬ ((4 : Int32) < (1 : Int32)))).2.2.2 (by decide) ?_
   show Steps p.tables e below (T38.setTop (mkF m 93 (l479_0 o1 o2 q3) [])) _
   exact X38.returnOut hx hret (hb hby d15_93) hr
  ·
   show Q44 Z o1 o2 o4 o6 kc5 q3 h0 n0 _ T38.heap _
   rw [e42]
   exact ⟨rfl, N38, KL, f19, f46, f21, f47, f13, f11, f32, Fw10, f15⟩
 ·
  exact absurd (own_glt1 (n := 4) (k := (4 : Int32)) (by decide) (by have q0 := own_sub (x := ((5 : Int32) - (3 : Int32))) (k := (1 : Int32)) (n := 1) (lo := 2) (hi := 2) (by decide) (by have q0 := own_sub (x := (5 : Int32)) (k := (3 : Int32)) (n := 3) (lo := 5) (hi := 5) (by decide) (by have q0 := (by decide : ((5 : Int32)).toInt = 5); omega) (by decide) (by decide); omega) (by decide) (by decide); omega)) hc43
def l480_0 (o1 : Addr) (q2 : Int64) : Array Slot := #[.val (.ref o1), .val (.long q2), .second, .val (.int 3)]
def l480_1 (o1 : Addr) (q2 : Int64) : Array Slot := #[.val (.ref o1), .val (.long q2), .second, .val (.int 4)]
def l480_2 (o1 : Addr) (q2 : Int64) : Array Slot := #[.val (.ref o1), .val (.long q2), .second, .val (.int 5)]
theorem ef45 (m : MethodId) (x0 : Addr) (x1 : Int64) : entryFrame m #[(.ref x0), (.long x1)] 4 = mkF m 0 #[.val (.ref x0), .val (.long x1), .second, .unset] [] := by first | (simp [entryFrame, mkF, argsToLocals, Value.category]; done) | rfl
def Q45 (Z : State) (w1 : Addr) (kw1 : ClassId) (o1 o5 : Addr) (o7 o8 : Addr) (kc6 : ClassId) (q9 : Int64) (p3 p4 : Int32) (q2 : Int64) (h0 : Heap) (n0 : Nat) (v : Option Value) (h : Heap) (L : List Loc) : Prop :=
  (v = none ∧ Fr n0 L ∧ Keep h0 h [o7, o1] ∧ (Exa Z h o7 cn6) ∧ (Fld Z h o7 cn6 "removed" "J" (.long q2)) ∧ (Exa Z h o1 cn7) ∧ (Fld Z h o1 cn7 "addsFirst" "Z" (.int 0)) ∧ (Fld Z h o1 cn7 "end" "I" (.int 0)) ∧ (Fld Z h o1 cn7 "first" "I" (.int 0)) ∧ (Fld Z h o1 cn7 "low" "I" (.int 0)) ∧ (Fld Z h o1 cn7 "removed" "I" (.int 0)) ∧ (Fld Z h o1 cn7 "slots" cn3 (.ref w1)))
set_option maxRecDepth 65536 in
set_option maxHeartbeats 40000000 in
theorem rm45 (l : Launch) (Z : State) (a0 : Array Value) (hw : HW a0 Z) (w1 : Addr) (kw1 : ClassId) (G : GW Z w1 kw1) (ws : List Jvm.Cond) (o1 o5 : Addr) (o7 o8 : Addr) (kc6 : ClassId) (q9 : Int64) (p3 p4 : Int32) (q2 : Int64) (h0 : Heap) (n0 : Nat) (O0 : Old Z n0 h0) (g_o1 : n0 ≤ o1) (g_o5 : n0 ≤ o5) (g_o7 : n0 ≤ o7) (g_o8 : n0 ≤ o8) (ne_o8_o7 : o8 ≠ o7) (Ov_kc6 : Ovr Z kc6 cn6) (hp0 : ¬ (q9 = (9223372036854775807 : Int64))) (P0 : Exa Z h0 o1 cn7) (P1 : Fld Z h0 o1 cn7 "addsFirst" "Z" (.int p3)) (P2 : Fld Z h0 o1 cn7 "end" "I" (.int 5)) (P3 : Fld Z h0 o1 cn7 "first" "I" (.int 3)) (P4 : Fld Z h0 o1 cn7 "low" "I" (.int p4)) (P5 : Fld Z h0 o1 cn7 "removed" "I" (.int p3)) (P6 : Fld Z h0 o1 cn7 "slots" cn3 (.ref o5)) (P7 : Arv Z h0 o5 kc6 (.object cn6) (8 : Int32) [.null, .null, .null, (.ref o7), (.ref o8), .null, .null, .null] .null) (P8 : Exa Z h0 o5 cn3) (P9 : Exa Z h0 o7 cn6) (P10 : Fld Z h0 o7 cn6 "removed" "J" (.long 9223372036854775807)) (P11 : Exa Z h0 o8 cn6) (P12 : Fld Z h0 o8 cn6 "removed" "J" (.long q9)) :
    MF l yn2 prog_41_method_9_code 4 none ws ({ frames := 1, cells := 0, slots := 0, locals := 14 } : Room) #[(.ref o1), (.long q2)] Z h0 (Q45 Z w1 kw1 o1 o5 o7 o8 kc6 q9 p3 p4 q2 h0 n0) := by
 obtain ⟨S_w1, A_w1⟩ := id G
 refine MetFree.of_bodySF (plainFor_of_name pn1) hisR ?_
 intro p e s m args below meth c s₁ Bd hml hP hK
 obtain ⟨rfl, hZ, hh⟩ := hP
 obtain ⟨hx, hby, hown, hret, hlk, X0, e0, N0⟩ := own_bd Bd hh n0
 have pre0 := own_ct s₁ (p := p) (e := e) (below := below) (ef45 m o1 q2)
 obtain ⟨T1, X1, e1, st1⟩ := yag X0 hx hZ hown hby (w_47 hw) e0 P3 0 #[.val (.ref o1), .val (.long q2), .second, .unset] [] d2_0 d2_1 rfl
 obtain ⟨T2, X2, e2, st2⟩ := yag X1 hx hZ hown hby (w_49 hw) e1 P2 6 (l480_0 o1 q2) [(.int 3)] d2_6 d2_7 rfl
 obtain ⟨T3, X3, e3, st3⟩ := yag X2 hx hZ hown hby (w_40 hw) e2 P6 13 (l480_0 o1 q2) [] d2_13 d2_14 rfl
 obtain ⟨cl4, Ar4, qa4, Sa4, Na4, Ha4, Ga4⟩ := id (P7)
 have hin4 := inb_of (j := (3 : Int32)) Sa4 ⟨by decide, by decide⟩
 have hat4 : cl4.slots[((3 : Int32)).toNatClampNeg]? = some (.ref o7) := Has.at Ha4 hin4 rfl
 obtain ⟨_, T5, L5, X5, hQ5, st5⟩ := yv X3 hx hZ hown hby hml (y := yn7) (w_113 hw) (w_82 hw) (w_84 hw) (w_83 hw) (w_85 hw) (w_5 hw) e3 P9 [] [] (rm17 l Z a0 hw [] o7 ((9223372036854775807 : Int64)) h0 n0 O0 g_o7 (by decide : (9223372036854775807 : Int64) = (9223372036854775807 : Int64)) P10) 19 (l480_0 o1 q2) rfl d2_19 (lenOf pd5 rfl) 0 0 0
 obtain ⟨rfl, Nq6, e7⟩ := hQ5
 have N5 := Fr.app N0 Nq6
 obtain ⟨T8, X8, e8, st8⟩ := yag X5 hx hZ hown hby (w_40 hw) e7 P6 25 (l480_0 o1 q2) [] d2_25 d2_26 rfl
 obtain ⟨cl9, Ar9, qa9, Sa9, Na9, Ha9, Ga9⟩ := id (P7)
 have hin9 := inb_of (j := (3 : Int32)) Sa9 ⟨by decide, by decide⟩
 have hat9 : cl9.slots[((3 : Int32)).toNatClampNeg]? = some (.ref o7) := Has.at Ha9 hin9 rfl
 obtain ⟨_, T10, L10, X10, hQ10, st10⟩ := yv X8 hx hZ hown hby hml (y := yn14) (w_114 hw) (w_115 hw) (own_w hw 117 rfl) (w_116 hw) (w_118 hw) (w_5 hw) e8 P9 [(.long q2)] [] (rm18 l Z a0 hw [] o7 q2 h0 n0 O0 g_o7 P9 P10) 32 (l480_0 o1 q2) rfl d2_32 (lenOf pd2 rfl) 0 0 0
 obtain ⟨rfl, Nq11, K12, f13, f14⟩ := hQ10
 have N10 := Fr.app N5 Nq11
 have O10 := Old.keep O0 K12 (allS g_o7 all0)
 have f15 := (P0.keep K12)
 have ne16 : o1 ≠ o7 := ne_exa f15 f13 (by decide)
 have f17 := (P2.keep K12 (ninS ne16 nin0))
 obtain ⟨T18, X18, e18, st18⟩ := yag X10 hx hZ hown hby (w_49 hw) rfl f17 6 (l480_1 o1 q2) [(.int 4)] d2_6 d2_7 rfl
 have f19 := (P6.keep K12 (ninS ne16 nin0))
 obtain ⟨T20, X20, e20, st20⟩ := yag X18 hx hZ hown hby (w_40 hw) e18 f19 13 (l480_1 o1 q2) [] d2_13 d2_14 rfl
 have f21 := (P8.keep K12)
 have ne22 : o5 ≠ o7 := ne_exa f21 f13 (by decide)
 have f23 := (P7.keep K12 (ninS ne22 nin0))
 obtain ⟨cl24, Ar24, qa24, Sa24, Na24, Ha24, Ga24⟩ := id (f23)
 have hin24 := inb_of (j := (4 : Int32)) Sa24 ⟨by decide, by decide⟩
 have hat24 : cl24.slots[((4 : Int32)).toNatClampNeg]? = some (.ref o8) := Has.at Ha24 hin24 rfl
 have f25 := (P12.keep K12 (ninS ne_o8_o7 nin0))
 have f26 := (P11.keep K12)
 obtain ⟨_, T27, L27, X27, hQ27, st27⟩ := yv X20 hx hZ hown hby hml (y := yn7) (w_113 hw) (w_82 hw) (w_84 hw) (w_83 hw) (w_85 hw) (w_5 hw) e20 f26 [] [] (rm21 l Z a0 hw [] o8 q9 T10.heap n0 O10 g_o8 hp0 f25) 19 (l480_1 o1 q2) rfl d2_19 (lenOf pd5 rfl) 0 0 0
 obtain ⟨rfl, Nq28, e29⟩ := hQ27
 have N27 := Fr.app N10 Nq28
 obtain ⟨T30, X30, e30, st30⟩ := yag X27 hx hZ hown hby (w_49 hw) e29 f17 6 (l480_2 o1 q2) [(.int 5)] d2_6 d2_7 rfl
 obtain ⟨T31, X31, e31, st31⟩ := getS2 X30 hx hZ hown (host := "") (Or.inl (own_w hw 38 rfl)) Via.refl e30 (S_w1.ext O10.2) (g := (mkF m 42 (l480_2 o1 q2) [(.ref o1)])) rfl (hb hby d2_42)
 obtain ⟨T32, h32, X32, e32, W32, st32⟩ := yp X31 hx hZ hown hby (w_40 hw) e31 f19 f15 (w_41 hw) (w_32 hw) (ty := (.array (.object cn6))) (v := (.ref w1)) (by decide) rfl rfl 45 (l480_2 o1 q2) [] d2_45
 have N32 := Fr.snoc X32 N27 g_o1
 have Fw32 := f19.same W32
 have f33 := ((P4.keep K12 (ninS ne16 nin0)).other W32 (Or.inr (sn47 hw)))
 have f34 := (f15.wr W32)
 obtain ⟨T35, h35, X35, e35, W35, st35⟩ := yp X32 hx hZ hown hby (w_51 hw) e32 f33 f34 (w_52 hw) (w_32 hw) (ty := .int) (v := (.int 0)) (by decide) rfl rfl 50 (l480_2 o1 q2) [] d2_50
 have N35 := Fr.snoc X35 N32 g_o1
 have Fw35 := f33.same W35
 have f36 := (((P3.keep K12 (ninS ne16 nin0)).other W32 (Or.inr (sn46 hw))).other W35 (Or.inr (sn49 hw)))
 have f37 := (f34.wr W35)
 obtain ⟨T38, h38, X38, e38, W38, st38⟩ := yp X35 hx hZ hown hby (w_47 hw) e35 f36 f37 (w_48 hw) (w_32 hw) (ty := .int) (v := (.int 0)) (by decide) rfl rfl 55 (l480_2 o1 q2) [] d2_55
 have N38 := Fr.snoc X38 N35 g_o1
 have Fw38 := f36.same W38
 have f39 := (((f17.other W32 (Or.inr (sn45 hw))).other W35 (Or.inr (sn50 hw))).other W38 (Or.inr (sn51 hw)))
 have f40 := (f37.wr W38)
 obtain ⟨T41, h41, X41, e41, W41, st41⟩ := yp X38 hx hZ hown hby (w_49 hw) e38 f39 f40 (w_50 hw) (w_32 hw) (ty := .int) (v := (.int 0)) (by decide) rfl rfl 60 (l480_2 o1 q2) [] d2_60
 have N41 := Fr.snoc X41 N38 g_o1
 have Fw41 := f39.same W41
 have f42 := (((((P5.keep K12 (ninS ne16 nin0)).other W32 (Or.inr (sn48 hw))).other W35 (Or.inr (sn52 hw))).other W38 (Or.inr (sn53 hw))).other W41 (Or.inr (sn54 hw)))
 have f43 := (f40.wr W41)
 obtain ⟨T44, h44, X44, e44, W44, st44⟩ := yp X41 hx hZ hown hby (w_53 hw) e41 f42 f43 (w_54 hw) (w_32 hw) (ty := .int) (v := (.int 0)) (by decide) rfl rfl 65 (l480_2 o1 q2) [] d2_65
 have N44 := Fr.snoc X44 N41 g_o1
 have Fw44 := f42.same W44
 have f45 := ((((((P1.keep K12 (ninS ne16 nin0)).other W32 (Or.inr (sn44 hw))).other W35 (Or.inr (sn55 hw))).other W38 (Or.inr (sn56 hw))).other W41 (Or.inr (sn57 hw))).other W44 (Or.inr (sn58 hw)))
 have f46 := (f43.wr W44)
 obtain ⟨T47, h47, X47, e47, W47, st47⟩ := putFN X44 hx hZ hown (own_w hw 55 rfl) Via.refl e44 f45 f46 (Or.inl (w_56 hw)) (w_32 hw) (ty := .boolean) (v' := (.int 0)) (by decide) rfl (by decide) (g := (mkF m 70 (l480_2 o1 q2) [(.int 0), (.ref o1)])) rfl rfl (hb hby d2_70)
 have N47 := Fr.snoc X47 N44 g_o1
 have Fw47 := f45.same W47
 obtain ⟨fs, hr, hrun, hended, hW, hsame⟩ := X47.leave (v := none) (fun _ => rfl)
 have KL : Keep h0 h47 [o7, o1] := ((((((((Keep.refl h0 [o7, o1]).trans K12 (allS (Or.inl (List.mem_of_getElem? (i := 0) rfl)) all0)).wr W32 (Or.inl (List.mem_of_getElem? (i := 1) rfl))).wr W35 (Or.inl (List.mem_of_getElem? (i := 1) rfl))).wr W38 (Or.inl (List.mem_of_getElem? (i := 1) rfl))).wr W41 (Or.inl (List.mem_of_getElem? (i := 1) rfl))).wr W44 (Or.inl (List.mem_of_getElem? (i := 1) rfl))).wr W47 (Or.inl (List.mem_of_getElem? (i := 1) rfl)))
 have f48 := ((((((f13.wr W32).wr W35).wr W38).wr W41).wr W44).wr W47)
 have f49 := ((((((f14.other W32 (Or.inl (Ne.symm ne16))).other W35 (Or.inl (Ne.symm ne16))).other W38 (Or.inl (Ne.symm ne16))).other W41 (Or.inl (Ne.symm ne16))).other W44 (Or.inl (Ne.symm ne16))).other W47 (Or.inl (Ne.symm ne16)))
 have f50 := (f46.wr W47)
 have f51 := ((Fw41.other W44 (Or.inr (sn59 hw))).other W47 (Or.inr (sn60 hw)))
 have f52 := (((Fw38.other W41 (Or.inr (sn61 hw))).other W44 (Or.inr (sn62 hw))).other W47 (Or.inr (sn63 hw)))
 have f53 := ((((Fw35.other W38 (Or.inr (sn64 hw))).other W41 (Or.inr (sn65 hw))).other W44 (Or.inr (sn66 hw))).other W47 (Or.inr (sn67 hw)))
 have f54 := (Fw44.other W47 (Or.inr (sn68 hw)))
 have f55 := (((((Fw32.other W35 (Or.inr (sn69 hw))).other W38 (Or.inr (sn70 hw))).other W41 (Or.inr (sn71 hw))).other W44 (Or.inr (sn72 hw))).other W47 (Or.inr (sn73 hw)))
 refine ⟨_, _, pre0 _ ?_, hrun, hended, _, _, rfl, ?_, ⟨_, rfl⟩, hW, hsame.mono (by decide) (by decide)⟩
 ·
  refine st1 _ ?_
  refine yit X1 hx hby d2_4 (l' := (l480_0 o1 q2)) rfl ?_
  refine yin X1 hx hby d2_5 rfl ?_
  refine st2 _ ?_
  refine yno X2 hx hby d2_10 (tlt (by decide : (3 : Int32) < (5 : Int32))).2.1 ?_
  refine st3 _ ?_
  refine yin X3 hx hby d2_17 rfl ?_
  refine X3.aaload hx (j := (3 : Int32)) (v := (.ref o7)) (by rw [e3]; exact Ar4.1) (State.isArrayOf_alike hZ.alike Ar4.2.1) rfl Ar4.2.2 hin4 hat4 (g := (mkF m 18 (l480_0 o1 q2) [(.int 3), (.ref o5)])) rfl rfl (hb hby d2_18) _ ?_
  refine st5 _ ?_
  refine yfn X5 hx hby d2_22 ((if0 _ _).trans (feq (by decide : ¬ ((1 : Int32) = (0 : Int32)))).1) ?_
  refine st8 _ ?_
  refine yin X8 hx hby d2_29 rfl ?_
  refine X8.aaload hx (j := (3 : Int32)) (v := (.ref o7)) (by rw [e8]; exact Ar9.1) (State.isArrayOf_alike hZ.alike Ar9.2.1) rfl Ar9.2.2 hin9 hat9 (g := (mkF m 30 (l480_0 o1 q2) [(.int 3), (.ref o5)])) rfl rfl (hb hby d2_30) _ ?_
  refine XS.lloadN X8.here hx rfl (hb hby d2_31) rfl ?_
  refine st10 _ ?_
  refine XS.iinc X10.here hx rfl (hb hby d2_35) rfl (l' := (l480_1 o1 q2)) rfl ?_
  refine ygo X10 hx hby 38 5 rfl d2_38 (by decide) ?_
  refine yin X10 hx hby d2_5 rfl ?_
  refine st18 _ ?_
  refine yno X18 hx hby d2_10 (tlt (by decide : (4 : Int32) < (5 : Int32))).2.1 ?_
  refine st20 _ ?_
  refine yin X20 hx hby d2_17 rfl ?_
  refine X20.aaload hx (j := (4 : Int32)) (v := (.ref o8)) (by rw [e20]; exact Ar24.1) (State.isArrayOf_alike hZ.alike Ar24.2.1) rfl Ar24.2.2 hin24 hat24 (g := (mkF m 18 (l480_1 o1 q2) [(.int 4), (.ref o5)])) rfl rfl (hb hby d2_18) _ ?_
  refine st27 _ ?_
  refine XS.ifYes X27.here hx rfl (pc0 := 22) (pc' := 35) rfl (hb hby d2_22) rfl ((if0 _ _).trans (teq (by decide : (0 : Int32) = (0 : Int32))).1) (by decide) (by decide) ?_
  refine XS.iinc X27.here hx rfl (hb hby d2_35) rfl (l' := (l480_2 o1 q2)) rfl ?_
  refine ygo X27 hx hby 38 5 rfl d2_38 (by decide) ?_
  refine yin X27 hx hby d2_5 rfl ?_
  refine st30 _ ?_
  refine yye X30 hx hby 10 41 rfl d2_10 (flt (by decide : ¬ ((5 : Int32) < (5 : Int32)))).2.1 (by decide) ?_
  refine yan X30 hx hby d2_41 rfl rfl ?_
  refine st31 _ ?_
  refine st32 _ ?_
  show Steps p.tables e below (T32.setTop (mkF m 48 (l480_2 o1 q2) [])) _
  refine yan X32 hx hby d2_48 rfl rfl ?_
  refine yic X32 hx hby d2_49 ?_
  refine st35 _ ?_
  refine yan X35 hx hby d2_53 rfl rfl ?_
  refine yic X35 hx hby d2_54 ?_
  refine st38 _ ?_
  refine yan X38 hx hby d2_58 rfl rfl ?_
  refine yic X38 hx hby d2_59 ?_
  refine st41 _ ?_
  refine yan X41 hx hby d2_63 rfl rfl ?_
  refine yic X41 hx hby d2_64 ?_
  refine st44 _ ?_
  refine yan X44 hx hby d2_68 rfl rfl ?_
  refine yic X44 hx hby d2_69 ?_
  refine st47 _ ?_
  show Steps p.tables e below (T47.setTop (mkF m 73 (l480_2 o1 q2) [])) _
  exact X47.returnOut hx hret (hb hby d2_73) hr
 ·
  show Q45 Z w1 kw1 o1 o5 o7 o8 kc6 q9 p3 p4 q2 h0 n0 _ T47.heap _
  rw [e47]
  exact ⟨rfl, N47, KL, f48, f49, f50, Fw47, f51, f52, f53, f54, f55⟩
def l481_0 (o1 o2 : Addr) (q3 : Int64) : Array Slot := #[.val (.ref o1), .val (.ref o2), .val (.long q3), .second]
theorem ef46 (m : MethodId) (x0 x1 : Addr) (x2 : Int64) : entryFrame m #[(.ref x0), (.ref x1), (.long x2)] 4 = mkF m 0 #[.val (.ref x0), .val (.ref x1), .val (.long x2), .second] [] := by first | (simp [entryFrame, mkF, argsToLocals, Value.category]; done) | rfl
def Q46 (Z : State) (o1 o2 : Addr) (o4 o6 : Addr) (kc5 : ClassId) (q3 : Int64) (h0 : Heap) (n0 : Nat) (v : Option Value) (h : Heap) (L : List Loc) : Prop :=
  (v = none ∧ Fr n0 L ∧ Keep h0 h [o2, o1] ∧ (Exa Z h o2 cn6) ∧ (Fld Z h o2 cn6 "removed" "J" (.long q3)) ∧ (Exa Z h o1 cn7) ∧ (Fld Z h o1 cn7 "addsFirst" "Z" (.int 1)) ∧ (Fld Z h o1 cn7 "end" "I" (.int 5)) ∧ (Fld Z h o1 cn7 "first" "I" (.int 4)) ∧ (Fld Z h o1 cn7 "low" "I" (.int 3)) ∧ (Fld Z h o1 cn7 "removed" "I" (.int 0)) ∧ (Fld Z h o1 cn7 "slots" cn3 (.ref o4)))
set_option maxRecDepth 65536 in
set_option maxHeartbeats 40000000 in
theorem rm46 (l : Launch) (Z : State) (a0 : Array Value) (hw : HW a0 Z) (ws : List Jvm.Cond) (o1 o2 : Addr) (o4 o6 : Addr) (kc5 : ClassId) (q3 : Int64) (h0 : Heap) (n0 : Nat) (O0 : Old Z n0 h0) (g_o1 : n0 ≤ o1) (g_o2 : n0 ≤ o2) (g_o4 : n0 ≤ o4) (g_o6 : n0 ≤ o6) (ne_o6_o2 : o6 ≠ o2) (Ov_kc5 : Ovr Z kc5 cn6) (hp0 : ¬ (q3 = (9223372036854775807 : Int64))) (P0 : Exa Z h0 o1 cn7) (P1 : Fld Z h0 o1 cn7 "addsFirst" "Z" (.int 1)) (P2 : Fld Z h0 o1 cn7 "end" "I" (.int 5)) (P3 : Fld Z h0 o1 cn7 "first" "I" (.int 3)) (P4 : Fld Z h0 o1 cn7 "low" "I" (.int 3)) (P5 : Fld Z h0 o1 cn7 "removed" "I" (.int 0)) (P6 : Fld Z h0 o1 cn7 "slots" cn3 (.ref o4)) (P7 : Exa Z h0 o2 cn6) (P8 : Fld Z h0 o2 cn6 "removed" "J" (.long 9223372036854775807)) (P9 : Arv Z h0 o4 kc5 (.object cn6) (8 : Int32) [.null, .null, .null, (.ref o2), (.ref o6), .null, .null, .null] .null) (P10 : Exa Z h0 o4 cn3) (P11 : Exa Z h0 o6 cn6) (P12 : Fld Z h0 o6 cn6 "removed" "J" (.long 9223372036854775807)) :
    MF l yn15 prog_41_method_8_code 4 none ws ({ frames := 1, cells := 0, slots := 0, locals := 14 } : Room) #[(.ref o1), (.ref o2), (.long q3)] Z h0 (Q46 Z o1 o2 o4 o6 kc5 q3 h0 n0) := by
 refine MetFree.of_bodySF (plainFor_of_name pn1) hisR ?_
 intro p e s m args below meth c s₁ Bd hml hP hK
 obtain ⟨rfl, hZ, hh⟩ := hP
 obtain ⟨hx, hby, hown, hret, hlk, X0, e0, N0⟩ := own_bd Bd hh n0
 have pre0 := own_ct s₁ (p := p) (e := e) (below := below) (ef46 m o1 o2 q3)
 revert pre0
 generalize s₁.setTop (entryFrame m #[(.ref o1), (.ref o2), (.long q3)] 4) = E0
 intro pre0
 obtain ⟨_, T1, L1, X1, hQ1, st1⟩ := yv X0 hx hZ hown hby hml (y := yn14) (w_114 hw) (w_115 hw) (own_w hw 117 rfl) (w_116 hw) (w_118 hw) (w_5 hw) e0 P7 [(.long q3)] [] (rm20 l Z a0 hw [] o2 q3 h0 n0 O0 g_o2 hp0 P7 P8) 2 (l481_0 o1 o2 q3) rfl d15_2 (lenOf pd2 rfl) 0 0 0
 obtain ⟨rfl, Nq2, K3, f4, f5⟩ := hQ1
 have N1 := Fr.app N0 Nq2
 have O1 := Old.keep O0 K3 (allS g_o2 all0)
 have f6 := (P0.keep K3)
 have ne7 : o1 ≠ o2 := ne_exa f6 f4 (by decide)
 have f8 := (P5.keep K3 (ninS ne7 nin0))
 obtain ⟨T9, X9, e9, st9⟩ := yg X1 hx hZ hown hby (w_53 hw) rfl f8 7 (l481_0 o1 o2 q3) [(.ref o1)] d15_7
 obtain ⟨T10, h10, X10, e10, W10, st10⟩ := yp X9 hx hZ hown hby (w_53 hw) e9 f8 f6 (w_54 hw) (w_32 hw) (ty := .int) (v := (.int 1)) (by decide) rfl rfl 12 (l481_0 o1 o2 q3) [] d15_12
 have N10 := Fr.snoc X10 N1 g_o1
 have Fw10 := f8.same W10
 have O10 := Old.wr O1 W10 g_o1
 have f11 := ((P3.keep K3 (ninS ne7 nin0)).other W10 (Or.inr (sn62 hw)))
 obtain ⟨T12, X12, e12, st12⟩ := yag X10 hx hZ hown hby (w_47 hw) e10 f11 15 (l481_0 o1 o2 q3) [] d15_15 d15_16 rfl
 have f13 := ((P2.keep K3 (ninS ne7 nin0)).other W10 (Or.inr (sn59 hw)))
 obtain ⟨T14, X14, e14, st14⟩ := yag X12 hx hZ hown hby (w_49 hw) e12 f13 19 (l481_0 o1 o2 q3) [(.int 3)] d15_19 d15_20 rfl
 have f15 := ((P6.keep K3 (ninS ne7 nin0)).other W10 (Or.inr (sn72 hw)))
 obtain ⟨T16, X16, e16, st16⟩ := yag X14 hx hZ hown hby (w_40 hw) e14 f15 26 (l481_0 o1 o2 q3) [] d15_26 d15_27 rfl
 obtain ⟨T17, X17, e17, st17⟩ := yag X16 hx hZ hown hby (w_47 hw) e16 f11 30 (l481_0 o1 o2 q3) [(.ref o4)] d15_30 d15_31 rfl
 have f18 := ((P10.keep K3).wr W10)
 have f19 := (f4.wr W10)
 have ne20 : o4 ≠ o2 := ne_exa f18 f19 (by decide)
 have f21 := (f6.wr W10)
 have ne22 : o4 ≠ o1 := ne_exa f18 f21 (by decide)
 have f23 := ((P9.keep K3 (ninS ne20 nin0)).other W10 ne22)
 obtain ⟨cl24, Ar24, qa24, Sa24, Na24, Ha24, Ga24⟩ := id (f23)
 have hin24 := inb_of (j := (3 : Int32)) Sa24 ⟨by decide, by decide⟩
 have hat24 : cl24.slots[((3 : Int32)).toNatClampNeg]? = some (.ref o2) := Has.at Ha24 hin24 rfl
 have f25 := (f5.other W10 (Or.inl (Ne.symm ne7)))
 obtain ⟨_, T26, L26, X26, hQ26, st26⟩ := yv X17 hx hZ hown hby hml (y := yn7) (w_113 hw) (w_82 hw) (w_84 hw) (w_83 hw) (w_85 hw) (w_5 hw) e17 f19 [] [] (rm21 l Z a0 hw [] o2 q3 h10 n0 O10 g_o2 hp0 f25) 35 (l481_0 o1 o2 q3) rfl d15_35 (lenOf pd5 rfl) 0 0 0
 obtain ⟨rfl, Nq27, e28⟩ := hQ26
 have N26 := Fr.app N10 Nq27
 obtain ⟨T29, X29, e29, st29⟩ := yg X26 hx hZ hown hby (w_47 hw) e28 f11 43 (l481_0 o1 o2 q3) [(.ref o1)] d15_43
 obtain ⟨T30, h30, X30, e30, W30, st30⟩ := yp X29 hx hZ hown hby (w_47 hw) e29 f11 f21 (w_48 hw) (w_32 hw) (ty := .int) (v := (.int 4)) (by decide) rfl rfl 48 (l481_0 o1 o2 q3) [] d15_48
 have N30 := Fr.snoc X30 N26 g_o1
 have Fw30 := f11.same W30
 have O30 := Old.wr O10 W30 g_o1
 have f31 := (Fw10.other W30 (Or.inr (sn53 hw)))
 obtain ⟨T32, X32, e32, st32⟩ := yg X30 hx hZ hown hby (w_53 hw) e30 f31 53 (l481_0 o1 o2 q3) [(.ref o1)] d15_53
 have f33 := (f21.wr W30)
 obtain ⟨T34, h34, X34, e34, W34, st34⟩ := yp X32 hx hZ hown hby (w_53 hw) e32 f31 f33 (w_54 hw) (w_32 hw) (ty := .int) (v := (.int 0)) (by decide) rfl rfl 58 (l481_0 o1 o2 q3) [] d15_58
 have N34 := Fr.snoc X34 N30 g_o1
 have Fw34 := f31.same W34
 have O34 := Old.wr O30 W34 g_o1
 have f35 := (Fw30.other W34 (Or.inr (sn62 hw)))
 obtain ⟨T36, X36, e36, st36⟩ := yag X34 hx hZ hown hby (w_47 hw) e34 f35 15 (l481_0 o1 o2 q3) [] d15_15 d15_16 rfl
 have f37 := ((f13.other W30 (Or.inr (sn51 hw))).other W34 (Or.inr (sn59 hw)))
 obtain ⟨T38, X38, e38, st38⟩ := yag X36 hx hZ hown hby (w_49 hw) e36 f37 19 (l481_0 o1 o2 q3) [(.int 4)] d15_19 d15_20 rfl
 have f39 := ((f15.other W30 (Or.inr (sn70 hw))).other W34 (Or.inr (sn72 hw)))
 obtain ⟨T40, X40, e40, st40⟩ := yag X38 hx hZ hown hby (w_40 hw) e38 f39 26 (l481_0 o1 o2 q3) [] d15_26 d15_27 rfl
 obtain ⟨T41, X41, e41, st41⟩ := yag X40 hx hZ hown hby (w_47 hw) e40 f35 30 (l481_0 o1 o2 q3) [(.ref o4)] d15_30 d15_31 rfl
 have f42 := ((f23.other W30 ne22).other W34 ne22)
 obtain ⟨cl43, Ar43, qa43, Sa43, Na43, Ha43, Ga43⟩ := id (f42)
 have hin43 := inb_of (j := (4 : Int32)) Sa43 ⟨by decide, by decide⟩
 have hat43 : cl43.slots[((4 : Int32)).toNatClampNeg]? = some (.ref o6) := Has.at Ha43 hin43 rfl
 have f44 := ((((P11.keep K3).wr W10).wr W30).wr W34)
 have f45 := (f33.wr W34)
 have ne46 : o6 ≠ o1 := ne_exa f44 f45 (by decide)
 have f47 := ((((P12.keep K3 (ninS ne_o6_o2 nin0)).other W10 (Or.inl ne46)).other W30 (Or.inl ne46)).other W34 (Or.inl ne46))
 obtain ⟨_, T48, L48, X48, hQ48, st48⟩ := yv X41 hx hZ hown hby hml (y := yn7) (w_113 hw) (w_82 hw) (w_84 hw) (w_83 hw) (w_85 hw) (w_5 hw) e41 f44 [] [] (rm17 l Z a0 hw [] o6 ((9223372036854775807 : Int64)) h34 n0 O34 g_o6 (by decide : (9223372036854775807 : Int64) = (9223372036854775807 : Int64)) f47) 35 (l481_0 o1 o2 q3) rfl d15_35 (lenOf pd5 rfl) 0 0 0
 obtain ⟨rfl, Nq49, e50⟩ := hQ48
 have N48 := Fr.app N34 Nq49
 obtain ⟨T51, X51, e51, st51⟩ := yag X48 hx hZ hown hby (w_47 hw) e50 f35 64 (l481_0 o1 o2 q3) [] d15_64 d15_65 rfl
 have f52 := ((((P4.keep K3 (ninS ne7 nin0)).other W10 (Or.inr (sn66 hw))).other W30 (Or.inr (sn64 hw))).other W34 (Or.inr (sn66 hw)))
 obtain ⟨T53, X53, e53, st53⟩ := yag X51 hx hZ hown hby (w_51 hw) e51 f52 68 (l481_0 o1 o2 q3) [(.int 4)] d15_68 d15_69 rfl
 obtain ⟨T54, X54, e54, st54⟩ := yag X53 hx hZ hown hby (w_53 hw) e53 Fw34 73 (l481_0 o1 o2 q3) [(.int 1)] d15_73 d15_74 rfl
 obtain ⟨_, T55, L55, X55, hQ55, st55⟩ := yv X54 hx hZ hown hby hml (y := yn3) (own_w hw 100 rfl) (w_58 hw) (own_w hw 60 rfl) (w_59 hw) (own_w hw 61 rfl) (w_33 hw) e54 f45 [] [(.int 1)] (rm4 l Z a0 hw [] o1 ((5 : Int32)) ((4 : Int32)) ((0 : Int32)) h34 n0 O34 g_o1 f37 f35 Fw34) 79 (l481_0 o1 o2 q3) rfl d15_79 (lenOf pd3 rfl) 1 0 0
 obtain ⟨rfl, Nq56, e57⟩ := hQ55
 have N55 := Fr.app N48 Nq56
 obtain ⟨_, T58, L58, X58, hQ58, st58⟩ := own_cs X55 hx hZ hown (y := yn10) (own_w hw 101 rfl) (own_w hw 102 rfl) (own_w hw 104 rfl) (w_103 hw) e57 (argsL := [(.int (((5 : Int32) - (4 : Int32)) - (0 : Int32))), (.int 4)]) (rest := [(.int 1)]) (rm11 l Z a0 hw [] ((((5 : Int32) - (4 : Int32)) - (0 : Int32))) ((4 : Int32)) h34 n0 O34 ) (g := (mkF m 83 (l481_0 o1 o2 q3) [(.int 4), (.int (((5 : Int32) - (4 : Int32)) - (0 : Int32))), (.int 1)])) rfl (by rw [hml]; rfl) rfl (hb hby d15_83) (lenOf pd8 rfl) (W := 1) (c1 := 0) (s1 := 0)
 have pre59 : Go p e below T55 (mkF m 83 (l481_0 o1 o2 q3) [(.int 4), (.int (((5 : Int32) - (4 : Int32)) - (0 : Int32))), (.int 1)]) E0 := fun t k => by
  refine pre0 _ ?_
  refine yan X0 hx hby d15_0 rfl rfl ?_
  refine XS.lloadN X0.here hx rfl (hb hby d15_1) rfl ?_
  refine st1 _ ?_
  refine yan X1 hx hby d15_5 rfl rfl ?_
  refine XS.dup X1.here hx rfl (hb hby d15_6) rfl rfl ?_
  refine st9 _ ?_
  refine yic X9 hx hby d15_10 ?_
  refine yad X9 hx hby d15_11 ?_
  refine st10 _ ?_
  refine st12 _ ?_
  refine st14 _ ?_
  refine yno X14 hx hby d15_23 (tlt (by decide : (3 : Int32) < (5 : Int32))).2.1 ?_
  refine st16 _ ?_
  refine st17 _ ?_
  refine X17.aaload hx (j := (3 : Int32)) (v := (.ref o2)) (by rw [e17]; exact Ar24.1) (State.isArrayOf_alike hZ.alike Ar24.2.1) rfl Ar24.2.2 hin24 hat24 (g := (mkF m 34 (l481_0 o1 o2 q3) [(.int 3), (.ref o4)])) rfl rfl (hb hby d15_34) _ ?_
  refine st26 _ ?_
  refine yfn X26 hx hby d15_38 ((if0 _ _).trans (teq (by decide : (0 : Int32) = (0 : Int32))).2) ?_
  refine yan X26 hx hby d15_41 rfl rfl ?_
  refine XS.dup X26.here hx rfl (hb hby d15_42) rfl rfl ?_
  refine st29 _ ?_
  refine yic X29 hx hby d15_46 ?_
  refine yad X29 hx hby d15_47 ?_
  refine st30 _ ?_
  refine yan X30 hx hby d15_51 rfl rfl ?_
  refine XS.dup X30.here hx rfl (hb hby d15_52) rfl rfl ?_
  refine st32 _ ?_
  refine yic X32 hx hby d15_56 ?_
  refine ysu X32 hx hby d15_57 ?_
  refine st34 _ ?_
  refine ygo X34 hx hby 61 15 rfl d15_61 (by decide) ?_
  refine st36 _ ?_
  refine st38 _ ?_
  refine yno X38 hx hby d15_23 (tlt (by decide : (4 : Int32) < (5 : Int32))).2.1 ?_
  show Steps p.tables e below (T38.setTop (mkF m 26 (l481_0 o1 o2 q3) [])) _
  refine st40 _ ?_
  refine st41 _ ?_
  refine X41.aaload hx (j := (4 : Int32)) (v := (.ref o6)) (by rw [e41]; exact Ar43.1) (State.isArrayOf_alike hZ.alike Ar43.2.1) rfl Ar43.2.2 hin43 hat43 (g := (mkF m 34 (l481_0 o1 o2 q3) [(.int 4), (.ref o4)])) rfl rfl (hb hby d15_34) _ ?_
  refine st48 _ ?_
  refine XS.ifYes X48.here hx rfl (pc0 := 38) (pc' := 64) rfl (hb hby d15_38) rfl ((if0 _ _).trans (feq (by decide : ¬ ((1 : Int32) = (0 : Int32)))).2) (by decide) (by decide) ?_
  refine st51 _ ?_
  refine st53 _ ?_
  refine ysu X53 hx hby d15_72 ?_
  refine st54 _ ?_
  refine yad X54 hx hby d15_77 ?_
  refine yan X54 hx hby d15_78 rfl rfl ?_
  refine st55 _ ?_
  refine yic X55 hx hby d15_82 ?_
  exact k
 rcases hQ58 with ⟨hc60, rfl, Nq61, e62⟩ | ⟨hc63, rfl, Nq64, e65⟩
 ·
  have N58 := Fr.app N55 Nq61
  obtain ⟨fs, hr, hrun, hended, hW, hsame⟩ := X58.leave (v := none) (fun _ => rfl)
  have KL : Keep h0 h34 [o2, o1] := (((((Keep.refl h0 [o2, o1]).trans K3 (allS (Or.inl (List.mem_of_getElem? (i := 0) rfl)) all0)).wr W10 (Or.inl (List.mem_of_getElem? (i := 1) rfl))).wr W30 (Or.inl (List.mem_of_getElem? (i := 1) rfl))).wr W34 (Or.inl (List.mem_of_getElem? (i := 1) rfl)))
  have f66 := ((f19.wr W30).wr W34)
  have f67 := ((f25.other W30 (Or.inl (Ne.symm ne7))).other W34 (Or.inl (Ne.symm ne7)))
  have f68 := ((((P1.keep K3 (ninS ne7 nin0)).other W10 (Or.inr (sn58 hw))).other W30 (Or.inr (sn56 hw))).other W34 (Or.inr (sn58 hw)))
  refine ⟨_, _, pre59 _ ?_, hrun, hended, _, _, rfl, ?_, ⟨_, rfl⟩, hW, hsame.mono (by decide) (by decide)⟩
  ·
   refine st58 _ ?_
   refine yye X58 hx hby 86 93 rfl d15_86 (flt (by decide : ¬ ((4 : Int32) < (1 : Int32)))).2.2.2 (by decide) ?_
   show Steps p.tables e below (T58.setTop (mkF m 93 (l481_0 o1 o2 q3) [])) _
   exact X58.returnOut hx hret (hb hby d15_93) hr
  ·
   show Q46 Z o1 o2 o4 o6 kc5 q3 h0 n0 _ T58.heap _
   rw [e62]
   exact ⟨rfl, N58, KL, f66, f67, f45, f68, f37, f35, f52, Fw34, f39⟩
 ·
  exact absurd (own_glt1 (n := 4) (k := (4 : Int32)) (by decide) (by have q0 := own_sub (x := ((5 : Int32) - (4 : Int32))) (k := (0 : Int32)) (n := 0) (lo := 1) (hi := 1) (by decide) (by have q0 := own_sub (x := (5 : Int32)) (k := (4 : Int32)) (n := 4) (lo := 5) (hi := 5) (by decide) (by have q0 := (by decide : ((5 : Int32)).toInt = 5); omega) (by decide) (by decide); omega) (by decide) (by decide); omega)) hc63
def l482_0 (o1 : Addr) (q2 : Int64) : Array Slot := #[.val (.ref o1), .val (.long q2), .second, .val (.int 4)]
def l482_1 (o1 : Addr) (q2 : Int64) : Array Slot := #[.val (.ref o1), .val (.long q2), .second, .val (.int 5)]
theorem ef47 (m : MethodId) (x0 : Addr) (x1 : Int64) : entryFrame m #[(.ref x0), (.long x1)] 4 = mkF m 0 #[.val (.ref x0), .val (.long x1), .second, .unset] [] := by first | (simp [entryFrame, mkF, argsToLocals, Value.category]; done) | rfl
def Q47 (Z : State) (w1 : Addr) (kw1 : ClassId) (o1 o6 : Addr) (o8 o9 : Addr) (kc7 : ClassId) (q10 : Int64) (p3 p4 p5 : Int32) (q2 : Int64) (h0 : Heap) (n0 : Nat) (v : Option Value) (h : Heap) (L : List Loc) : Prop :=
  (v = none ∧ Fr n0 L ∧ Keep h0 h [o9, o1] ∧ (Exa Z h o9 cn6) ∧ (Fld Z h o9 cn6 "removed" "J" (.long q2)) ∧ (Exa Z h o1 cn7) ∧ (Fld Z h o1 cn7 "addsFirst" "Z" (.int 0)) ∧ (Fld Z h o1 cn7 "end" "I" (.int 0)) ∧ (Fld Z h o1 cn7 "first" "I" (.int 0)) ∧ (Fld Z h o1 cn7 "low" "I" (.int 0)) ∧ (Fld Z h o1 cn7 "removed" "I" (.int 0)) ∧ (Fld Z h o1 cn7 "slots" cn3 (.ref w1)))
set_option maxRecDepth 65536 in
set_option maxHeartbeats 40000000 in
theorem rm47 (l : Launch) (Z : State) (a0 : Array Value) (hw : HW a0 Z) (w1 : Addr) (kw1 : ClassId) (G : GW Z w1 kw1) (ws : List Jvm.Cond) (o1 o6 : Addr) (o8 o9 : Addr) (kc7 : ClassId) (q10 : Int64) (p3 p4 p5 : Int32) (q2 : Int64) (h0 : Heap) (n0 : Nat) (O0 : Old Z n0 h0) (g_o1 : n0 ≤ o1) (g_o6 : n0 ≤ o6) (g_o8 : n0 ≤ o8) (g_o9 : n0 ≤ o9) (Ov_kc7 : Ovr Z kc7 cn6) (hp0 : ¬ (q10 = (9223372036854775807 : Int64))) (P0 : Exa Z h0 o1 cn7) (P1 : Fld Z h0 o1 cn7 "addsFirst" "Z" (.int p3)) (P2 : Fld Z h0 o1 cn7 "end" "I" (.int 5)) (P3 : Fld Z h0 o1 cn7 "first" "I" (.int 4)) (P4 : Fld Z h0 o1 cn7 "low" "I" (.int p4)) (P5 : Fld Z h0 o1 cn7 "removed" "I" (.int p5)) (P6 : Fld Z h0 o1 cn7 "slots" cn3 (.ref o6)) (P7 : Arv Z h0 o6 kc7 (.object cn6) (8 : Int32) [.null, .null, .null, (.ref o8), (.ref o9), .null, .null, .null] .null) (P11 : Exa Z h0 o9 cn6) (P12 : Fld Z h0 o9 cn6 "removed" "J" (.long 9223372036854775807)) :
    MF l yn2 prog_41_method_9_code 4 none ws ({ frames := 1, cells := 0, slots := 0, locals := 14 } : Room) #[(.ref o1), (.long q2)] Z h0 (Q47 Z w1 kw1 o1 o6 o8 o9 kc7 q10 p3 p4 p5 q2 h0 n0) := by
 obtain ⟨S_w1, A_w1⟩ := id G
 refine MetFree.of_bodySF (plainFor_of_name pn1) hisR ?_
 intro p e s m args below meth c s₁ Bd hml hP hK
 obtain ⟨rfl, hZ, hh⟩ := hP
 obtain ⟨hx, hby, hown, hret, hlk, X0, e0, N0⟩ := own_bd Bd hh n0
 have pre0 := own_ct s₁ (p := p) (e := e) (below := below) (ef47 m o1 q2)
 obtain ⟨T1, X1, e1, st1⟩ := yag X0 hx hZ hown hby (w_47 hw) e0 P3 0 #[.val (.ref o1), .val (.long q2), .second, .unset] [] d2_0 d2_1 rfl
 obtain ⟨T2, X2, e2, st2⟩ := yag X1 hx hZ hown hby (w_49 hw) e1 P2 6 (l482_0 o1 q2) [(.int 4)] d2_6 d2_7 rfl
 obtain ⟨T3, X3, e3, st3⟩ := yag X2 hx hZ hown hby (w_40 hw) e2 P6 13 (l482_0 o1 q2) [] d2_13 d2_14 rfl
 obtain ⟨cl4, Ar4, qa4, Sa4, Na4, Ha4, Ga4⟩ := id (P7)
 have hin4 := inb_of (j := (4 : Int32)) Sa4 ⟨by decide, by decide⟩
 have hat4 : cl4.slots[((4 : Int32)).toNatClampNeg]? = some (.ref o9) := Has.at Ha4 hin4 rfl
 obtain ⟨_, T5, L5, X5, hQ5, st5⟩ := yv X3 hx hZ hown hby hml (y := yn7) (w_113 hw) (w_82 hw) (w_84 hw) (w_83 hw) (w_85 hw) (w_5 hw) e3 P11 [] [] (rm17 l Z a0 hw [] o9 ((9223372036854775807 : Int64)) h0 n0 O0 g_o9 (by decide : (9223372036854775807 : Int64) = (9223372036854775807 : Int64)) P12) 19 (l482_0 o1 q2) rfl d2_19 (lenOf pd5 rfl) 0 0 0
 obtain ⟨rfl, Nq6, e7⟩ := hQ5
 have N5 := Fr.app N0 Nq6
 obtain ⟨T8, X8, e8, st8⟩ := yag X5 hx hZ hown hby (w_40 hw) e7 P6 25 (l482_0 o1 q2) [] d2_25 d2_26 rfl
 obtain ⟨cl9, Ar9, qa9, Sa9, Na9, Ha9, Ga9⟩ := id (P7)
 have hin9 := inb_of (j := (4 : Int32)) Sa9 ⟨by decide, by decide⟩
 have hat9 : cl9.slots[((4 : Int32)).toNatClampNeg]? = some (.ref o9) := Has.at Ha9 hin9 rfl
 obtain ⟨_, T10, L10, X10, hQ10, st10⟩ := yv X8 hx hZ hown hby hml (y := yn14) (w_114 hw) (w_115 hw) (own_w hw 117 rfl) (w_116 hw) (w_118 hw) (w_5 hw) e8 P11 [(.long q2)] [] (rm18 l Z a0 hw [] o9 q2 h0 n0 O0 g_o9 P11 P12) 32 (l482_0 o1 q2) rfl d2_32 (lenOf pd2 rfl) 0 0 0
 obtain ⟨rfl, Nq11, K12, f13, f14⟩ := hQ10
 have N10 := Fr.app N5 Nq11
 have O10 := Old.keep O0 K12 (allS g_o9 all0)
 have f15 := (P0.keep K12)
 have ne16 : o1 ≠ o9 := ne_exa f15 f13 (by decide)
 have f17 := (P2.keep K12 (ninS ne16 nin0))
 obtain ⟨T18, X18, e18, st18⟩ := yag X10 hx hZ hown hby (w_49 hw) rfl f17 6 (l482_1 o1 q2) [(.int 5)] d2_6 d2_7 rfl
 obtain ⟨T19, X19, e19, st19⟩ := getS2 X18 hx hZ hown (host := "") (Or.inl (own_w hw 38 rfl)) Via.refl e18 (S_w1.ext O10.2) (g := (mkF m 42 (l482_1 o1 q2) [(.ref o1)])) rfl (hb hby d2_42)
 have f20 := (P6.keep K12 (ninS ne16 nin0))
 obtain ⟨T21, h21, X21, e21, W21, st21⟩ := yp X19 hx hZ hown hby (w_40 hw) e19 f20 f15 (w_41 hw) (w_32 hw) (ty := (.array (.object cn6))) (v := (.ref w1)) (by decide) rfl rfl 45 (l482_1 o1 q2) [] d2_45
 have N21 := Fr.snoc X21 N10 g_o1
 have Fw21 := f20.same W21
 have f22 := ((P4.keep K12 (ninS ne16 nin0)).other W21 (Or.inr (sn47 hw)))
 have f23 := (f15.wr W21)
 obtain ⟨T24, h24, X24, e24, W24, st24⟩ := yp X21 hx hZ hown hby (w_51 hw) e21 f22 f23 (w_52 hw) (w_32 hw) (ty := .int) (v := (.int 0)) (by decide) rfl rfl 50 (l482_1 o1 q2) [] d2_50
 have N24 := Fr.snoc X24 N21 g_o1
 have Fw24 := f22.same W24
 have f25 := (((P3.keep K12 (ninS ne16 nin0)).other W21 (Or.inr (sn46 hw))).other W24 (Or.inr (sn49 hw)))
 have f26 := (f23.wr W24)
 obtain ⟨T27, h27, X27, e27, W27, st27⟩ := yp X24 hx hZ hown hby (w_47 hw) e24 f25 f26 (w_48 hw) (w_32 hw) (ty := .int) (v := (.int 0)) (by decide) rfl rfl 55 (l482_1 o1 q2) [] d2_55
 have N27 := Fr.snoc X27 N24 g_o1
 have Fw27 := f25.same W27
 have f28 := (((f17.other W21 (Or.inr (sn45 hw))).other W24 (Or.inr (sn50 hw))).other W27 (Or.inr (sn51 hw)))
 have f29 := (f26.wr W27)
 obtain ⟨T30, h30, X30, e30, W30, st30⟩ := yp X27 hx hZ hown hby (w_49 hw) e27 f28 f29 (w_50 hw) (w_32 hw) (ty := .int) (v := (.int 0)) (by decide) rfl rfl 60 (l482_1 o1 q2) [] d2_60
 have N30 := Fr.snoc X30 N27 g_o1
 have Fw30 := f28.same W30
 have f31 := (((((P5.keep K12 (ninS ne16 nin0)).other W21 (Or.inr (sn48 hw))).other W24 (Or.inr (sn52 hw))).other W27 (Or.inr (sn53 hw))).other W30 (Or.inr (sn54 hw)))
 have f32 := (f29.wr W30)
 obtain ⟨T33, h33, X33, e33, W33, st33⟩ := yp X30 hx hZ hown hby (w_53 hw) e30 f31 f32 (w_54 hw) (w_32 hw) (ty := .int) (v := (.int 0)) (by decide) rfl rfl 65 (l482_1 o1 q2) [] d2_65
 have N33 := Fr.snoc X33 N30 g_o1
 have Fw33 := f31.same W33
 have f34 := ((((((P1.keep K12 (ninS ne16 nin0)).other W21 (Or.inr (sn44 hw))).other W24 (Or.inr (sn55 hw))).other W27 (Or.inr (sn56 hw))).other W30 (Or.inr (sn57 hw))).other W33 (Or.inr (sn58 hw)))
 have f35 := (f32.wr W33)
 obtain ⟨T36, h36, X36, e36, W36, st36⟩ := putFN X33 hx hZ hown (own_w hw 55 rfl) Via.refl e33 f34 f35 (Or.inl (w_56 hw)) (w_32 hw) (ty := .boolean) (v' := (.int 0)) (by decide) rfl (by decide) (g := (mkF m 70 (l482_1 o1 q2) [(.int 0), (.ref o1)])) rfl rfl (hb hby d2_70)
 have N36 := Fr.snoc X36 N33 g_o1
 have Fw36 := f34.same W36
 obtain ⟨fs, hr, hrun, hended, hW, hsame⟩ := X36.leave (v := none) (fun _ => rfl)
 have KL : Keep h0 h36 [o9, o1] := ((((((((Keep.refl h0 [o9, o1]).trans K12 (allS (Or.inl (List.mem_of_getElem? (i := 0) rfl)) all0)).wr W21 (Or.inl (List.mem_of_getElem? (i := 1) rfl))).wr W24 (Or.inl (List.mem_of_getElem? (i := 1) rfl))).wr W27 (Or.inl (List.mem_of_getElem? (i := 1) rfl))).wr W30 (Or.inl (List.mem_of_getElem? (i := 1) rfl))).wr W33 (Or.inl (List.mem_of_getElem? (i := 1) rfl))).wr W36 (Or.inl (List.mem_of_getElem? (i := 1) rfl)))
 have f37 := ((((((f13.wr W21).wr W24).wr W27).wr W30).wr W33).wr W36)
 have f38 := ((((((f14.other W21 (Or.inl (Ne.symm ne16))).other W24 (Or.inl (Ne.symm ne16))).other W27 (Or.inl (Ne.symm ne16))).other W30 (Or.inl (Ne.symm ne16))).other W33 (Or.inl (Ne.symm ne16))).other W36 (Or.inl (Ne.symm ne16)))
 have f39 := (f35.wr W36)
 have f40 := ((Fw30.other W33 (Or.inr (sn59 hw))).other W36 (Or.inr (sn60 hw)))
 have f41 := (((Fw27.other W30 (Or.inr (sn61 hw))).other W33 (Or.inr (sn62 hw))).other W36 (Or.inr (sn63 hw)))
 have f42 := ((((Fw24.other W27 (Or.inr (sn64 hw))).other W30 (Or.inr (sn65 hw))).other W33 (Or.inr (sn66 hw))).other W36 (Or.inr (sn67 hw)))
 have f43 := (Fw33.other W36 (Or.inr (sn68 hw)))
 have f44 := (((((Fw21.other W24 (Or.inr (sn69 hw))).other W27 (Or.inr (sn70 hw))).other W30 (Or.inr (sn71 hw))).other W33 (Or.inr (sn72 hw))).other W36 (Or.inr (sn73 hw)))
 refine ⟨_, _, pre0 _ ?_, hrun, hended, _, _, rfl, ?_, ⟨_, rfl⟩, hW, hsame.mono (by decide) (by decide)⟩
 ·
  refine st1 _ ?_
  refine yit X1 hx hby d2_4 (l' := (l482_0 o1 q2)) rfl ?_
  refine yin X1 hx hby d2_5 rfl ?_
  refine st2 _ ?_
  refine yno X2 hx hby d2_10 (tlt (by decide : (4 : Int32) < (5 : Int32))).2.1 ?_
  refine st3 _ ?_
  refine yin X3 hx hby d2_17 rfl ?_
  refine X3.aaload hx (j := (4 : Int32)) (v := (.ref o9)) (by rw [e3]; exact Ar4.1) (State.isArrayOf_alike hZ.alike Ar4.2.1) rfl Ar4.2.2 hin4 hat4 (g := (mkF m 18 (l482_0 o1 q2) [(.int 4), (.ref o6)])) rfl rfl (hb hby d2_18) _ ?_
  refine st5 _ ?_
  refine yfn X5 hx hby d2_22 ((if0 _ _).trans (feq (by decide : ¬ ((1 : Int32) = (0 : Int32)))).1) ?_
  refine st8 _ ?_
  refine yin X8 hx hby d2_29 rfl ?_
  refine X8.aaload hx (j := (4 : Int32)) (v := (.ref o9)) (by rw [e8]; exact Ar9.1) (State.isArrayOf_alike hZ.alike Ar9.2.1) rfl Ar9.2.2 hin9 hat9 (g := (mkF m 30 (l482_0 o1 q2) [(.int 4), (.ref o6)])) rfl rfl (hb hby d2_30) _ ?_
  refine XS.lloadN X8.here hx rfl (hb hby d2_31) rfl ?_
  refine st10 _ ?_
  refine XS.iinc X10.here hx rfl (hb hby d2_35) rfl (l' := (l482_1 o1 q2)) rfl ?_
  refine ygo X10 hx hby 38 5 rfl d2_38 (by decide) ?_
  refine yin X10 hx hby d2_5 rfl ?_
  refine st18 _ ?_
  refine yye X18 hx hby 10 41 rfl d2_10 (flt (by decide : ¬ ((5 : Int32) < (5 : Int32)))).2.1 (by decide) ?_
  refine yan X18 hx hby d2_41 rfl rfl ?_
  refine st19 _ ?_
  refine st21 _ ?_
  refine yan X21 hx hby d2_48 rfl rfl ?_
  refine yic X21 hx hby d2_49 ?_
  refine st24 _ ?_
  refine yan X24 hx hby d2_53 rfl rfl ?_
  refine yic X24 hx hby d2_54 ?_
  refine st27 _ ?_
  refine yan X27 hx hby d2_58 rfl rfl ?_
  refine yic X27 hx hby d2_59 ?_
  refine st30 _ ?_
  refine yan X30 hx hby d2_63 rfl rfl ?_
  refine yic X30 hx hby d2_64 ?_
  refine st33 _ ?_
  show Steps p.tables e below (T33.setTop (mkF m 68 (l482_1 o1 q2) [])) _
  refine yan X33 hx hby d2_68 rfl rfl ?_
  refine yic X33 hx hby d2_69 ?_
  refine st36 _ ?_
  show Steps p.tables e below (T36.setTop (mkF m 73 (l482_1 o1 q2) [])) _
  exact X36.returnOut hx hret (hb hby d2_73) hr
 ·
  show Q47 Z w1 kw1 o1 o6 o8 o9 kc7 q10 p3 p4 p5 q2 h0 n0 _ T36.heap _
  rw [e36]
  exact ⟨rfl, N36, KL, f37, f38, f39, Fw36, f40, f41, f42, f43, f44⟩
def l483_0 (o1 o2 : Addr) (q3 : Int64) : Array Slot := #[.val (.ref o1), .val (.ref o2), .val (.long q3), .second]
theorem ef48 (m : MethodId) (x0 x1 : Addr) (x2 : Int64) : entryFrame m #[(.ref x0), (.ref x1), (.long x2)] 4 = mkF m 0 #[.val (.ref x0), .val (.ref x1), .val (.long x2), .second] [] := by first | (simp [entryFrame, mkF, argsToLocals, Value.category]; done) | rfl
def Q48 (Z : State) (o1 o2 : Addr) (o4 o6 : Addr) (kc5 : ClassId) (q3 q7 : Int64) (h0 : Heap) (n0 : Nat) (v : Option Value) (h : Heap) (L : List Loc) : Prop :=
  (v = none ∧ Fr n0 L ∧ Keep h0 h [o2, o1] ∧ (Exa Z h o2 cn6) ∧ (Fld Z h o2 cn6 "removed" "J" (.long q3)) ∧ (Exa Z h o1 cn7) ∧ (Fld Z h o1 cn7 "addsFirst" "Z" (.int 1)) ∧ (Fld Z h o1 cn7 "end" "I" (.int 5)) ∧ (Fld Z h o1 cn7 "first" "I" (.int 5)) ∧ (Fld Z h o1 cn7 "low" "I" (.int 3)) ∧ (Fld Z h o1 cn7 "removed" "I" (.int 0)) ∧ (Fld Z h o1 cn7 "slots" cn3 (.ref o4)))
set_option maxRecDepth 65536 in
set_option maxHeartbeats 40000000 in
theorem rm48 (l : Launch) (Z : State) (a0 : Array Value) (hw : HW a0 Z) (ws : List Jvm.Cond) (o1 o2 : Addr) (o4 o6 : Addr) (kc5 : ClassId) (q3 q7 : Int64) (h0 : Heap) (n0 : Nat) (O0 : Old Z n0 h0) (g_o1 : n0 ≤ o1) (g_o2 : n0 ≤ o2) (g_o4 : n0 ≤ o4) (g_o6 : n0 ≤ o6) (Ov_kc5 : Ovr Z kc5 cn6) (hp0 : ¬ (q3 = (9223372036854775807 : Int64))) (hp1 : ¬ (q7 = (9223372036854775807 : Int64))) (P0 : Exa Z h0 o1 cn7) (P1 : Fld Z h0 o1 cn7 "addsFirst" "Z" (.int 1)) (P2 : Fld Z h0 o1 cn7 "end" "I" (.int 5)) (P3 : Fld Z h0 o1 cn7 "first" "I" (.int 4)) (P4 : Fld Z h0 o1 cn7 "low" "I" (.int 3)) (P5 : Fld Z h0 o1 cn7 "removed" "I" (.int 0)) (P6 : Fld Z h0 o1 cn7 "slots" cn3 (.ref o4)) (P7 : Exa Z h0 o2 cn6) (P8 : Fld Z h0 o2 cn6 "removed" "J" (.long 9223372036854775807)) (P9 : Arv Z h0 o4 kc5 (.object cn6) (8 : Int32) [.null, .null, .null, (.ref o6), (.ref o2), .null, .null, .null] .null) (P10 : Exa Z h0 o4 cn3) :
    MF l yn15 prog_41_method_8_code 4 none ws ({ frames := 1, cells := 0, slots := 0, locals := 14 } : Room) #[(.ref o1), (.ref o2), (.long q3)] Z h0 (Q48 Z o1 o2 o4 o6 kc5 q3 q7 h0 n0) := by
 refine MetFree.of_bodySF (plainFor_of_name pn1) hisR ?_
 intro p e s m args below meth c s₁ Bd hml hP hK
 obtain ⟨rfl, hZ, hh⟩ := hP
 obtain ⟨hx, hby, hown, hret, hlk, X0, e0, N0⟩ := own_bd Bd hh n0
 have pre0 := own_ct s₁ (p := p) (e := e) (below := below) (ef48 m o1 o2 q3)
 revert pre0
 generalize s₁.setTop (entryFrame m #[(.ref o1), (.ref o2), (.long q3)] 4) = E0
 intro pre0
 obtain ⟨_, T1, L1, X1, hQ1, st1⟩ := yv X0 hx hZ hown hby hml (y := yn14) (w_114 hw) (w_115 hw) (own_w hw 117 rfl) (w_116 hw) (w_118 hw) (w_5 hw) e0 P7 [(.long q3)] [] (rm20 l Z a0 hw [] o2 q3 h0 n0 O0 g_o2 hp0 P7 P8) 2 (l483_0 o1 o2 q3) rfl d15_2 (lenOf pd2 rfl) 0 0 0
 obtain ⟨rfl, Nq2, K3, f4, f5⟩ := hQ1
 have N1 := Fr.app N0 Nq2
 have O1 := Old.keep O0 K3 (allS g_o2 all0)
 have f6 := (P0.keep K3)
 have ne7 : o1 ≠ o2 := ne_exa f6 f4 (by decide)
 have f8 := (P5.keep K3 (ninS ne7 nin0))
 obtain ⟨T9, X9, e9, st9⟩ := yg X1 hx hZ hown hby (w_53 hw) rfl f8 7 (l483_0 o1 o2 q3) [(.ref o1)] d15_7
 obtain ⟨T10, h10, X10, e10, W10, st10⟩ := yp X9 hx hZ hown hby (w_53 hw) e9 f8 f6 (w_54 hw) (w_32 hw) (ty := .int) (v := (.int 1)) (by decide) rfl rfl 12 (l483_0 o1 o2 q3) [] d15_12
 have N10 := Fr.snoc X10 N1 g_o1
 have Fw10 := f8.same W10
 have O10 := Old.wr O1 W10 g_o1
 have f11 := ((P3.keep K3 (ninS ne7 nin0)).other W10 (Or.inr (sn62 hw)))
 obtain ⟨T12, X12, e12, st12⟩ := yag X10 hx hZ hown hby (w_47 hw) e10 f11 15 (l483_0 o1 o2 q3) [] d15_15 d15_16 rfl
 have f13 := ((P2.keep K3 (ninS ne7 nin0)).other W10 (Or.inr (sn59 hw)))
 obtain ⟨T14, X14, e14, st14⟩ := yag X12 hx hZ hown hby (w_49 hw) e12 f13 19 (l483_0 o1 o2 q3) [(.int 4)] d15_19 d15_20 rfl
 have f15 := ((P6.keep K3 (ninS ne7 nin0)).other W10 (Or.inr (sn72 hw)))
 obtain ⟨T16, X16, e16, st16⟩ := yag X14 hx hZ hown hby (w_40 hw) e14 f15 26 (l483_0 o1 o2 q3) [] d15_26 d15_27 rfl
 obtain ⟨T17, X17, e17, st17⟩ := yag X16 hx hZ hown hby (w_47 hw) e16 f11 30 (l483_0 o1 o2 q3) [(.ref o4)] d15_30 d15_31 rfl
 have f18 := ((P10.keep K3).wr W10)
 have f19 := (f4.wr W10)
 have ne20 : o4 ≠ o2 := ne_exa f18 f19 (by decide)
 have f21 := (f6.wr W10)
 have ne22 : o4 ≠ o1 := ne_exa f18 f21 (by decide)
 have f23 := ((P9.keep K3 (ninS ne20 nin0)).other W10 ne22)
 obtain ⟨cl24, Ar24, qa24, Sa24, Na24, Ha24, Ga24⟩ := id (f23)
 have hin24 := inb_of (j := (4 : Int32)) Sa24 ⟨by decide, by decide⟩
 have hat24 : cl24.slots[((4 : Int32)).toNatClampNeg]? = some (.ref o2) := Has.at Ha24 hin24 rfl
 have f25 := (f5.other W10 (Or.inl (Ne.symm ne7)))
 obtain ⟨_, T26, L26, X26, hQ26, st26⟩ := yv X17 hx hZ hown hby hml (y := yn7) (w_113 hw) (w_82 hw) (w_84 hw) (w_83 hw) (w_85 hw) (w_5 hw) e17 f19 [] [] (rm21 l Z a0 hw [] o2 q3 h10 n0 O10 g_o2 hp0 f25) 35 (l483_0 o1 o2 q3) rfl d15_35 (lenOf pd5 rfl) 0 0 0
 obtain ⟨rfl, Nq27, e28⟩ := hQ26
 have N26 := Fr.app N10 Nq27
 obtain ⟨T29, X29, e29, st29⟩ := yg X26 hx hZ hown hby (w_47 hw) e28 f11 43 (l483_0 o1 o2 q3) [(.ref o1)] d15_43
 obtain ⟨T30, h30, X30, e30, W30, st30⟩ := yp X29 hx hZ hown hby (w_47 hw) e29 f11 f21 (w_48 hw) (w_32 hw) (ty := .int) (v := (.int 5)) (by decide) rfl rfl 48 (l483_0 o1 o2 q3) [] d15_48
 have N30 := Fr.snoc X30 N26 g_o1
 have Fw30 := f11.same W30
 have O30 := Old.wr O10 W30 g_o1
 have f31 := (Fw10.other W30 (Or.inr (sn53 hw)))
 obtain ⟨T32, X32, e32, st32⟩ := yg X30 hx hZ hown hby (w_53 hw) e30 f31 53 (l483_0 o1 o2 q3) [(.ref o1)] d15_53
 have f33 := (f21.wr W30)
 obtain ⟨T34, h34, X34, e34, W34, st34⟩ := yp X32 hx hZ hown hby (w_53 hw) e32 f31 f33 (w_54 hw) (w_32 hw) (ty := .int) (v := (.int 0)) (by decide) rfl rfl 58 (l483_0 o1 o2 q3) [] d15_58
 have N34 := Fr.snoc X34 N30 g_o1
 have Fw34 := f31.same W34
 have O34 := Old.wr O30 W34 g_o1
 have f35 := (Fw30.other W34 (Or.inr (sn62 hw)))
 obtain ⟨T36, X36, e36, st36⟩ := yag X34 hx hZ hown hby (w_47 hw) e34 f35 15 (l483_0 o1 o2 q3) [] d15_15 d15_16 rfl
 have f37 := ((f13.other W30 (Or.inr (sn51 hw))).other W34 (Or.inr (sn59 hw)))
 obtain ⟨T38, X38, e38, st38⟩ := yag X36 hx hZ hown hby (w_49 hw) e36 f37 19 (l483_0 o1 o2 q3) [(.int 5)] d15_19 d15_20 rfl
 obtain ⟨T39, X39, e39, st39⟩ := yag X38 hx hZ hown hby (w_47 hw) e38 f35 64 (l483_0 o1 o2 q3) [] d15_64 d15_65 rfl
 have f40 := ((((P4.keep K3 (ninS ne7 nin0)).other W10 (Or.inr (sn66 hw))).other W30 (Or.inr (sn64 hw))).other W34 (Or.inr (sn66 hw)))
 obtain ⟨T41, X41, e41, st41⟩ := yag X39 hx hZ hown hby (w_51 hw) e39 f40 68 (l483_0 o1 o2 q3) [(.int 5)] d15_68 d15_69 rfl
 obtain ⟨T42, X42, e42, st42⟩ := yag X41 hx hZ hown hby (w_53 hw) e41 Fw34 73 (l483_0 o1 o2 q3) [(.int 2)] d15_73 d15_74 rfl
 have f43 := (f33.wr W34)
 obtain ⟨_, T44, L44, X44, hQ44, st44⟩ := yv X42 hx hZ hown hby hml (y := yn3) (own_w hw 100 rfl) (w_58 hw) (own_w hw 60 rfl) (w_59 hw) (own_w hw 61 rfl) (w_33 hw) e42 f43 [] [(.int 2)] (rm4 l Z a0 hw [] o1 ((5 : Int32)) ((5 : Int32)) ((0 : Int32)) h34 n0 O34 g_o1 f37 f35 Fw34) 79 (l483_0 o1 o2 q3) rfl d15_79 (lenOf pd3 rfl) 1 0 0
 obtain ⟨rfl, Nq45, e46⟩ := hQ44
 have N44 := Fr.app N34 Nq45
 obtain ⟨_, T47, L47, X47, hQ47, st47⟩ := own_cs X44 hx hZ hown (y := yn10) (own_w hw 101 rfl) (own_w hw 102 rfl) (own_w hw 104 rfl) (w_103 hw) e46 (argsL := [(.int (((5 : Int32) - (5 : Int32)) - (0 : Int32))), (.int 4)]) (rest := [(.int 2)]) (rm11 l Z a0 hw [] ((((5 : Int32) - (5 : Int32)) - (0 : Int32))) ((4 : Int32)) h34 n0 O34 ) (g := (mkF m 83 (l483_0 o1 o2 q3) [(.int 4), (.int (((5 : Int32) - (5 : Int32)) - (0 : Int32))), (.int 2)])) rfl (by rw [hml]; rfl) rfl (hb hby d15_83) (lenOf pd8 rfl) (W := 1) (c1 := 0) (s1 := 0)
 have pre48 : Go p e below T44 (mkF m 83 (l483_0 o1 o2 q3) [(.int 4), (.int (((5 : Int32) - (5 : Int32)) - (0 : Int32))), (.int 2)]) E0 := fun t k => by
  refine pre0 _ ?_
  refine yan X0 hx hby d15_0 rfl rfl ?_
  refine XS.lloadN X0.here hx rfl (hb hby d15_1) rfl ?_
  refine st1 _ ?_
  refine yan X1 hx hby d15_5 rfl rfl ?_
  refine XS.dup X1.here hx rfl (hb hby d15_6) rfl rfl ?_
  refine st9 _ ?_
  refine yic X9 hx hby d15_10 ?_
  refine yad X9 hx hby d15_11 ?_
  refine st10 _ ?_
  refine st12 _ ?_
  refine st14 _ ?_
  refine yno X14 hx hby d15_23 (tlt (by decide : (4 : Int32) < (5 : Int32))).2.1 ?_
  refine st16 _ ?_
  refine st17 _ ?_
  refine X17.aaload hx (j := (4 : Int32)) (v := (.ref o2)) (by rw [e17]; exact Ar24.1) (State.isArrayOf_alike hZ.alike Ar24.2.1) rfl Ar24.2.2 hin24 hat24 (g := (mkF m 34 (l483_0 o1 o2 q3) [(.int 4), (.ref o4)])) rfl rfl (hb hby d15_34) _ ?_
  refine st26 _ ?_
  refine yfn X26 hx hby d15_38 ((if0 _ _).trans (teq (by decide : (0 : Int32) = (0 : Int32))).2) ?_
  refine yan X26 hx hby d15_41 rfl rfl ?_
  refine XS.dup X26.here hx rfl (hb hby d15_42) rfl rfl ?_
  refine st29 _ ?_
  refine yic X29 hx hby d15_46 ?_
  refine yad X29 hx hby d15_47 ?_
  refine st30 _ ?_
  refine yan X30 hx hby d15_51 rfl rfl ?_
  refine XS.dup X30.here hx rfl (hb hby d15_52) rfl rfl ?_
  refine st32 _ ?_
  refine yic X32 hx hby d15_56 ?_
  refine ysu X32 hx hby d15_57 ?_
  refine st34 _ ?_
  refine ygo X34 hx hby 61 15 rfl d15_61 (by decide) ?_
  refine st36 _ ?_
  refine st38 _ ?_
  refine yye X38 hx hby 23 64 rfl d15_23 (flt (by decide : ¬ ((5 : Int32) < (5 : Int32)))).2.1 (by decide) ?_
  show Steps p.tables e below (T38.setTop (mkF m 64 (l483_0 o1 o2 q3) [])) _
  refine st39 _ ?_
  refine st41 _ ?_
  refine ysu X41 hx hby d15_72 ?_
  refine st42 _ ?_
  refine yad X42 hx hby d15_77 ?_
  refine yan X42 hx hby d15_78 rfl rfl ?_
  refine st44 _ ?_
  refine yic X44 hx hby d15_82 ?_
  exact k
 rcases hQ47 with ⟨hc49, rfl, Nq50, e51⟩ | ⟨hc52, rfl, Nq53, e54⟩
 ·
  have N47 := Fr.app N44 Nq50
  obtain ⟨fs, hr, hrun, hended, hW, hsame⟩ := X47.leave (v := none) (fun _ => rfl)
  have KL : Keep h0 h34 [o2, o1] := (((((Keep.refl h0 [o2, o1]).trans K3 (allS (Or.inl (List.mem_of_getElem? (i := 0) rfl)) all0)).wr W10 (Or.inl (List.mem_of_getElem? (i := 1) rfl))).wr W30 (Or.inl (List.mem_of_getElem? (i := 1) rfl))).wr W34 (Or.inl (List.mem_of_getElem? (i := 1) rfl)))
  have f55 := ((f19.wr W30).wr W34)
  have f56 := ((f25.other W30 (Or.inl (Ne.symm ne7))).other W34 (Or.inl (Ne.symm ne7)))
  have f57 := ((((P1.keep K3 (ninS ne7 nin0)).other W10 (Or.inr (sn58 hw))).other W30 (Or.inr (sn56 hw))).other W34 (Or.inr (sn58 hw)))
  have f58 := ((f15.other W30 (Or.inr (sn70 hw))).other W34 (Or.inr (sn72 hw)))
  refine ⟨_, _, pre48 _ ?_, hrun, hended, _, _, rfl, ?_, ⟨_, rfl⟩, hW, hsame.mono (by decide) (by decide)⟩
  ·
   refine st47 _ ?_
   refine yye X47 hx hby 86 93 rfl d15_86 (flt (by decide : ¬ ((4 : Int32) < (2 : Int32)))).2.2.2 (by decide) ?_
   show Steps p.tables e below (T47.setTop (mkF m 93 (l483_0 o1 o2 q3) [])) _
   exact X47.returnOut hx hret (hb hby d15_93) hr
  ·
   show Q48 Z o1 o2 o4 o6 kc5 q3 q7 h0 n0 _ T47.heap _
   rw [e51]
   exact ⟨rfl, N47, KL, f55, f56, f43, f57, f37, f35, f40, Fw34, f58⟩
 ·
  exact absurd (own_glt1 (n := 4) (k := (4 : Int32)) (by decide) (by have q0 := own_sub (x := ((5 : Int32) - (5 : Int32))) (k := (0 : Int32)) (n := 0) (lo := 0) (hi := 0) (by decide) (by have q0 := own_sub (x := (5 : Int32)) (k := (5 : Int32)) (n := 5) (lo := 5) (hi := 5) (by decide) (by have q0 := (by decide : ((5 : Int32)).toInt = 5); omega) (by decide) (by decide); omega) (by decide) (by decide); omega)) hc52
def l484_0 (dp1 : Int32) (dq2 q3 q4 : Int64) (dp3 dp4 : Int32) (zz51 zz52 zz53 : Int32) (dq50 : Int64) (da5 o6 : Addr) (o7 o8 o9 : Addr) : Array Slot := #[.val (.int dp1), .val (.long dq2), .second, .val (.long q3), .second, .val (.long q4), .second, .val (.int 1), .val (.int 1), .val (.int dp3), .val (.int dp4), .val (.int zz51), .val (.int zz52), .val (.int zz53), .val (.long dq50), .second, .val (.ref da5), .val (.ref o6), .val (.ref o7), .val (.ref o8), .val (.ref o9), .unset, .unset, .unset, .unset, .unset, .unset, .unset, .unset, .unset]
def l484_1 (dp1 : Int32) (dq2 q3 q4 : Int64) (dp3 dp4 : Int32) (zz52 zz53 : Int32) (dq50 : Int64) (da5 o6 : Addr) (o7 o8 o9 : Addr) : Array Slot := #[.val (.int dp1), .val (.long dq2), .second, .val (.long q3), .second, .val (.long q4), .second, .val (.int 1), .val (.int 1), .val (.int dp3), .val (.int dp4), .val (.int 0), .val (.int zz52), .val (.int zz53), .val (.long dq50), .second, .val (.ref da5), .val (.ref o6), .val (.ref o7), .val (.ref o8), .val (.ref o9), .unset, .unset, .unset, .unset, .unset, .unset, .unset, .unset, .unset]
def l484_2 (dp1 : Int32) (dq2 q3 q4 : Int64) (dp3 dp4 : Int32) (zz52 zz53 : Int32) (dq50 : Int64) (da5 o6 : Addr) (o7 o8 o9 : Addr) : Array Slot := #[.val (.int dp1), .val (.long dq2), .second, .val (.long q3), .second, .val (.long q4), .second, .val (.int 1), .val (.int 1), .val (.int dp3), .val (.int dp4), .val (.int 1), .val (.int zz52), .val (.int zz53), .val (.long dq50), .second, .val (.ref da5), .val (.ref o6), .val (.ref o7), .val (.ref o8), .val (.ref o9), .unset, .unset, .unset, .unset, .unset, .unset, .unset, .unset, .unset]
def l484_3 (dp1 : Int32) (dq2 q3 q4 : Int64) (dp3 dp4 zz53 : Int32) (dq50 : Int64) (da5 o6 : Addr) (o7 o8 o9 : Addr) : Array Slot := #[.val (.int dp1), .val (.long dq2), .second, .val (.long q3), .second, .val (.long q4), .second, .val (.int 1), .val (.int 1), .val (.int dp3), .val (.int dp4), .val (.int 0), .val (.int 0), .val (.int zz53), .val (.long dq50), .second, .val (.ref da5), .val (.ref o6), .val (.ref o7), .val (.ref o8), .val (.ref o9), .unset, .unset, .unset, .unset, .unset, .unset, .unset, .unset, .unset]
def l484_4 (dp1 : Int32) (dq2 q3 q4 : Int64) (dp3 dp4 zz53 : Int32) (dq50 : Int64) (da5 o6 : Addr) (o7 o8 o9 : Addr) : Array Slot := #[.val (.int dp1), .val (.long dq2), .second, .val (.long q3), .second, .val (.long q4), .second, .val (.int 1), .val (.int 1), .val (.int dp3), .val (.int dp4), .val (.int 0), .val (.int 1), .val (.int zz53), .val (.long dq50), .second, .val (.ref da5), .val (.ref o6), .val (.ref o7), .val (.ref o8), .val (.ref o9), .unset, .unset, .unset, .unset, .unset, .unset, .unset, .unset, .unset]
def l484_5 (dp1 : Int32) (dq2 q3 q4 : Int64) (dp3 dp4 zz53 : Int32) (dq50 : Int64) (da5 o6 : Addr) (o7 o8 o9 : Addr) : Array Slot := #[.val (.int dp1), .val (.long dq2), .second, .val (.long q3), .second, .val (.long q4), .second, .val (.int 1), .val (.int 1), .val (.int dp3), .val (.int dp4), .val (.int 1), .val (.int 0), .val (.int zz53), .val (.long dq50), .second, .val (.ref da5), .val (.ref o6), .val (.ref o7), .val (.ref o8), .val (.ref o9), .unset, .unset, .unset, .unset, .unset, .unset, .unset, .unset, .unset]
def l484_6 (dp1 : Int32) (dq2 q3 q4 : Int64) (dp3 dp4 zz53 : Int32) (dq50 : Int64) (da5 o6 : Addr) (o7 o8 o9 : Addr) : Array Slot := #[.val (.int dp1), .val (.long dq2), .second, .val (.long q3), .second, .val (.long q4), .second, .val (.int 1), .val (.int 1), .val (.int dp3), .val (.int dp4), .val (.int 1), .val (.int 1), .val (.int zz53), .val (.long dq50), .second, .val (.ref da5), .val (.ref o6), .val (.ref o7), .val (.ref o8), .val (.ref o9), .unset, .unset, .unset, .unset, .unset, .unset, .unset, .unset, .unset]
set_option maxRecDepth 65536 in
set_option maxHeartbeats 40000000 in
theorem ct21 {p : Program} {l : Launch} {e : Env} {s : State} {m : MethodId} {below : List Frame} {meth : Method} {c : Code} {E0 T0 : State} {locs : List Loc} {Z : State} {a0 : Array Value} (hw : HW a0 Z) (w1 : Addr) (kw1 : ClassId) (G : GW Z w1 kw1) (o6 o7 : Addr) (o8 o9 o10 : Addr) (kc11 : ClassId) (dq50 : Int64) (zz51 zz52 : Int32) (zz53 dp1 : Int32) (dq2 q3 q4 : Int64) (dp3 dp4 : Int32) (da5 : Addr) (p1 : Int32) (q2 : Int64) (h0 : Heap) (n0 : Nat) (O0 : Old Z n0 h0)
    (hx : p.tables.exec = Jvm.exec) (hby : c.code = code) (hml : c.maxLocals = 30) (hown : s.vm.findClass cn8 = some m.cls) (hret : meth.sig.returnType = ret) (hlk : meth.locks = false) (hZ : Z.Warmed39 s.vm)
    (X0 : Stand p l e room_1 s m #[(.int p1), (.long q2), (.long q3), (.long q4)] below meth c T0 locs 7 46) (e0 : T0.heap = h0) (N0 : Fr n0 locs) (pre0 : Go p e below T0 (mkF m 236 (l484_0 dp1 dq2 q3 q4 dp3 dp4 zz51 zz52 zz53 dq50 da5 o6 o7 o8 o9) []) E0) (g_o6 : n0 ≤ o6) (g_o7 : n0 ≤ o7) (g_o8 : n0 ≤ o8) (g_o9 : n0 ≤ o9) (g_o10 : n0 ≤ o10) (ne_o7_o6 : o7 ≠ o6) (Ov_kc11 : Ovr Z kc11 cn6) (P0 : Exa Z h0 o6 cn6) (P1 : Fld Z h0 o6 cn6 "removed" "J" (.long 9223372036854775807)) (P2 : Exa Z h0 o7 cn6) (P3 : Fld Z h0 o7 cn6 "removed" "J" (.long 9223372036854775807)) (P4 : Exa Z h0 o8 cn6) (P6 : Exa Z h0 o9 cn7) (P7 : Fld Z h0 o9 cn7 "addsFirst" "Z" (.int 1)) (P8 : Fld Z h0 o9 cn7 "end" "I" (.int 5)) (P9 : Fld Z h0 o9 cn7 "first" "I" (.int 3)) (P10 : Fld Z h0 o9 cn7 "low" "I" (.int 3)) (P11 : Fld Z h0 o9 cn7 "removed" "I" (.int 0)) (P12 : Fld Z h0 o9 cn7 "slots" cn3 (.ref o10)) (P13 : Arv Z h0 o10 kc11 (.object cn6) (8 : Int32) [.null, .null, .null, (.ref o6), (.ref o7), .null, .null, .null] .null) (P14 : Exa Z h0 o10 cn3) (hC0 : ¬ (dq50 = (9223372036854775807 : Int64))) (bzz51 : 0 ≤ zz51.toInt ∧ zz51.toInt ≤ 1) (bzz52 : 0 ≤ zz52.toInt ∧ zz52.toInt ≤ 1) (bzz53 : 0 ≤ zz53.toInt ∧ zz53.toInt ≤ 1) :
    ∃ (s₂ : State) (o : Outcome), Steps p.tables e below E0 s₂ ∧ s₂.status = .running ∧ Ended s₂ below o ∧ ∃ v L, o = .returned v ∧ Q0 n0 v s₂.heap L ∧ FrameEnd s o s₂ L 24 192 := by
 obtain ⟨S_w1, A_w1⟩ := id G
 have pre1 : Go p e below T0 (mkF m 238 (l484_0 dp1 dq2 q3 q4 dp3 dp4 zz51 zz52 zz53 dq50 da5 o6 o7 o8 o9) [(.int zz51)]) E0 := fun t k => by
  refine pre0 _ ?_
  refine yil X0 hx hby at_236 rfl ?_
  exact k
 by_cases hc2 : zz51 = (0 : Int32)
 ·
  have pre3 : Go p e below T0 (mkF m 238 (l484_1 dp1 dq2 q3 q4 dp3 dp4 zz52 zz53 dq50 da5 o6 o7 o8 o9) [(.int 0)]) E0 := fun t k => pre1 t (by rw [hc2]; exact k)
  have pre4 : Go p e below T0 (mkF m 252 (l484_1 dp1 dq2 q3 q4 dp3 dp4 zz52 zz53 dq50 da5 o6 o7 o8 o9) [(.int zz52)]) E0 := fun t k => by
   refine pre3 _ ?_
   refine XS.ifYes X0.here hx rfl (pc0 := 238) (pc' := 250) rfl (hb hby at_238) rfl ((if0 _ _).trans (teq (by decide : (0 : Int32) = (0 : Int32))).1) (by decide) (by decide) ?_
   refine yil X0 hx hby at_250 rfl ?_
   exact k
  by_cases hc5 : zz52 = (0 : Int32)
  ·
   have pre6 : Go p e below T0 (mkF m 252 (l484_3 dp1 dq2 q3 q4 dp3 dp4 zz53 dq50 da5 o6 o7 o8 o9) [(.int 0)]) E0 := fun t k => pre4 t (by rw [hc5]; exact k)
   obtain ⟨_, T7, L7, X7, hQ7, st7⟩ := yv X0 hx hZ hown hby hml (y := yn2) (own_w hw 42 rfl) (w_43 hw) (own_w hw 45 rfl) (w_44 hw) (own_w hw 46 rfl) (w_33 hw) e0 P6 [(.long q3)] [] (rm43 l Z a0 hw w1 kw1 G [] o9 o10 o6 o7 kc11 ((1 : Int32)) ((3 : Int32)) ((0 : Int32)) q3 h0 n0 O0 g_o9 g_o10 g_o6 g_o7 ne_o7_o6 Ov_kc11 P6 P7 P8 P9 P10 P11 P12 P13 P14 P0 P1 P2 P3) 267 (l484_3 dp1 dq2 q3 q4 dp3 dp4 zz53 dq50 da5 o6 o7 o8 o9) rfl at_267 (lenOf pd2 rfl) 0 7 46
   obtain ⟨rfl, Nq8, K9, f10, f11, f12, f13, f14, f15, f16, f17, f18, f19, f20⟩ := hQ7
   have N7 := Fr.app N0 Nq8
   have O7 := Old.keep O0 K9 (allS g_o6 (allS g_o7 (allS g_o9 all0)))
   have pre21 : Go p e below T7 (mkF m 270 (l484_3 dp1 dq2 q3 q4 dp3 dp4 zz53 dq50 da5 o6 o7 o8 o9) []) E0 := fun t k => by
    refine pre6 _ ?_
    refine XS.ifYes X0.here hx rfl (pc0 := 252) (pc' := 264) rfl (hb hby at_252) rfl ((if0 _ _).trans (teq (by decide : (0 : Int32) = (0 : Int32))).1) (by decide) (by decide) ?_
    refine yal X0 hx hby at_264 rfl rfl ?_
    refine XS.lloadN X0.here hx rfl (hb hby at_266) rfl ?_
    refine st7 _ ?_
    exact k
   have f22 := (P4.keep K9)
   exact ct15 hw w1 kw1 G o6 o7 o8 o9 q3 zz53 dp1 dq2 q4 dp3 dp4 dq50 da5 p1 q2 T7.heap n0 O7 hx hby hml hown hret hlk hZ (X7.more (by decide) (by decide)) rfl N7 pre21 g_o6 g_o7 g_o8 g_o9 f10 f11 f12 f13 f22 f14 f15 f16 f17 f18 f19 f20 (by have q0 := bzz53; omega)
  ·
   have hq23 : zz52 = (1 : Int32) := (own_geq (n := 1) (k := (1 : Int32)) (by decide) (by have q0 := bzz52; have q1 := own_neq (n := 0) (k := (0 : Int32)) (by decide) hc5; omega))
   have pre24 : Go p e below T0 (mkF m 252 (l484_4 dp1 dq2 q3 q4 dp3 dp4 zz53 dq50 da5 o6 o7 o8 o9) [(.int 1)]) E0 := fun t k => pre4 t (by rw [hq23]; exact k)
   obtain ⟨_, T25, L25, X25, hQ25, st25⟩ := yv X0 hx hZ hown hby hml (y := yn15) (own_w hw 119 rfl) (own_w hw 120 rfl) (own_w hw 122 rfl) (own_w hw 121 rfl) (own_w hw 123 rfl) (w_33 hw) e0 P6 [(.ref o7), (.long dq50)] [] (rm44 l Z a0 hw [] o9 o7 o10 o6 kc11 dq50 h0 n0 O0 g_o9 g_o7 g_o10 g_o6 (Ne.symm ne_o7_o6) Ov_kc11 hC0 P6 P7 P8 P9 P10 P11 P12 P2 P3 P13 P14 P0 P1) 261 (l484_4 dp1 dq2 q3 q4 dp3 dp4 zz53 dq50 da5 o6 o7 o8 o9) rfl at_261 (lenOf pd10 rfl) 0 7 46
   obtain ⟨rfl, Nq26, K27, f28, f29, f30, f31, f32, f33, f34, f35, f36⟩ := hQ25
   have N25 := Fr.app N0 Nq26
   have O25 := Old.keep O0 K27 (allS g_o7 (allS g_o9 all0))
   have f37 := (P14.keep K27)
   have ne38 : o10 ≠ o9 := ne_exa f37 f30 (by decide)
   have ne39 : o10 ≠ o7 := ne_exa f37 f28 (by decide)
   have f40 := (P13.keep K27 (ninS ne39 (ninS ne38 nin0)))
   have f41 := (P0.keep K27)
   have ne42 : o6 ≠ o9 := ne_exa f41 f30 (by decide)
   have f43 := (P1.keep K27 (ninS (Ne.symm ne_o7_o6) (ninS ne42 nin0)))
   obtain ⟨_, T44, L44, X44, hQ44, st44⟩ := yv X25 hx hZ hown hby hml (y := yn2) (own_w hw 42 rfl) (w_43 hw) (own_w hw 45 rfl) (w_44 hw) (own_w hw 46 rfl) (w_33 hw) rfl f30 [(.long q3)] [] (rm45 l Z a0 hw w1 kw1 G [] o9 o10 o6 o7 kc11 dq50 ((1 : Int32)) ((3 : Int32)) q3 T25.heap n0 O25 g_o9 g_o10 g_o6 g_o7 ne_o7_o6 Ov_kc11 hC0 f30 f31 f32 f33 f34 f35 f36 f40 f37 f41 f43 f28 f29) 267 (l484_4 dp1 dq2 q3 q4 dp3 dp4 zz53 dq50 da5 o6 o7 o8 o9) rfl at_267 (lenOf pd2 rfl) 0 7 46
   obtain ⟨rfl, Nq45, K46, f47, f48, f49, f50, f51, f52, f53, f54, f55⟩ := hQ44
   have N44 := Fr.app N25 Nq45
   have O44 := Old.keep O25 K46 (allS g_o6 (allS g_o9 all0))
   have pre56 : Go p e below T44 (mkF m 270 (l484_4 dp1 dq2 q3 q4 dp3 dp4 zz53 dq50 da5 o6 o7 o8 o9) []) E0 := fun t k => by
    refine pre24 _ ?_
    refine yfn X0 hx hby at_252 ((if0 _ _).trans (feq (by decide : ¬ ((1 : Int32) = (0 : Int32)))).1) ?_
    refine yal X0 hx hby at_255 rfl rfl ?_
    refine yal X0 hx hby at_257 rfl rfl ?_
    refine XS.lload X0.here hx rfl (hb hby at_259) rfl ?_
    refine st25 _ ?_
    refine yal X25 hx hby at_264 rfl rfl ?_
    refine XS.lloadN X25.here hx rfl (hb hby at_266) rfl ?_
    refine st44 _ ?_
    exact k
   have f57 := (f28.keep K46)
   have ne58 : o7 ≠ o9 := ne_exa f57 f49 (by decide)
   have f59 := (f29.keep K46 (ninS ne_o7_o6 (ninS ne58 nin0)))
   have f60 := ((P4.keep K27).keep K46)
   exact ct16 hw w1 kw1 G o6 o7 o8 o9 q3 dq50 zz53 dp1 dq2 q4 dp3 dp4 da5 p1 q2 T44.heap n0 O44 hx hby hml hown hret hlk hZ (X44.more (by decide) (by decide)) rfl N44 pre56 g_o6 g_o7 g_o8 g_o9 f47 f48 f57 f59 f60 f49 f50 f51 f52 f53 f54 f55 (by have q0 := bzz53; omega)
 ·
  have hq61 : zz51 = (1 : Int32) := (own_geq (n := 1) (k := (1 : Int32)) (by decide) (by have q0 := bzz51; have q1 := own_neq (n := 0) (k := (0 : Int32)) (by decide) hc2; omega))
  have pre62 : Go p e below T0 (mkF m 238 (l484_2 dp1 dq2 q3 q4 dp3 dp4 zz52 zz53 dq50 da5 o6 o7 o8 o9) [(.int 1)]) E0 := fun t k => pre1 t (by rw [hq61]; exact k)
  obtain ⟨_, T63, L63, X63, hQ63, st63⟩ := yv X0 hx hZ hown hby hml (y := yn15) (own_w hw 119 rfl) (own_w hw 120 rfl) (own_w hw 122 rfl) (own_w hw 121 rfl) (own_w hw 123 rfl) (w_33 hw) e0 P6 [(.ref o6), (.long dq50)] [] (rm46 l Z a0 hw [] o9 o6 o10 o7 kc11 dq50 h0 n0 O0 g_o9 g_o6 g_o10 g_o7 ne_o7_o6 Ov_kc11 hC0 P6 P7 P8 P9 P10 P11 P12 P0 P1 P13 P14 P2 P3) 247 (l484_2 dp1 dq2 q3 q4 dp3 dp4 zz52 zz53 dq50 da5 o6 o7 o8 o9) rfl at_247 (lenOf pd10 rfl) 0 7 46
  obtain ⟨rfl, Nq64, K65, f66, f67, f68, f69, f70, f71, f72, f73, f74⟩ := hQ63
  have N63 := Fr.app N0 Nq64
  have O63 := Old.keep O0 K65 (allS g_o6 (allS g_o9 all0))
  have pre75 : Go p e below T63 (mkF m 252 (l484_2 dp1 dq2 q3 q4 dp3 dp4 zz52 zz53 dq50 da5 o6 o7 o8 o9) [(.int zz52)]) E0 := fun t k => by
   refine pre62 _ ?_
   refine yfn X0 hx hby at_238 ((if0 _ _).trans (feq (by decide : ¬ ((1 : Int32) = (0 : Int32)))).1) ?_
   refine yal X0 hx hby at_241 rfl rfl ?_
   refine yal X0 hx hby at_243 rfl rfl ?_
   refine XS.lload X0.here hx rfl (hb hby at_245) rfl ?_
   refine st63 _ ?_
   refine yil X63 hx hby at_250 rfl ?_
   exact k
  by_cases hc76 : zz52 = (0 : Int32)
  ·
   have pre77 : Go p e below T63 (mkF m 252 (l484_5 dp1 dq2 q3 q4 dp3 dp4 zz53 dq50 da5 o6 o7 o8 o9) [(.int 0)]) E0 := fun t k => pre75 t (by rw [hc76]; exact k)
   have f78 := (P14.keep K65)
   have ne79 : o10 ≠ o9 := ne_exa f78 f68 (by decide)
   have ne80 : o10 ≠ o6 := ne_exa f78 f66 (by decide)
   have f81 := (P13.keep K65 (ninS ne80 (ninS ne79 nin0)))
   have f82 := (P2.keep K65)
   have ne83 : o7 ≠ o9 := ne_exa f82 f68 (by decide)
   have f84 := (P3.keep K65 (ninS ne_o7_o6 (ninS ne83 nin0)))
   obtain ⟨_, T85, L85, X85, hQ85, st85⟩ := yv X63 hx hZ hown hby hml (y := yn2) (own_w hw 42 rfl) (w_43 hw) (own_w hw 45 rfl) (w_44 hw) (own_w hw 46 rfl) (w_33 hw) rfl f68 [(.long q3)] [] (rm47 l Z a0 hw w1 kw1 G [] o9 o10 o6 o7 kc11 dq50 ((1 : Int32)) ((3 : Int32)) ((0 : Int32)) q3 T63.heap n0 O63 g_o9 g_o10 g_o6 g_o7 Ov_kc11 hC0 f68 f69 f70 f71 f72 f73 f74 f81 f82 f84) 267 (l484_5 dp1 dq2 q3 q4 dp3 dp4 zz53 dq50 da5 o6 o7 o8 o9) rfl at_267 (lenOf pd2 rfl) 0 7 46
   obtain ⟨rfl, Nq86, K87, f88, f89, f90, f91, f92, f93, f94, f95, f96⟩ := hQ85
   have N85 := Fr.app N63 Nq86
   have O85 := Old.keep O63 K87 (allS g_o7 (allS g_o9 all0))
   have pre97 : Go p e below T85 (mkF m 270 (l484_5 dp1 dq2 q3 q4 dp3 dp4 zz53 dq50 da5 o6 o7 o8 o9) []) E0 := fun t k => by
    refine pre77 _ ?_
    refine XS.ifYes X63.here hx rfl (pc0 := 252) (pc' := 264) rfl (hb hby at_252) rfl ((if0 _ _).trans (teq (by decide : (0 : Int32) = (0 : Int32))).1) (by decide) (by decide) ?_
    refine yal X63 hx hby at_264 rfl rfl ?_
    refine XS.lloadN X63.here hx rfl (hb hby at_266) rfl ?_
    refine st85 _ ?_
    exact k
   have f98 := (f66.keep K87)
   have ne99 : o6 ≠ o9 := ne_exa f98 f90 (by decide)
   have f100 := (f67.keep K87 (ninS (Ne.symm ne_o7_o6) (ninS ne99 nin0)))
   have f101 := ((P4.keep K65).keep K87)
   exact ct17 hw w1 kw1 G o6 o7 o8 o9 dq50 q3 zz53 dp1 dq2 q4 dp3 dp4 da5 p1 q2 T85.heap n0 O85 hx hby hml hown hret hlk hZ (X85.more (by decide) (by decide)) rfl N85 pre97 g_o6 g_o7 g_o8 g_o9 f98 f100 f88 f89 f101 f90 f91 f92 f93 f94 f95 f96 (by have q0 := bzz53; omega)
  ·
   have hq102 : zz52 = (1 : Int32) := (own_geq (n := 1) (k := (1 : Int32)) (by decide) (by have q0 := bzz52; have q1 := own_neq (n := 0) (k := (0 : Int32)) (by decide) hc76; omega))
   have pre103 : Go p e below T63 (mkF m 252 (l484_6 dp1 dq2 q3 q4 dp3 dp4 zz53 dq50 da5 o6 o7 o8 o9) [(.int 1)]) E0 := fun t k => pre75 t (by rw [hq102]; exact k)
   have f104 := (P2.keep K65)
   have ne105 : o7 ≠ o9 := ne_exa f104 f68 (by decide)
   have f106 := (P3.keep K65 (ninS ne_o7_o6 (ninS ne105 nin0)))
   have f107 := (P14.keep K65)
   have ne108 : o10 ≠ o9 := ne_exa f107 f68 (by decide)
   have ne109 : o10 ≠ o6 := ne_exa f107 f66 (by decide)
   have f110 := (P13.keep K65 (ninS ne109 (ninS ne108 nin0)))
   obtain ⟨_, T111, L111, X111, hQ111, st111⟩ := yv X63 hx hZ hown hby hml (y := yn15) (own_w hw 119 rfl) (own_w hw 120 rfl) (own_w hw 122 rfl) (own_w hw 121 rfl) (own_w hw 123 rfl) (w_33 hw) rfl f68 [(.ref o7), (.long dq50)] [] (rm48 l Z a0 hw [] o9 o7 o10 o6 kc11 dq50 dq50 T63.heap n0 O63 g_o9 g_o7 g_o10 g_o6 Ov_kc11 hC0 hC0 f68 f69 f70 f71 f72 f73 f74 f104 f106 f110 f107) 261 (l484_6 dp1 dq2 q3 q4 dp3 dp4 zz53 dq50 da5 o6 o7 o8 o9) rfl at_261 (lenOf pd10 rfl) 0 7 46
   obtain ⟨rfl, Nq112, K113, f114, f115, f116, f117, f118, f119, f120, f121, f122⟩ := hQ111
   have N111 := Fr.app N63 Nq112
   have O111 := Old.keep O63 K113 (allS g_o7 (allS g_o9 all0))
   obtain ⟨_, T123, L123, X123, hQ123, st123⟩ := yv X111 hx hZ hown hby hml (y := yn2) (own_w hw 42 rfl) (w_43 hw) (own_w hw 45 rfl) (w_44 hw) (own_w hw 46 rfl) (w_33 hw) rfl f116 [(.long q3)] [] (rm26 l Z a0 hw w1 kw1 G [] o9 o10 ((1 : Int32)) ((5 : Int32)) ((3 : Int32)) ((0 : Int32)) q3 T111.heap n0 O111 g_o9 g_o10 f116 f117 f118 f119 f120 f121 f122) 267 (l484_6 dp1 dq2 q3 q4 dp3 dp4 zz53 dq50 da5 o6 o7 o8 o9) rfl at_267 (lenOf pd2 rfl) 0 7 46
   obtain ⟨rfl, Nq124, K125, f126, f127, f128, f129, f130, f131, f132⟩ := hQ123
   have N123 := Fr.app N111 Nq124
   have O123 := Old.keep O111 K125 (allS g_o9 all0)
   have pre133 : Go p e below T123 (mkF m 270 (l484_6 dp1 dq2 q3 q4 dp3 dp4 zz53 dq50 da5 o6 o7 o8 o9) []) E0 := fun t k => by
    refine pre103 _ ?_
    refine yfn X63 hx hby at_252 ((if0 _ _).trans (feq (by decide : ¬ ((1 : Int32) = (0 : Int32)))).1) ?_
    refine yal X63 hx hby at_255 rfl rfl ?_
    refine yal X63 hx hby at_257 rfl rfl ?_
    refine XS.lload X63.here hx rfl (hb hby at_259) rfl ?_
    refine st111 _ ?_
    refine yal X111 hx hby at_264 rfl rfl ?_
    refine XS.lloadN X111.here hx rfl (hb hby at_266) rfl ?_
    refine st123 _ ?_
    exact k
   have f134 := ((f66.keep K113).keep K125)
   have ne135 : o6 ≠ o9 := ne_exa f134 f126 (by decide)
   have f136 := ((f67.keep K113 (ninS (Ne.symm ne_o7_o6) (ninS ne135 nin0))).keep K125 (ninS ne135 nin0))
   have f137 := (f114.keep K125)
   have f138 := (f115.keep K125 (ninS ne105 nin0))
   have f139 := (((P4.keep K65).keep K113).keep K125)
   exact ct18 hw w1 kw1 G o6 o7 o8 o9 dq50 zz53 dp1 dq2 q3 q4 dp3 dp4 da5 p1 q2 T123.heap n0 O123 hx hby hml hown hret hlk hZ (X123.more (by decide) (by decide)) rfl N123 pre133 g_o6 g_o7 g_o8 g_o9 f134 f136 f137 f138 f139 f126 f127 f128 f129 f130 f131 f132 (by have q0 := bzz53; omega)
def l485_0 (o1 o2 : Addr) : Array Slot := #[.val (.ref o1), .val (.ref o2)]
theorem ef49 (m : MethodId) (x0 x1 : Addr) : entryFrame m #[(.ref x0), (.ref x1)] 2 = mkF m 0 #[.val (.ref x0), .val (.ref x1)] [] := by first | (simp [entryFrame, mkF, argsToLocals, Value.category]; done) | rfl
def Q49 (Z : State) (o1 o2 : Addr) (o3 o5 : Addr) (kc4 : ClassId) (h0 : Heap) (n0 : Nat) (v : Option Value) (h : Heap) (L : List Loc) : Prop :=
  (v = none ∧ Fr n0 L ∧ Keep h0 h [o1, o3] ∧ (Exa Z h o1 cn7) ∧ (Fld Z h o1 cn7 "addsFirst" "Z" (.int 1)) ∧ (Fld Z h o1 cn7 "end" "I" (.int 4)) ∧ (Fld Z h o1 cn7 "first" "I" (.int 2)) ∧ (Fld Z h o1 cn7 "low" "I" (.int 2)) ∧ (Fld Z h o1 cn7 "removed" "I" (.int 0)) ∧ (Fld Z h o1 cn7 "slots" cn3 (.ref o3)) ∧ (Arv Z h o3 kc4 (.object cn6) (8 : Int32) [.null, .null, (.ref o2), (.ref o5), .null, .null, .null, .null] .null) ∧ (Exa Z h o3 cn3))
set_option maxRecDepth 65536 in
set_option maxHeartbeats 40000000 in
theorem rm49 (l : Launch) (Z : State) (a0 : Array Value) (hw : HW a0 Z) (ws : List Jvm.Cond) (o1 o2 : Addr) (o3 o5 : Addr) (kc4 : ClassId) (h0 : Heap) (n0 : Nat) (O0 : Old Z n0 h0) (g_o1 : n0 ≤ o1) (g_o2 : n0 ≤ o2) (g_o3 : n0 ≤ o3) (g_o5 : n0 ≤ o5) (Ov_kc4 : Ovr Z kc4 cn6) (P0 : Exa Z h0 o1 cn7) (P1 : Fld Z h0 o1 cn7 "addsFirst" "Z" (.int 1)) (P2 : Fld Z h0 o1 cn7 "end" "I" (.int 4)) (P3 : Fld Z h0 o1 cn7 "first" "I" (.int 3)) (P4 : Fld Z h0 o1 cn7 "low" "I" (.int 3)) (P5 : Fld Z h0 o1 cn7 "removed" "I" (.int 0)) (P6 : Fld Z h0 o1 cn7 "slots" cn3 (.ref o3)) (P7 : Exa Z h0 o2 cn6) (P9 : Arv Z h0 o3 kc4 (.object cn6) (8 : Int32) [.null, .null, .null, (.ref o5), .null, .null, .null, .null] .null) (P10 : Exa Z h0 o3 cn3) :
    MF l yn13 prog_41_method_7_code 2 none ws ({ frames := 0, cells := 0, slots := 0, locals := 0 } : Room) #[(.ref o1), (.ref o2)] Z h0 (Q49 Z o1 o2 o3 o5 kc4 h0 n0) := by
 refine MetFree.of_bodySF (plainFor_of_name pn1) hisR ?_
 intro p e s m args below meth c s₁ Bd hml hP hK
 obtain ⟨rfl, hZ, hh⟩ := hP
 obtain ⟨hx, hby, hown, hret, hlk, X0, e0, N0⟩ := own_bd Bd hh n0
 have pre0 := own_ct s₁ (p := p) (e := e) (below := below) (ef49 m o1 o2)
 obtain ⟨T1, h1, X1, e1, W1, st1⟩ := putFN X0 hx hZ hown (own_w hw 55 rfl) Via.refl e0 P1 P0 (Or.inl (w_56 hw)) (w_32 hw) (ty := .boolean) (v' := (.int 1)) (by decide) rfl (by decide) (g := (mkF m 2 (l485_0 o1 o2) [(.int 1), (.ref o1)])) rfl rfl (hb hby d13_2)
 have N1 := Fr.snoc X1 N0 g_o1
 have Fw1 := P1.same W1
 have f2 := (P4.other W1 (Or.inr (sn67 hw)))
 obtain ⟨T3, X3, e3, st3⟩ := yag X1 hx hZ hown hby (w_51 hw) e1 f2 5 (l485_0 o1 o2) [] d13_5 d13_6 rfl
 have f4 := (P5.other W1 (Or.inr (sn68 hw)))
 obtain ⟨T5, X5, e5, st5⟩ := yg X3 hx hZ hown hby (w_53 hw) e3 f4 18 (l485_0 o1 o2) [(.ref o1)] d13_18
 have f6 := (P3.other W1 (Or.inr (sn63 hw)))
 obtain ⟨T7, X7, e7, st7⟩ := yag X5 hx hZ hown hby (w_47 hw) e5 f6 21 (l485_0 o1 o2) [(.int 0), (.ref o1)] d13_21 d13_22 rfl
 obtain ⟨T8, X8, e8, st8⟩ := yag X7 hx hZ hown hby (w_51 hw) e7 f2 25 (l485_0 o1 o2) [(.int 3), (.int 0), (.ref o1)] d13_25 d13_26 rfl
 have f9 := (P0.wr W1)
 obtain ⟨T10, h10, X10, e10, W10, st10⟩ := yp X8 hx hZ hown hby (w_53 hw) e8 f4 f9 (w_54 hw) (w_32 hw) (ty := .int) (v := (.int 0)) (by decide) rfl rfl 31 (l485_0 o1 o2) [] d13_31
 have N10 := Fr.snoc X10 N1 g_o1
 have Fw10 := f4.same W10
 have f11 := (f2.other W10 (Or.inr (sn66 hw)))
 obtain ⟨T12, X12, e12, st12⟩ := yg X10 hx hZ hown hby (w_51 hw) e10 f11 36 (l485_0 o1 o2) [(.ref o1)] d13_36
 have f13 := (f9.wr W10)
 obtain ⟨T14, h14, X14, e14, W14, st14⟩ := yp X12 hx hZ hown hby (w_51 hw) e12 f11 f13 (w_52 hw) (w_32 hw) (ty := .int) (v := (.int 2)) (by decide) rfl rfl 41 (l485_0 o1 o2) [] d13_41
 have N14 := Fr.snoc X14 N10 g_o1
 have Fw14 := f11.same W14
 have f15 := (((P6.other W1 (Or.inr (sn73 hw))).other W10 (Or.inr (sn72 hw))).other W14 (Or.inr (sn69 hw)))
 obtain ⟨T16, X16, e16, st16⟩ := yag X14 hx hZ hown hby (w_40 hw) e14 f15 44 (l485_0 o1 o2) [] d13_44 d13_45 rfl
 obtain ⟨T17, X17, e17, st17⟩ := yag X16 hx hZ hown hby (w_51 hw) e16 Fw14 48 (l485_0 o1 o2) [(.ref o3)] d13_48 d13_49 rfl
 have f18 := (((P10.wr W1).wr W10).wr W14)
 have f19 := (f13.wr W14)
 have ne20 : o3 ≠ o1 := ne_exa f18 f19 (by decide)
 have f21 := (((P9.other W1 ne20).other W10 ne20).other W14 ne20)
 obtain ⟨cl22, Ar22, qa22, Sa22, Na22, Ha22, Ga22⟩ := id (f21)
 have hin22 := inb_of (j := (2 : Int32)) Sa22 ⟨by decide, by decide⟩
 have f23 := (((P7.wr W1).wr W10).wr W14)
 obtain ⟨T24, h24, X24, e24, W24, st24⟩ := stR X17 hx hZ e17 Ar22 (j := (2 : Int32)) hin22 rfl (Sto.ofV Ar22 qa22 Ov_kc4 (Ins.self f23)) (g := (mkF m 53 (l485_0 o1 o2) [(.ref o2), (.int 2), (.ref o3)])) rfl rfl (hb hby d13_53)
 have V24 : Arv Z h24 o3 kc4 (.object cn6) (8 : Int32) [.null, .null, (.ref o2), (.ref o5), .null, .null, .null, .null] .null := Arv.set Ar22 qa22 Sa22 Na22 Ha22 Ga22 rfl W24 2 rfl (Nat.le_of_ble_eq_true rfl)
 have N24 := Fr.snoc X24 N14 g_o3
 have f25 := (Fw14.other W24 (Or.inl (Ne.symm ne20)))
 obtain ⟨T26, X26, e26, st26⟩ := yag X24 hx hZ hown hby (w_51 hw) e24 f25 55 (l485_0 o1 o2) [(.ref o1)] d13_55 d13_56 rfl
 have f27 := (((f6.other W10 (Or.inr (sn62 hw))).other W14 (Or.inr (sn49 hw))).other W24 (Or.inl (Ne.symm ne20)))
 have f28 := (f19.wr W24)
 obtain ⟨T29, h29, X29, e29, W29, st29⟩ := yp X26 hx hZ hown hby (w_47 hw) e26 f27 f28 (w_48 hw) (w_32 hw) (ty := .int) (v := (.int 2)) (by decide) rfl rfl 59 (l485_0 o1 o2) [] d13_59
 have N29 := Fr.snoc X29 N24 g_o1
 have Fw29 := f27.same W29
 obtain ⟨fs, hr, hrun, hended, hW, hsame⟩ := X29.leave (v := none) (fun _ => rfl)
 have KL : Keep h0 h29 [o1, o3] := ((((((Keep.refl h0 [o1, o3]).wr W1 (Or.inl (List.mem_of_getElem? (i := 0) rfl))).wr W10 (Or.inl (List.mem_of_getElem? (i := 0) rfl))).wr W14 (Or.inl (List.mem_of_getElem? (i := 0) rfl))).wr W24 (Or.inl (List.mem_of_getElem? (i := 1) rfl))).wr W29 (Or.inl (List.mem_of_getElem? (i := 0) rfl)))
 have f30 := (f28.wr W29)
 have f31 := ((((Fw1.other W10 (Or.inr (sn58 hw))).other W14 (Or.inr (sn55 hw))).other W24 (Or.inl (Ne.symm ne20))).other W29 (Or.inr (sn56 hw)))
 have f32 := (((((P2.other W1 (Or.inr (sn60 hw))).other W10 (Or.inr (sn59 hw))).other W14 (Or.inr (sn50 hw))).other W24 (Or.inl (Ne.symm ne20))).other W29 (Or.inr (sn51 hw)))
 have f33 := (f25.other W29 (Or.inr (sn64 hw)))
 have f34 := (((Fw10.other W14 (Or.inr (sn52 hw))).other W24 (Or.inl (Ne.symm ne20))).other W29 (Or.inr (sn53 hw)))
 have f35 := ((f15.other W24 (Or.inl (Ne.symm ne20))).other W29 (Or.inr (sn70 hw)))
 have f36 := (V24.other W29 ne20)
 have f37 := ((f18.wr W24).wr W29)
 refine ⟨_, _, pre0 _ ?_, hrun, hended, _, _, rfl, ?_, ⟨_, rfl⟩, hW, hsame.mono (by decide) (by decide)⟩
 ·
  refine yan X0 hx hby d13_0 rfl rfl ?_
  refine yic X0 hx hby d13_1 ?_
  refine st1 _ ?_
  refine st3 _ ?_
  refine XS.ifYes X3.here hx rfl (pc0 := 9) (pc' := 16) rfl (hb hby d13_9) rfl ((if0 _ _).trans (feq (by decide : ¬ ((3 : Int32) = (0 : Int32)))).2) (by decide) (by decide) ?_
  refine yan X3 hx hby d13_16 rfl rfl ?_
  refine XS.dup X3.here hx rfl (hb hby d13_17) rfl rfl ?_
  refine st5 _ ?_
  refine st7 _ ?_
  refine st8 _ ?_
  refine ysu X8 hx hby d13_29 ?_
  refine yad X8 hx hby d13_30 ?_
  refine st10 _ ?_
  refine yan X10 hx hby d13_34 rfl rfl ?_
  refine XS.dup X10.here hx rfl (hb hby d13_35) rfl rfl ?_
  refine st12 _ ?_
  refine yic X12 hx hby d13_39 ?_
  refine ysu X12 hx hby d13_40 ?_
  refine st14 _ ?_
  refine st16 _ ?_
  refine st17 _ ?_
  refine yan X17 hx hby d13_52 rfl rfl ?_
  refine st24 _ ?_
  refine yan X24 hx hby d13_54 rfl rfl ?_
  refine st26 _ ?_
  refine st29 _ ?_
  show Steps p.tables e below (T29.setTop (mkF m 62 (l485_0 o1 o2) [])) _
  exact X29.returnOut hx hret (hb hby d13_62) hr
 ·
  show Q49 Z o1 o2 o3 o5 kc4 h0 n0 _ T29.heap _
  rw [e29]
  exact ⟨rfl, N29, KL, f30, f31, f32, Fw29, f33, f34, f35, f36, f37⟩
def l486_0 (o1 : Addr) (q2 : Int64) : Array Slot := #[.val (.ref o1), .val (.long q2), .second, .val (.int 2)]
def l486_1 (o1 : Addr) (q2 : Int64) : Array Slot := #[.val (.ref o1), .val (.long q2), .second, .val (.int 3)]
def l486_2 (o1 : Addr) (q2 : Int64) : Array Slot := #[.val (.ref o1), .val (.long q2), .second, .val (.int 4)]
theorem ef50 (m : MethodId) (x0 : Addr) (x1 : Int64) : entryFrame m #[(.ref x0), (.long x1)] 4 = mkF m 0 #[.val (.ref x0), .val (.long x1), .second, .unset] [] := by first | (simp [entryFrame, mkF, argsToLocals, Value.category]; done) | rfl
def Q50 (Z : State) (w1 : Addr) (kw1 : ClassId) (o1 o6 : Addr) (o8 o9 : Addr) (kc7 : ClassId) (p3 p4 p5 : Int32) (q2 : Int64) (h0 : Heap) (n0 : Nat) (v : Option Value) (h : Heap) (L : List Loc) : Prop :=
  (v = none ∧ Fr n0 L ∧ Keep h0 h [o8, o9, o1] ∧ (Exa Z h o8 cn6) ∧ (Fld Z h o8 cn6 "removed" "J" (.long q2)) ∧ (Exa Z h o9 cn6) ∧ (Fld Z h o9 cn6 "removed" "J" (.long q2)) ∧ (Exa Z h o1 cn7) ∧ (Fld Z h o1 cn7 "addsFirst" "Z" (.int 0)) ∧ (Fld Z h o1 cn7 "end" "I" (.int 0)) ∧ (Fld Z h o1 cn7 "first" "I" (.int 0)) ∧ (Fld Z h o1 cn7 "low" "I" (.int 0)) ∧ (Fld Z h o1 cn7 "removed" "I" (.int 0)) ∧ (Fld Z h o1 cn7 "slots" cn3 (.ref w1)))
set_option maxRecDepth 65536 in
set_option maxHeartbeats 40000000 in
theorem rm50 (l : Launch) (Z : State) (a0 : Array Value) (hw : HW a0 Z) (w1 : Addr) (kw1 : ClassId) (G : GW Z w1 kw1) (ws : List Jvm.Cond) (o1 o6 : Addr) (o8 o9 : Addr) (kc7 : ClassId) (p3 p4 p5 : Int32) (q2 : Int64) (h0 : Heap) (n0 : Nat) (O0 : Old Z n0 h0) (g_o1 : n0 ≤ o1) (g_o6 : n0 ≤ o6) (g_o8 : n0 ≤ o8) (g_o9 : n0 ≤ o9) (ne_o9_o8 : o9 ≠ o8) (Ov_kc7 : Ovr Z kc7 cn6) (P0 : Exa Z h0 o1 cn7) (P1 : Fld Z h0 o1 cn7 "addsFirst" "Z" (.int p3)) (P2 : Fld Z h0 o1 cn7 "end" "I" (.int 4)) (P3 : Fld Z h0 o1 cn7 "first" "I" (.int 2)) (P4 : Fld Z h0 o1 cn7 "low" "I" (.int p4)) (P5 : Fld Z h0 o1 cn7 "removed" "I" (.int p5)) (P6 : Fld Z h0 o1 cn7 "slots" cn3 (.ref o6)) (P7 : Arv Z h0 o6 kc7 (.object cn6) (8 : Int32) [.null, .null, (.ref o8), (.ref o9), .null, .null, .null, .null] .null) (P8 : Exa Z h0 o6 cn3) (P9 : Exa Z h0 o8 cn6) (P10 : Fld Z h0 o8 cn6 "removed" "J" (.long 9223372036854775807)) (P11 : Exa Z h0 o9 cn6) (P12 : Fld Z h0 o9 cn6 "removed" "J" (.long 9223372036854775807)) :
    MF l yn2 prog_41_method_9_code 4 none ws ({ frames := 1, cells := 0, slots := 0, locals := 14 } : Room) #[(.ref o1), (.long q2)] Z h0 (Q50 Z w1 kw1 o1 o6 o8 o9 kc7 p3 p4 p5 q2 h0 n0) := by
 obtain ⟨S_w1, A_w1⟩ := id G
 refine MetFree.of_bodySF (plainFor_of_name pn1) hisR ?_
 intro p e s m args below meth c s₁ Bd hml hP hK
 obtain ⟨rfl, hZ, hh⟩ := hP
 obtain ⟨hx, hby, hown, hret, hlk, X0, e0, N0⟩ := own_bd Bd hh n0
 have pre0 := own_ct s₁ (p := p) (e := e) (below := below) (ef50 m o1 q2)
 obtain ⟨T1, X1, e1, st1⟩ := yag X0 hx hZ hown hby (w_47 hw) e0 P3 0 #[.val (.ref o1), .val (.long q2), .second, .unset] [] d2_0 d2_1 rfl
 obtain ⟨T2, X2, e2, st2⟩ := yag X1 hx hZ hown hby (w_49 hw) e1 P2 6 (l486_0 o1 q2) [(.int 2)] d2_6 d2_7 rfl
 obtain ⟨T3, X3, e3, st3⟩ := yag X2 hx hZ hown hby (w_40 hw) e2 P6 13 (l486_0 o1 q2) [] d2_13 d2_14 rfl
 obtain ⟨cl4, Ar4, qa4, Sa4, Na4, Ha4, Ga4⟩ := id (P7)
 have hin4 := inb_of (j := (2 : Int32)) Sa4 ⟨by decide, by decide⟩
 have hat4 : cl4.slots[((2 : Int32)).toNatClampNeg]? = some (.ref o8) := Has.at Ha4 hin4 rfl
 obtain ⟨_, T5, L5, X5, hQ5, st5⟩ := yv X3 hx hZ hown hby hml (y := yn7) (w_113 hw) (w_82 hw) (w_84 hw) (w_83 hw) (w_85 hw) (w_5 hw) e3 P9 [] [] (rm17 l Z a0 hw [] o8 ((9223372036854775807 : Int64)) h0 n0 O0 g_o8 (by decide : (9223372036854775807 : Int64) = (9223372036854775807 : Int64)) P10) 19 (l486_0 o1 q2) rfl d2_19 (lenOf pd5 rfl) 0 0 0
 obtain ⟨rfl, Nq6, e7⟩ := hQ5
 have N5 := Fr.app N0 Nq6
 obtain ⟨T8, X8, e8, st8⟩ := yag X5 hx hZ hown hby (w_40 hw) e7 P6 25 (l486_0 o1 q2) [] d2_25 d2_26 rfl
 obtain ⟨cl9, Ar9, qa9, Sa9, Na9, Ha9, Ga9⟩ := id (P7)
 have hin9 := inb_of (j := (2 : Int32)) Sa9 ⟨by decide, by decide⟩
 have hat9 : cl9.slots[((2 : Int32)).toNatClampNeg]? = some (.ref o8) := Has.at Ha9 hin9 rfl
 obtain ⟨_, T10, L10, X10, hQ10, st10⟩ := yv X8 hx hZ hown hby hml (y := yn14) (w_114 hw) (w_115 hw) (own_w hw 117 rfl) (w_116 hw) (w_118 hw) (w_5 hw) e8 P9 [(.long q2)] [] (rm18 l Z a0 hw [] o8 q2 h0 n0 O0 g_o8 P9 P10) 32 (l486_0 o1 q2) rfl d2_32 (lenOf pd2 rfl) 0 0 0
 obtain ⟨rfl, Nq11, K12, f13, f14⟩ := hQ10
 have N10 := Fr.app N5 Nq11
 have O10 := Old.keep O0 K12 (allS g_o8 all0)
 have f15 := (P0.keep K12)
 have ne16 : o1 ≠ o8 := ne_exa f15 f13 (by decide)
 have f17 := (P2.keep K12 (ninS ne16 nin0))
 obtain ⟨T18, X18, e18, st18⟩ := yag X10 hx hZ hown hby (w_49 hw) rfl f17 6 (l486_1 o1 q2) [(.int 3)] d2_6 d2_7 rfl
 have f19 := (P6.keep K12 (ninS ne16 nin0))
 obtain ⟨T20, X20, e20, st20⟩ := yag X18 hx hZ hown hby (w_40 hw) e18 f19 13 (l486_1 o1 q2) [] d2_13 d2_14 rfl
 have f21 := (P8.keep K12)
 have ne22 : o6 ≠ o8 := ne_exa f21 f13 (by decide)
 have f23 := (P7.keep K12 (ninS ne22 nin0))
 obtain ⟨cl24, Ar24, qa24, Sa24, Na24, Ha24, Ga24⟩ := id (f23)
 have hin24 := inb_of (j := (3 : Int32)) Sa24 ⟨by decide, by decide⟩
 have hat24 : cl24.slots[((3 : Int32)).toNatClampNeg]? = some (.ref o9) := Has.at Ha24 hin24 rfl
 have f25 := (P12.keep K12 (ninS ne_o9_o8 nin0))
 have f26 := (P11.keep K12)
 obtain ⟨_, T27, L27, X27, hQ27, st27⟩ := yv X20 hx hZ hown hby hml (y := yn7) (w_113 hw) (w_82 hw) (w_84 hw) (w_83 hw) (w_85 hw) (w_5 hw) e20 f26 [] [] (rm17 l Z a0 hw [] o9 ((9223372036854775807 : Int64)) T10.heap n0 O10 g_o9 (by decide : (9223372036854775807 : Int64) = (9223372036854775807 : Int64)) f25) 19 (l486_1 o1 q2) rfl d2_19 (lenOf pd5 rfl) 0 0 0
 obtain ⟨rfl, Nq28, e29⟩ := hQ27
 have N27 := Fr.app N10 Nq28
 obtain ⟨T30, X30, e30, st30⟩ := yag X27 hx hZ hown hby (w_40 hw) e29 f19 25 (l486_1 o1 q2) [] d2_25 d2_26 rfl
 obtain ⟨cl31, Ar31, qa31, Sa31, Na31, Ha31, Ga31⟩ := id (f23)
 have hin31 := inb_of (j := (3 : Int32)) Sa31 ⟨by decide, by decide⟩
 have hat31 : cl31.slots[((3 : Int32)).toNatClampNeg]? = some (.ref o9) := Has.at Ha31 hin31 rfl
 obtain ⟨_, T32, L32, X32, hQ32, st32⟩ := yv X30 hx hZ hown hby hml (y := yn14) (w_114 hw) (w_115 hw) (own_w hw 117 rfl) (w_116 hw) (w_118 hw) (w_5 hw) e30 f26 [(.long q2)] [] (rm18 l Z a0 hw [] o9 q2 T10.heap n0 O10 g_o9 f26 f25) 32 (l486_1 o1 q2) rfl d2_32 (lenOf pd2 rfl) 0 0 0
 obtain ⟨rfl, Nq33, K34, f35, f36⟩ := hQ32
 have N32 := Fr.app N27 Nq33
 have O32 := Old.keep O10 K34 (allS g_o9 all0)
 have f37 := (f15.keep K34)
 have ne38 : o1 ≠ o9 := ne_exa f37 f35 (by decide)
 have f39 := (f17.keep K34 (ninS ne38 nin0))
 obtain ⟨T40, X40, e40, st40⟩ := yag X32 hx hZ hown hby (w_49 hw) rfl f39 6 (l486_2 o1 q2) [(.int 4)] d2_6 d2_7 rfl
 obtain ⟨T41, X41, e41, st41⟩ := getS2 X40 hx hZ hown (host := "") (Or.inl (own_w hw 38 rfl)) Via.refl e40 (S_w1.ext O32.2) (g := (mkF m 42 (l486_2 o1 q2) [(.ref o1)])) rfl (hb hby d2_42)
 have f42 := (f19.keep K34 (ninS ne38 nin0))
 obtain ⟨T43, h43, X43, e43, W43, st43⟩ := yp X41 hx hZ hown hby (w_40 hw) e41 f42 f37 (w_41 hw) (w_32 hw) (ty := (.array (.object cn6))) (v := (.ref w1)) (by decide) rfl rfl 45 (l486_2 o1 q2) [] d2_45
 have N43 := Fr.snoc X43 N32 g_o1
 have Fw43 := f42.same W43
 have f44 := (((P4.keep K12 (ninS ne16 nin0)).keep K34 (ninS ne38 nin0)).other W43 (Or.inr (sn47 hw)))
 have f45 := (f37.wr W43)
 obtain ⟨T46, h46, X46, e46, W46, st46⟩ := yp X43 hx hZ hown hby (w_51 hw) e43 f44 f45 (w_52 hw) (w_32 hw) (ty := .int) (v := (.int 0)) (by decide) rfl rfl 50 (l486_2 o1 q2) [] d2_50
 have N46 := Fr.snoc X46 N43 g_o1
 have Fw46 := f44.same W46
 have f47 := ((((P3.keep K12 (ninS ne16 nin0)).keep K34 (ninS ne38 nin0)).other W43 (Or.inr (sn46 hw))).other W46 (Or.inr (sn49 hw)))
 have f48 := (f45.wr W46)
 obtain ⟨T49, h49, X49, e49, W49, st49⟩ := yp X46 hx hZ hown hby (w_47 hw) e46 f47 f48 (w_48 hw) (w_32 hw) (ty := .int) (v := (.int 0)) (by decide) rfl rfl 55 (l486_2 o1 q2) [] d2_55
 have N49 := Fr.snoc X49 N46 g_o1
 have Fw49 := f47.same W49
 have f50 := (((f39.other W43 (Or.inr (sn45 hw))).other W46 (Or.inr (sn50 hw))).other W49 (Or.inr (sn51 hw)))
 have f51 := (f48.wr W49)
 obtain ⟨T52, h52, X52, e52, W52, st52⟩ := yp X49 hx hZ hown hby (w_49 hw) e49 f50 f51 (w_50 hw) (w_32 hw) (ty := .int) (v := (.int 0)) (by decide) rfl rfl 60 (l486_2 o1 q2) [] d2_60
 have N52 := Fr.snoc X52 N49 g_o1
 have Fw52 := f50.same W52
 have f53 := ((((((P5.keep K12 (ninS ne16 nin0)).keep K34 (ninS ne38 nin0)).other W43 (Or.inr (sn48 hw))).other W46 (Or.inr (sn52 hw))).other W49 (Or.inr (sn53 hw))).other W52 (Or.inr (sn54 hw)))
 have f54 := (f51.wr W52)
 obtain ⟨T55, h55, X55, e55, W55, st55⟩ := yp X52 hx hZ hown hby (w_53 hw) e52 f53 f54 (w_54 hw) (w_32 hw) (ty := .int) (v := (.int 0)) (by decide) rfl rfl 65 (l486_2 o1 q2) [] d2_65
 have N55 := Fr.snoc X55 N52 g_o1
 have Fw55 := f53.same W55
 have f56 := (((((((P1.keep K12 (ninS ne16 nin0)).keep K34 (ninS ne38 nin0)).other W43 (Or.inr (sn44 hw))).other W46 (Or.inr (sn55 hw))).other W49 (Or.inr (sn56 hw))).other W52 (Or.inr (sn57 hw))).other W55 (Or.inr (sn58 hw)))
 have f57 := (f54.wr W55)
 obtain ⟨T58, h58, X58, e58, W58, st58⟩ := putFN X55 hx hZ hown (own_w hw 55 rfl) Via.refl e55 f56 f57 (Or.inl (w_56 hw)) (w_32 hw) (ty := .boolean) (v' := (.int 0)) (by decide) rfl (by decide) (g := (mkF m 70 (l486_2 o1 q2) [(.int 0), (.ref o1)])) rfl rfl (hb hby d2_70)
 have N58 := Fr.snoc X58 N55 g_o1
 have Fw58 := f56.same W58
 obtain ⟨fs, hr, hrun, hended, hW, hsame⟩ := X58.leave (v := none) (fun _ => rfl)
 have KL : Keep h0 h58 [o8, o9, o1] := (((((((((Keep.refl h0 [o8, o9, o1]).trans K12 (allS (Or.inl (List.mem_of_getElem? (i := 0) rfl)) all0)).trans K34 (allS (Or.inl (List.mem_of_getElem? (i := 1) rfl)) all0)).wr W43 (Or.inl (List.mem_of_getElem? (i := 2) rfl))).wr W46 (Or.inl (List.mem_of_getElem? (i := 2) rfl))).wr W49 (Or.inl (List.mem_of_getElem? (i := 2) rfl))).wr W52 (Or.inl (List.mem_of_getElem? (i := 2) rfl))).wr W55 (Or.inl (List.mem_of_getElem? (i := 2) rfl))).wr W58 (Or.inl (List.mem_of_getElem? (i := 2) rfl)))
 have f59 := (((((((f13.keep K34).wr W43).wr W46).wr W49).wr W52).wr W55).wr W58)
 have f60 := (((((((f14.keep K34 (ninS (Ne.symm ne_o9_o8) nin0)).other W43 (Or.inl (Ne.symm ne16))).other W46 (Or.inl (Ne.symm ne16))).other W49 (Or.inl (Ne.symm ne16))).other W52 (Or.inl (Ne.symm ne16))).other W55 (Or.inl (Ne.symm ne16))).other W58 (Or.inl (Ne.symm ne16)))
 have f61 := ((((((f35.wr W43).wr W46).wr W49).wr W52).wr W55).wr W58)
 have f62 := ((((((f36.other W43 (Or.inl (Ne.symm ne38))).other W46 (Or.inl (Ne.symm ne38))).other W49 (Or.inl (Ne.symm ne38))).other W52 (Or.inl (Ne.symm ne38))).other W55 (Or.inl (Ne.symm ne38))).other W58 (Or.inl (Ne.symm ne38)))
 have f63 := (f57.wr W58)
 have f64 := ((Fw52.other W55 (Or.inr (sn59 hw))).other W58 (Or.inr (sn60 hw)))
 have f65 := (((Fw49.other W52 (Or.inr (sn61 hw))).other W55 (Or.inr (sn62 hw))).other W58 (Or.inr (sn63 hw)))
 have f66 := ((((Fw46.other W49 (Or.inr (sn64 hw))).other W52 (Or.inr (sn65 hw))).other W55 (Or.inr (sn66 hw))).other W58 (Or.inr (sn67 hw)))
 have f67 := (Fw55.other W58 (Or.inr (sn68 hw)))
 have f68 := (((((Fw43.other W46 (Or.inr (sn69 hw))).other W49 (Or.inr (sn70 hw))).other W52 (Or.inr (sn71 hw))).other W55 (Or.inr (sn72 hw))).other W58 (Or.inr (sn73 hw)))
 refine ⟨_, _, pre0 _ ?_, hrun, hended, _, _, rfl, ?_, ⟨_, rfl⟩, hW, hsame.mono (by decide) (by decide)⟩
 ·
  refine st1 _ ?_
  refine yit X1 hx hby d2_4 (l' := (l486_0 o1 q2)) rfl ?_
  refine yin X1 hx hby d2_5 rfl ?_
  refine st2 _ ?_
  refine yno X2 hx hby d2_10 (tlt (by decide : (2 : Int32) < (4 : Int32))).2.1 ?_
  refine st3 _ ?_
  refine yin X3 hx hby d2_17 rfl ?_
  refine X3.aaload hx (j := (2 : Int32)) (v := (.ref o8)) (by rw [e3]; exact Ar4.1) (State.isArrayOf_alike hZ.alike Ar4.2.1) rfl Ar4.2.2 hin4 hat4 (g := (mkF m 18 (l486_0 o1 q2) [(.int 2), (.ref o6)])) rfl rfl (hb hby d2_18) _ ?_
  refine st5 _ ?_
  refine yfn X5 hx hby d2_22 ((if0 _ _).trans (feq (by decide : ¬ ((1 : Int32) = (0 : Int32)))).1) ?_
  refine st8 _ ?_
  refine yin X8 hx hby d2_29 rfl ?_
  refine X8.aaload hx (j := (2 : Int32)) (v := (.ref o8)) (by rw [e8]; exact Ar9.1) (State.isArrayOf_alike hZ.alike Ar9.2.1) rfl Ar9.2.2 hin9 hat9 (g := (mkF m 30 (l486_0 o1 q2) [(.int 2), (.ref o6)])) rfl rfl (hb hby d2_30) _ ?_
  refine XS.lloadN X8.here hx rfl (hb hby d2_31) rfl ?_
  refine st10 _ ?_
  refine XS.iinc X10.here hx rfl (hb hby d2_35) rfl (l' := (l486_1 o1 q2)) rfl ?_
  refine ygo X10 hx hby 38 5 rfl d2_38 (by decide) ?_
  refine yin X10 hx hby d2_5 rfl ?_
  refine st18 _ ?_
  refine yno X18 hx hby d2_10 (tlt (by decide : (3 : Int32) < (4 : Int32))).2.1 ?_
  refine st20 _ ?_
  refine yin X20 hx hby d2_17 rfl ?_
  refine X20.aaload hx (j := (3 : Int32)) (v := (.ref o9)) (by rw [e20]; exact Ar24.1) (State.isArrayOf_alike hZ.alike Ar24.2.1) rfl Ar24.2.2 hin24 hat24 (g := (mkF m 18 (l486_1 o1 q2) [(.int 3), (.ref o6)])) rfl rfl (hb hby d2_18) _ ?_
  refine st27 _ ?_
  refine yfn X27 hx hby d2_22 ((if0 _ _).trans (feq (by decide : ¬ ((1 : Int32) = (0 : Int32)))).1) ?_
  refine st30 _ ?_
  refine yin X30 hx hby d2_29 rfl ?_
  refine X30.aaload hx (j := (3 : Int32)) (v := (.ref o9)) (by rw [e30]; exact Ar31.1) (State.isArrayOf_alike hZ.alike Ar31.2.1) rfl Ar31.2.2 hin31 hat31 (g := (mkF m 30 (l486_1 o1 q2) [(.int 3), (.ref o6)])) rfl rfl (hb hby d2_30) _ ?_
  refine XS.lloadN X30.here hx rfl (hb hby d2_31) rfl ?_
  refine st32 _ ?_
  refine XS.iinc X32.here hx rfl (hb hby d2_35) rfl (l' := (l486_2 o1 q2)) rfl ?_
  refine ygo X32 hx hby 38 5 rfl d2_38 (by decide) ?_
  refine yin X32 hx hby d2_5 rfl ?_
  refine st40 _ ?_
  refine yye X40 hx hby 10 41 rfl d2_10 (flt (by decide : ¬ ((4 : Int32) < (4 : Int32)))).2.1 (by decide) ?_
  refine yan X40 hx hby d2_41 rfl rfl ?_
  refine st41 _ ?_
  refine st43 _ ?_
  refine yan X43 hx hby d2_48 rfl rfl ?_
  refine yic X43 hx hby d2_49 ?_
  refine st46 _ ?_
  refine yan X46 hx hby d2_53 rfl rfl ?_
  refine yic X46 hx hby d2_54 ?_
  refine st49 _ ?_
  refine yan X49 hx hby d2_58 rfl rfl ?_
  refine yic X49 hx hby d2_59 ?_
  refine st52 _ ?_
  refine yan X52 hx hby d2_63 rfl rfl ?_
  refine yic X52 hx hby d2_64 ?_
  refine st55 _ ?_
  refine yan X55 hx hby d2_68 rfl rfl ?_
  refine yic X55 hx hby d2_69 ?_
  refine st58 _ ?_
  show Steps p.tables e below (T58.setTop (mkF m 73 (l486_2 o1 q2) [])) _
  exact X58.returnOut hx hret (hb hby d2_73) hr
 ·
  show Q50 Z w1 kw1 o1 o6 o8 o9 kc7 p3 p4 p5 q2 h0 n0 _ T58.heap _
  rw [e58]
  exact ⟨rfl, N58, KL, f59, f60, f61, f62, f63, Fw58, f64, f65, f66, f67, f68⟩
def l487_0 (o1 o2 : Addr) (q3 : Int64) : Array Slot := #[.val (.ref o1), .val (.ref o2), .val (.long q3), .second]
theorem ef51 (m : MethodId) (x0 x1 : Addr) (x2 : Int64) : entryFrame m #[(.ref x0), (.ref x1), (.long x2)] 4 = mkF m 0 #[.val (.ref x0), .val (.ref x1), .val (.long x2), .second] [] := by first | (simp [entryFrame, mkF, argsToLocals, Value.category]; done) | rfl
def Q51 (Z : State) (o1 o2 : Addr) (o4 o6 : Addr) (kc5 : ClassId) (q3 : Int64) (h0 : Heap) (n0 : Nat) (v : Option Value) (h : Heap) (L : List Loc) : Prop :=
  (v = none ∧ Fr n0 L ∧ Keep h0 h [o2, o1] ∧ (Exa Z h o2 cn6) ∧ (Fld Z h o2 cn6 "removed" "J" (.long q3)) ∧ (Exa Z h o1 cn7) ∧ (Fld Z h o1 cn7 "addsFirst" "Z" (.int 1)) ∧ (Fld Z h o1 cn7 "end" "I" (.int 4)) ∧ (Fld Z h o1 cn7 "first" "I" (.int 3)) ∧ (Fld Z h o1 cn7 "low" "I" (.int 2)) ∧ (Fld Z h o1 cn7 "removed" "I" (.int 0)) ∧ (Fld Z h o1 cn7 "slots" cn3 (.ref o4)))
set_option maxRecDepth 65536 in
set_option maxHeartbeats 40000000 in
theorem rm51 (l : Launch) (Z : State) (a0 : Array Value) (hw : HW a0 Z) (ws : List Jvm.Cond) (o1 o2 : Addr) (o4 o6 : Addr) (kc5 : ClassId) (q3 : Int64) (h0 : Heap) (n0 : Nat) (O0 : Old Z n0 h0) (g_o1 : n0 ≤ o1) (g_o2 : n0 ≤ o2) (g_o4 : n0 ≤ o4) (g_o6 : n0 ≤ o6) (ne_o6_o2 : o6 ≠ o2) (Ov_kc5 : Ovr Z kc5 cn6) (hp0 : ¬ (q3 = (9223372036854775807 : Int64))) (P0 : Exa Z h0 o1 cn7) (P1 : Fld Z h0 o1 cn7 "addsFirst" "Z" (.int 1)) (P2 : Fld Z h0 o1 cn7 "end" "I" (.int 4)) (P3 : Fld Z h0 o1 cn7 "first" "I" (.int 2)) (P4 : Fld Z h0 o1 cn7 "low" "I" (.int 2)) (P5 : Fld Z h0 o1 cn7 "removed" "I" (.int 0)) (P6 : Fld Z h0 o1 cn7 "slots" cn3 (.ref o4)) (P7 : Exa Z h0 o2 cn6) (P8 : Fld Z h0 o2 cn6 "removed" "J" (.long 9223372036854775807)) (P9 : Arv Z h0 o4 kc5 (.object cn6) (8 : Int32) [.null, .null, (.ref o2), (.ref o6), .null, .null, .null, .null] .null) (P10 : Exa Z h0 o4 cn3) (P11 : Exa Z h0 o6 cn6) (P12 : Fld Z h0 o6 cn6 "removed" "J" (.long 9223372036854775807)) :
    MF l yn15 prog_41_method_8_code 4 none ws ({ frames := 1, cells := 0, slots := 0, locals := 14 } : Room) #[(.ref o1), (.ref o2), (.long q3)] Z h0 (Q51 Z o1 o2 o4 o6 kc5 q3 h0 n0) := by
 refine MetFree.of_bodySF (plainFor_of_name pn1) hisR ?_
 intro p e s m args below meth c s₁ Bd hml hP hK
 obtain ⟨rfl, hZ, hh⟩ := hP
 obtain ⟨hx, hby, hown, hret, hlk, X0, e0, N0⟩ := own_bd Bd hh n0
 have pre0 := own_ct s₁ (p := p) (e := e) (below := below) (ef51 m o1 o2 q3)
 revert pre0
 generalize s₁.setTop (entryFrame m #[(.ref o1), (.ref o2), (.long q3)] 4) = E0
 intro pre0
 obtain ⟨_, T1, L1, X1, hQ1, st1⟩ := yv X0 hx hZ hown hby hml (y := yn14) (w_114 hw) (w_115 hw) (own_w hw 117 rfl) (w_116 hw) (w_118 hw) (w_5 hw) e0 P7 [(.long q3)] [] (rm20 l Z a0 hw [] o2 q3 h0 n0 O0 g_o2 hp0 P7 P8) 2 (l487_0 o1 o2 q3) rfl d15_2 (lenOf pd2 rfl) 0 0 0
 obtain ⟨rfl, Nq2, K3, f4, f5⟩ := hQ1
 have N1 := Fr.app N0 Nq2
 have O1 := Old.keep O0 K3 (allS g_o2 all0)
 have f6 := (P0.keep K3)
 have ne7 : o1 ≠ o2 := ne_exa f6 f4 (by decide)
 have f8 := (P5.keep K3 (ninS ne7 nin0))
 obtain ⟨T9, X9, e9, st9⟩ := yg X1 hx hZ hown hby (w_53 hw) rfl f8 7 (l487_0 o1 o2 q3) [(.ref o1)] d15_7
 obtain ⟨T10, h10, X10, e10, W10, st10⟩ := yp X9 hx hZ hown hby (w_53 hw) e9 f8 f6 (w_54 hw) (w_32 hw) (ty := .int) (v := (.int 1)) (by decide) rfl rfl 12 (l487_0 o1 o2 q3) [] d15_12
 have N10 := Fr.snoc X10 N1 g_o1
 have Fw10 := f8.same W10
 have O10 := Old.wr O1 W10 g_o1
 have f11 := ((P3.keep K3 (ninS ne7 nin0)).other W10 (Or.inr (sn62 hw)))
 obtain ⟨T12, X12, e12, st12⟩ := yag X10 hx hZ hown hby (w_47 hw) e10 f11 15 (l487_0 o1 o2 q3) [] d15_15 d15_16 rfl
 have f13 := ((P2.keep K3 (ninS ne7 nin0)).other W10 (Or.inr (sn59 hw)))
 obtain ⟨T14, X14, e14, st14⟩ := yag X12 hx hZ hown hby (w_49 hw) e12 f13 19 (l487_0 o1 o2 q3) [(.int 2)] d15_19 d15_20 rfl
 have f15 := ((P6.keep K3 (ninS ne7 nin0)).other W10 (Or.inr (sn72 hw)))
 obtain ⟨T16, X16, e16, st16⟩ := yag X14 hx hZ hown hby (w_40 hw) e14 f15 26 (l487_0 o1 o2 q3) [] d15_26 d15_27 rfl
 obtain ⟨T17, X17, e17, st17⟩ := yag X16 hx hZ hown hby (w_47 hw) e16 f11 30 (l487_0 o1 o2 q3) [(.ref o4)] d15_30 d15_31 rfl
 have f18 := ((P10.keep K3).wr W10)
 have f19 := (f4.wr W10)
 have ne20 : o4 ≠ o2 := ne_exa f18 f19 (by decide)
 have f21 := (f6.wr W10)
 have ne22 : o4 ≠ o1 := ne_exa f18 f21 (by decide)
 have f23 := ((P9.keep K3 (ninS ne20 nin0)).other W10 ne22)
 obtain ⟨cl24, Ar24, qa24, Sa24, Na24, Ha24, Ga24⟩ := id (f23)
 have hin24 := inb_of (j := (2 : Int32)) Sa24 ⟨by decide, by decide⟩
 have hat24 : cl24.slots[((2 : Int32)).toNatClampNeg]? = some (.ref o2) := Has.at Ha24 hin24 rfl
 have f25 := (f5.other W10 (Or.inl (Ne.symm ne7)))
 obtain ⟨_, T26, L26, X26, hQ26, st26⟩ := yv X17 hx hZ hown hby hml (y := yn7) (w_113 hw) (w_82 hw) (w_84 hw) (w_83 hw) (w_85 hw) (w_5 hw) e17 f19 [] [] (rm21 l Z a0 hw [] o2 q3 h10 n0 O10 g_o2 hp0 f25) 35 (l487_0 o1 o2 q3) rfl d15_35 (lenOf pd5 rfl) 0 0 0
 obtain ⟨rfl, Nq27, e28⟩ := hQ26
 have N26 := Fr.app N10 Nq27
 obtain ⟨T29, X29, e29, st29⟩ := yg X26 hx hZ hown hby (w_47 hw) e28 f11 43 (l487_0 o1 o2 q3) [(.ref o1)] d15_43
 obtain ⟨T30, h30, X30, e30, W30, st30⟩ := yp X29 hx hZ hown hby (w_47 hw) e29 f11 f21 (w_48 hw) (w_32 hw) (ty := .int) (v := (.int 3)) (by decide) rfl rfl 48 (l487_0 o1 o2 q3) [] d15_48
 have N30 := Fr.snoc X30 N26 g_o1
 have Fw30 := f11.same W30
 have O30 := Old.wr O10 W30 g_o1
 have f31 := (Fw10.other W30 (Or.inr (sn53 hw)))
 obtain ⟨T32, X32, e32, st32⟩ := yg X30 hx hZ hown hby (w_53 hw) e30 f31 53 (l487_0 o1 o2 q3) [(.ref o1)] d15_53
 have f33 := (f21.wr W30)
 obtain ⟨T34, h34, X34, e34, W34, st34⟩ := yp X32 hx hZ hown hby (w_53 hw) e32 f31 f33 (w_54 hw) (w_32 hw) (ty := .int) (v := (.int 0)) (by decide) rfl rfl 58 (l487_0 o1 o2 q3) [] d15_58
 have N34 := Fr.snoc X34 N30 g_o1
 have Fw34 := f31.same W34
 have O34 := Old.wr O30 W34 g_o1
 have f35 := (Fw30.other W34 (Or.inr (sn62 hw)))
 obtain ⟨T36, X36, e36, st36⟩ := yag X34 hx hZ hown hby (w_47 hw) e34 f35 15 (l487_0 o1 o2 q3) [] d15_15 d15_16 rfl
 have f37 := ((f13.other W30 (Or.inr (sn51 hw))).other W34 (Or.inr (sn59 hw)))
 obtain ⟨T38, X38, e38, st38⟩ := yag X36 hx hZ hown hby (w_49 hw) e36 f37 19 (l487_0 o1 o2 q3) [(.int 3)] d15_19 d15_20 rfl
 have f39 := ((f15.other W30 (Or.inr (sn70 hw))).other W34 (Or.inr (sn72 hw)))
 obtain ⟨T40, X40, e40, st40⟩ := yag X38 hx hZ hown hby (w_40 hw) e38 f39 26 (l487_0 o1 o2 q3) [] d15_26 d15_27 rfl
 obtain ⟨T41, X41, e41, st41⟩ := yag X40 hx hZ hown hby (w_47 hw) e40 f35 30 (l487_0 o1 o2 q3) [(.ref o4)] d15_30 d15_31 rfl
 have f42 := ((f23.other W30 ne22).other W34 ne22)
 obtain ⟨cl43, Ar43, qa43, Sa43, Na43, Ha43, Ga43⟩ := id (f42)
 have hin43 := inb_of (j := (3 : Int32)) Sa43 ⟨by decide, by decide⟩
 have hat43 : cl43.slots[((3 : Int32)).toNatClampNeg]? = some (.ref o6) := Has.at Ha43 hin43 rfl
 have f44 := ((((P11.keep K3).wr W10).wr W30).wr W34)
 have f45 := (f33.wr W34)
 have ne46 : o6 ≠ o1 := ne_exa f44 f45 (by decide)
 have f47 := ((((P12.keep K3 (ninS ne_o6_o2 nin0)).other W10 (Or.inl ne46)).other W30 (Or.inl ne46)).other W34 (Or.inl ne46))
 obtain ⟨_, T48, L48, X48, hQ48, st48⟩ := yv X41 hx hZ hown hby hml (y := yn7) (w_113 hw) (w_82 hw) (w_84 hw) (w_83 hw) (w_85 hw) (w_5 hw) e41 f44 [] [] (rm17 l Z a0 hw [] o6 ((9223372036854775807 : Int64)) h34 n0 O34 g_o6 (by decide : (9223372036854775807 : Int64) = (9223372036854775807 : Int64)) f47) 35 (l487_0 o1 o2 q3) rfl d15_35 (lenOf pd5 rfl) 0 0 0
 obtain ⟨rfl, Nq49, e50⟩ := hQ48
 have N48 := Fr.app N34 Nq49
 obtain ⟨T51, X51, e51, st51⟩ := yag X48 hx hZ hown hby (w_47 hw) e50 f35 64 (l487_0 o1 o2 q3) [] d15_64 d15_65 rfl
 have f52 := ((((P4.keep K3 (ninS ne7 nin0)).other W10 (Or.inr (sn66 hw))).other W30 (Or.inr (sn64 hw))).other W34 (Or.inr (sn66 hw)))
 obtain ⟨T53, X53, e53, st53⟩ := yag X51 hx hZ hown hby (w_51 hw) e51 f52 68 (l487_0 o1 o2 q3) [(.int 3)] d15_68 d15_69 rfl
 obtain ⟨T54, X54, e54, st54⟩ := yag X53 hx hZ hown hby (w_53 hw) e53 Fw34 73 (l487_0 o1 o2 q3) [(.int 1)] d15_73 d15_74 rfl
 obtain ⟨_, T55, L55, X55, hQ55, st55⟩ := yv X54 hx hZ hown hby hml (y := yn3) (own_w hw 100 rfl) (w_58 hw) (own_w hw 60 rfl) (w_59 hw) (own_w hw 61 rfl) (w_33 hw) e54 f45 [] [(.int 1)] (rm4 l Z a0 hw [] o1 ((4 : Int32)) ((3 : Int32)) ((0 : Int32)) h34 n0 O34 g_o1 f37 f35 Fw34) 79 (l487_0 o1 o2 q3) rfl d15_79 (lenOf pd3 rfl) 1 0 0
 obtain ⟨rfl, Nq56, e57⟩ := hQ55
 have N55 := Fr.app N48 Nq56
 obtain ⟨_, T58, L58, X58, hQ58, st58⟩ := own_cs X55 hx hZ hown (y := yn10) (own_w hw 101 rfl) (own_w hw 102 rfl) (own_w hw 104 rfl) (w_103 hw) e57 (argsL := [(.int (((4 : Int32) - (3 : Int32)) - (0 : Int32))), (.int 4)]) (rest := [(.int 1)]) (rm11 l Z a0 hw [] ((((4 : Int32) - (3 : Int32)) - (0 : Int32))) ((4 : Int32)) h34 n0 O34 ) (g := (mkF m 83 (l487_0 o1 o2 q3) [(.int 4), (.int (((4 : Int32) - (3 : Int32)) - (0 : Int32))), (.int 1)])) rfl (by rw [hml]; rfl) rfl (hb hby d15_83) (lenOf pd8 rfl) (W := 1) (c1 := 0) (s1 := 0)
 have pre59 : Go p e below T55 (mkF m 83 (l487_0 o1 o2 q3) [(.int 4), (.int (((4 : Int32) - (3 : Int32)) - (0 : Int32))), (.int 1)]) E0 := fun t k => by
  refine pre0 _ ?_
  refine yan X0 hx hby d15_0 rfl rfl ?_
  refine XS.lloadN X0.here hx rfl (hb hby d15_1) rfl ?_
  refine st1 _ ?_
  refine yan X1 hx hby d15_5 rfl rfl ?_
  refine XS.dup X1.here hx rfl (hb hby d15_6) rfl rfl ?_
  refine st9 _ ?_
  refine yic X9 hx hby d15_10 ?_
  refine yad X9 hx hby d15_11 ?_
  refine st10 _ ?_
  refine st12 _ ?_
  refine st14 _ ?_
  refine yno X14 hx hby d15_23 (tlt (by decide : (2 : Int32) < (4 : Int32))).2.1 ?_
  refine st16 _ ?_
  refine st17 _ ?_
  refine X17.aaload hx (j := (2 : Int32)) (v := (.ref o2)) (by rw [e17]; exact Ar24.1) (State.isArrayOf_alike hZ.alike Ar24.2.1) rfl Ar24.2.2 hin24 hat24 (g := (mkF m 34 (l487_0 o1 o2 q3) [(.int 2), (.ref o4)])) rfl rfl (hb hby d15_34) _ ?_
  refine st26 _ ?_
  refine yfn X26 hx hby d15_38 ((if0 _ _).trans (teq (by decide : (0 : Int32) = (0 : Int32))).2) ?_
  refine yan X26 hx hby d15_41 rfl rfl ?_
  refine XS.dup X26.here hx rfl (hb hby d15_42) rfl rfl ?_
  refine st29 _ ?_
  refine yic X29 hx hby d15_46 ?_
  refine yad X29 hx hby d15_47 ?_
  refine st30 _ ?_
  refine yan X30 hx hby d15_51 rfl rfl ?_
  refine XS.dup X30.here hx rfl (hb hby d15_52) rfl rfl ?_
  refine st32 _ ?_
  refine yic X32 hx hby d15_56 ?_
  refine ysu X32 hx hby d15_57 ?_
  refine st34 _ ?_
  refine ygo X34 hx hby 61 15 rfl d15_61 (by decide) ?_
  refine st36 _ ?_
  refine st38 _ ?_
  refine yno X38 hx hby d15_23 (tlt (by decide : (3 : Int32) < (4 : Int32))).2.1 ?_
  show Steps p.tables e below (T38.setTop (mkF m 26 (l487_0 o1 o2 q3) [])) _
  refine st40 _ ?_
  refine st41 _ ?_
  refine X41.aaload hx (j := (3 : Int32)) (v := (.ref o6)) (by rw [e41]; exact Ar43.1) (State.isArrayOf_alike hZ.alike Ar43.2.1) rfl Ar43.2.2 hin43 hat43 (g := (mkF m 34 (l487_0 o1 o2 q3) [(.int 3), (.ref o4)])) rfl rfl (hb hby d15_34) _ ?_
  refine st48 _ ?_
  refine XS.ifYes X48.here hx rfl (pc0 := 38) (pc' := 64) rfl (hb hby d15_38) rfl ((if0 _ _).trans (feq (by decide : ¬ ((1 : Int32) = (0 : Int32)))).2) (by decide) (by decide) ?_
  refine st51 _ ?_
  refine st53 _ ?_
  refine ysu X53 hx hby d15_72 ?_
  refine st54 _ ?_
  refine yad X54 hx hby d15_77 ?_
  refine yan X54 hx hby d15_78 rfl rfl ?_
  refine st55 _ ?_
  refine yic X55 hx hby d15_82 ?_
  exact k
 rcases hQ58 with ⟨hc60, rfl, Nq61, e62⟩ | ⟨hc63, rfl, Nq64, e65⟩
 ·
  have N58 := Fr.app N55 Nq61
  obtain ⟨fs, hr, hrun, hended, hW, hsame⟩ := X58.leave (v := none) (fun _ => rfl)
  have KL : Keep h0 h34 [o2, o1] := (((((Keep.refl h0 [o2, o1]).trans K3 (allS (Or.inl (List.mem_of_getElem? (i := 0) rfl)) all0)).wr W10 (Or.inl (List.mem_of_getElem? (i := 1) rfl))).wr W30 (Or.inl (List.mem_of_getElem? (i := 1) rfl))).wr W34 (Or.inl (List.mem_of_getElem? (i := 1) rfl)))
  have f66 := ((f19.wr W30).wr W34)
  have f67 := ((f25.other W30 (Or.inl (Ne.symm ne7))).other W34 (Or.inl (Ne.symm ne7)))
  have f68 := ((((P1.keep K3 (ninS ne7 nin0)).other W10 (Or.inr (sn58 hw))).other W30 (Or.inr (sn56 hw))).other W34 (Or.inr (sn58 hw)))
  refine ⟨_, _, pre59 _ ?_, hrun, hended, _, _, rfl, ?_, ⟨_, rfl⟩, hW, hsame.mono (by decide) (by decide)⟩
  ·
   refine st58 _ ?_
   refine yye X58 hx hby 86 93 rfl d15_86 (flt (by decide : ¬ ((4 : Int32) < (1 : Int32)))).2.2.2 (by decide) ?_
   show Steps p.tables e below (T58.setTop (mkF m 93 (l487_0 o1 o2 q3) [])) _
   exact X58.returnOut hx hret (hb hby d15_93) hr
  ·
   show Q51 Z o1 o2 o4 o6 kc5 q3 h0 n0 _ T58.heap _
   rw [e62]
   exact ⟨rfl, N58, KL, f66, f67, f45, f68, f37, f35, f52, Fw34, f39⟩
 ·
  exact absurd (own_glt1 (n := 4) (k := (4 : Int32)) (by decide) (by have q0 := own_sub (x := ((4 : Int32) - (3 : Int32))) (k := (0 : Int32)) (n := 0) (lo := 1) (hi := 1) (by decide) (by have q0 := own_sub (x := (4 : Int32)) (k := (3 : Int32)) (n := 3) (lo := 4) (hi := 4) (by decide) (by have q0 := (by decide : ((4 : Int32)).toInt = 4); omega) (by decide) (by decide); omega) (by decide) (by decide); omega)) hc63
def l488_0 (o1 : Addr) (q2 : Int64) : Array Slot := #[.val (.ref o1), .val (.long q2), .second, .val (.int 3)]
def l488_1 (o1 : Addr) (q2 : Int64) : Array Slot := #[.val (.ref o1), .val (.long q2), .second, .val (.int 4)]
theorem ef52 (m : MethodId) (x0 : Addr) (x1 : Int64) : entryFrame m #[(.ref x0), (.long x1)] 4 = mkF m 0 #[.val (.ref x0), .val (.long x1), .second, .unset] [] := by first | (simp [entryFrame, mkF, argsToLocals, Value.category]; done) | rfl
def Q52 (Z : State) (w1 : Addr) (kw1 : ClassId) (o1 o6 : Addr) (o8 o9 : Addr) (kc7 : ClassId) (q10 : Int64) (p3 p4 p5 : Int32) (q2 : Int64) (h0 : Heap) (n0 : Nat) (v : Option Value) (h : Heap) (L : List Loc) : Prop :=
  (v = none ∧ Fr n0 L ∧ Keep h0 h [o9, o1] ∧ (Exa Z h o9 cn6) ∧ (Fld Z h o9 cn6 "removed" "J" (.long q2)) ∧ (Exa Z h o1 cn7) ∧ (Fld Z h o1 cn7 "addsFirst" "Z" (.int 0)) ∧ (Fld Z h o1 cn7 "end" "I" (.int 0)) ∧ (Fld Z h o1 cn7 "first" "I" (.int 0)) ∧ (Fld Z h o1 cn7 "low" "I" (.int 0)) ∧ (Fld Z h o1 cn7 "removed" "I" (.int 0)) ∧ (Fld Z h o1 cn7 "slots" cn3 (.ref w1)))
set_option maxRecDepth 65536 in
set_option maxHeartbeats 40000000 in
theorem rm52 (l : Launch) (Z : State) (a0 : Array Value) (hw : HW a0 Z) (w1 : Addr) (kw1 : ClassId) (G : GW Z w1 kw1) (ws : List Jvm.Cond) (o1 o6 : Addr) (o8 o9 : Addr) (kc7 : ClassId) (q10 : Int64) (p3 p4 p5 : Int32) (q2 : Int64) (h0 : Heap) (n0 : Nat) (O0 : Old Z n0 h0) (g_o1 : n0 ≤ o1) (g_o6 : n0 ≤ o6) (g_o8 : n0 ≤ o8) (g_o9 : n0 ≤ o9) (Ov_kc7 : Ovr Z kc7 cn6) (hp0 : ¬ (q10 = (9223372036854775807 : Int64))) (P0 : Exa Z h0 o1 cn7) (P1 : Fld Z h0 o1 cn7 "addsFirst" "Z" (.int p3)) (P2 : Fld Z h0 o1 cn7 "end" "I" (.int 4)) (P3 : Fld Z h0 o1 cn7 "first" "I" (.int 3)) (P4 : Fld Z h0 o1 cn7 "low" "I" (.int p4)) (P5 : Fld Z h0 o1 cn7 "removed" "I" (.int p5)) (P6 : Fld Z h0 o1 cn7 "slots" cn3 (.ref o6)) (P7 : Arv Z h0 o6 kc7 (.object cn6) (8 : Int32) [.null, .null, (.ref o8), (.ref o9), .null, .null, .null, .null] .null) (P11 : Exa Z h0 o9 cn6) (P12 : Fld Z h0 o9 cn6 "removed" "J" (.long 9223372036854775807)) :
    MF l yn2 prog_41_method_9_code 4 none ws ({ frames := 1, cells := 0, slots := 0, locals := 14 } : Room) #[(.ref o1), (.long q2)] Z h0 (Q52 Z w1 kw1 o1 o6 o8 o9 kc7 q10 p3 p4 p5 q2 h0 n0) := by
 obtain ⟨S_w1, A_w1⟩ := id G
 refine MetFree.of_bodySF (plainFor_of_name pn1) hisR ?_
 intro p e s m args below meth c s₁ Bd hml hP hK
 obtain ⟨rfl, hZ, hh⟩ := hP
 obtain ⟨hx, hby, hown, hret, hlk, X0, e0, N0⟩ := own_bd Bd hh n0
 have pre0 := own_ct s₁ (p := p) (e := e) (below := below) (ef52 m o1 q2)
 obtain ⟨T1, X1, e1, st1⟩ := yag X0 hx hZ hown hby (w_47 hw) e0 P3 0 #[.val (.ref o1), .val (.long q2), .second, .unset] [] d2_0 d2_1 rfl
 obtain ⟨T2, X2, e2, st2⟩ := yag X1 hx hZ hown hby (w_49 hw) e1 P2 6 (l488_0 o1 q2) [(.int 3)] d2_6 d2_7 rfl
 obtain ⟨T3, X3, e3, st3⟩ := yag X2 hx hZ hown hby (w_40 hw) e2 P6 13 (l488_0 o1 q2) [] d2_13 d2_14 rfl
 obtain ⟨cl4, Ar4, qa4, Sa4, Na4, Ha4, Ga4⟩ := id (P7)
 have hin4 := inb_of (j := (3 : Int32)) Sa4 ⟨by decide, by decide⟩
 have hat4 : cl4.slots[((3 : Int32)).toNatClampNeg]? = some (.ref o9) := Has.at Ha4 hin4 rfl
 obtain ⟨_, T5, L5, X5, hQ5, st5⟩ := yv X3 hx hZ hown hby hml (y := yn7) (w_113 hw) (w_82 hw) (w_84 hw) (w_83 hw) (w_85 hw) (w_5 hw) e3 P11 [] [] (rm17 l Z a0 hw [] o9 ((9223372036854775807 : Int64)) h0 n0 O0 g_o9 (by decide : (9223372036854775807 : Int64) = (9223372036854775807 : Int64)) P12) 19 (l488_0 o1 q2) rfl d2_19 (lenOf pd5 rfl) 0 0 0
 obtain ⟨rfl, Nq6, e7⟩ := hQ5
 have N5 := Fr.app N0 Nq6
 obtain ⟨T8, X8, e8, st8⟩ := yag X5 hx hZ hown hby (w_40 hw) e7 P6 25 (l488_0 o1 q2) [] d2_25 d2_26 rfl
 obtain ⟨cl9, Ar9, qa9, Sa9, Na9, Ha9, Ga9⟩ := id (P7)
 have hin9 := inb_of (j := (3 : Int32)) Sa9 ⟨by decide, by decide⟩
 have hat9 : cl9.slots[((3 : Int32)).toNatClampNeg]? = some (.ref o9) := Has.at Ha9 hin9 rfl
 obtain ⟨_, T10, L10, X10, hQ10, st10⟩ := yv X8 hx hZ hown hby hml (y := yn14) (w_114 hw) (w_115 hw) (own_w hw 117 rfl) (w_116 hw) (w_118 hw) (w_5 hw) e8 P11 [(.long q2)] [] (rm18 l Z a0 hw [] o9 q2 h0 n0 O0 g_o9 P11 P12) 32 (l488_0 o1 q2) rfl d2_32 (lenOf pd2 rfl) 0 0 0
 obtain ⟨rfl, Nq11, K12, f13, f14⟩ := hQ10
 have N10 := Fr.app N5 Nq11
 have O10 := Old.keep O0 K12 (allS g_o9 all0)
 have f15 := (P0.keep K12)
 have ne16 : o1 ≠ o9 := ne_exa f15 f13 (by decide)
 have f17 := (P2.keep K12 (ninS ne16 nin0))
 obtain ⟨T18, X18, e18, st18⟩ := yag X10 hx hZ hown hby (w_49 hw) rfl f17 6 (l488_1 o1 q2) [(.int 4)] d2_6 d2_7 rfl
 obtain ⟨T19, X19, e19, st19⟩ := getS2 X18 hx hZ hown (host := "") (Or.inl (own_w hw 38 rfl)) Via.refl e18 (S_w1.ext O10.2) (g := (mkF m 42 (l488_1 o1 q2) [(.ref o1)])) rfl (hb hby d2_42)
 have f20 := (P6.keep K12 (ninS ne16 nin0))
 obtain ⟨T21, h21, X21, e21, W21, st21⟩ := yp X19 hx hZ hown hby (w_40 hw) e19 f20 f15 (w_41 hw) (w_32 hw) (ty := (.array (.object cn6))) (v := (.ref w1)) (by decide) rfl rfl 45 (l488_1 o1 q2) [] d2_45
 have N21 := Fr.snoc X21 N10 g_o1
 have Fw21 := f20.same W21
 have f22 := ((P4.keep K12 (ninS ne16 nin0)).other W21 (Or.inr (sn47 hw)))
 have f23 := (f15.wr W21)
 obtain ⟨T24, h24, X24, e24, W24, st24⟩ := yp X21 hx hZ hown hby (w_51 hw) e21 f22 f23 (w_52 hw) (w_32 hw) (ty := .int) (v := (.int 0)) (by decide) rfl rfl 50 (l488_1 o1 q2) [] d2_50
 have N24 := Fr.snoc X24 N21 g_o1
 have Fw24 := f22.same W24
 have f25 := (((P3.keep K12 (ninS ne16 nin0)).other W21 (Or.inr (sn46 hw))).other W24 (Or.inr (sn49 hw)))
 have f26 := (f23.wr W24)
 obtain ⟨T27, h27, X27, e27, W27, st27⟩ := yp X24 hx hZ hown hby (w_47 hw) e24 f25 f26 (w_48 hw) (w_32 hw) (ty := .int) (v := (.int 0)) (by decide) rfl rfl 55 (l488_1 o1 q2) [] d2_55
 have N27 := Fr.snoc X27 N24 g_o1
 have Fw27 := f25.same W27
 have f28 := (((f17.other W21 (Or.inr (sn45 hw))).other W24 (Or.inr (sn50 hw))).other W27 (Or.inr (sn51 hw)))
 have f29 := (f26.wr W27)
 obtain ⟨T30, h30, X30, e30, W30, st30⟩ := yp X27 hx hZ hown hby (w_49 hw) e27 f28 f29 (w_50 hw) (w_32 hw) (ty := .int) (v := (.int 0)) (by decide) rfl rfl 60 (l488_1 o1 q2) [] d2_60
 have N30 := Fr.snoc X30 N27 g_o1
 have Fw30 := f28.same W30
 have f31 := (((((P5.keep K12 (ninS ne16 nin0)).other W21 (Or.inr (sn48 hw))).other W24 (Or.inr (sn52 hw))).other W27 (Or.inr (sn53 hw))).other W30 (Or.inr (sn54 hw)))
 have f32 := (f29.wr W30)
 obtain ⟨T33, h33, X33, e33, W33, st33⟩ := yp X30 hx hZ hown hby (w_53 hw) e30 f31 f32 (w_54 hw) (w_32 hw) (ty := .int) (v := (.int 0)) (by decide) rfl rfl 65 (l488_1 o1 q2) [] d2_65
 have N33 := Fr.snoc X33 N30 g_o1
 have Fw33 := f31.same W33
 have f34 := ((((((P1.keep K12 (ninS ne16 nin0)).other W21 (Or.inr (sn44 hw))).other W24 (Or.inr (sn55 hw))).other W27 (Or.inr (sn56 hw))).other W30 (Or.inr (sn57 hw))).other W33 (Or.inr (sn58 hw)))
 have f35 := (f32.wr W33)
 obtain ⟨T36, h36, X36, e36, W36, st36⟩ := putFN X33 hx hZ hown (own_w hw 55 rfl) Via.refl e33 f34 f35 (Or.inl (w_56 hw)) (w_32 hw) (ty := .boolean) (v' := (.int 0)) (by decide) rfl (by decide) (g := (mkF m 70 (l488_1 o1 q2) [(.int 0), (.ref o1)])) rfl rfl (hb hby d2_70)
 have N36 := Fr.snoc X36 N33 g_o1
 have Fw36 := f34.same W36
 obtain ⟨fs, hr, hrun, hended, hW, hsame⟩ := X36.leave (v := none) (fun _ => rfl)
 have KL : Keep h0 h36 [o9, o1] := ((((((((Keep.refl h0 [o9, o1]).trans K12 (allS (Or.inl (List.mem_of_getElem? (i := 0) rfl)) all0)).wr W21 (Or.inl (List.mem_of_getElem? (i := 1) rfl))).wr W24 (Or.inl (List.mem_of_getElem? (i := 1) rfl))).wr W27 (Or.inl (List.mem_of_getElem? (i := 1) rfl))).wr W30 (Or.inl (List.mem_of_getElem? (i := 1) rfl))).wr W33 (Or.inl (List.mem_of_getElem? (i := 1) rfl))).wr W36 (Or.inl (List.mem_of_getElem? (i := 1) rfl)))
 have f37 := ((((((f13.wr W21).wr W24).wr W27).wr W30).wr W33).wr W36)
 have f38 := ((((((f14.other W21 (Or.inl (Ne.symm ne16))).other W24 (Or.inl (Ne.symm ne16))).other W27 (Or.inl (Ne.symm ne16))).other W30 (Or.inl (Ne.symm ne16))).other W33 (Or.inl (Ne.symm ne16))).other W36 (Or.inl (Ne.symm ne16)))
 have f39 := (f35.wr W36)
 have f40 := ((Fw30.other W33 (Or.inr (sn59 hw))).other W36 (Or.inr (sn60 hw)))
 have f41 := (((Fw27.other W30 (Or.inr (sn61 hw))).other W33 (Or.inr (sn62 hw))).other W36 (Or.inr (sn63 hw)))
 have f42 := ((((Fw24.other W27 (Or.inr (sn64 hw))).other W30 (Or.inr (sn65 hw))).other W33 (Or.inr (sn66 hw))).other W36 (Or.inr (sn67 hw)))
 have f43 := (Fw33.other W36 (Or.inr (sn68 hw)))
 have f44 := (((((Fw21.other W24 (Or.inr (sn69 hw))).other W27 (Or.inr (sn70 hw))).other W30 (Or.inr (sn71 hw))).other W33 (Or.inr (sn72 hw))).other W36 (Or.inr (sn73 hw)))
 refine ⟨_, _, pre0 _ ?_, hrun, hended, _, _, rfl, ?_, ⟨_, rfl⟩, hW, hsame.mono (by decide) (by decide)⟩
 ·
  refine st1 _ ?_
  refine yit X1 hx hby d2_4 (l' := (l488_0 o1 q2)) rfl ?_
  refine yin X1 hx hby d2_5 rfl ?_
  refine st2 _ ?_
  refine yno X2 hx hby d2_10 (tlt (by decide : (3 : Int32) < (4 : Int32))).2.1 ?_
  refine st3 _ ?_
  refine yin X3 hx hby d2_17 rfl ?_
  refine X3.aaload hx (j := (3 : Int32)) (v := (.ref o9)) (by rw [e3]; exact Ar4.1) (State.isArrayOf_alike hZ.alike Ar4.2.1) rfl Ar4.2.2 hin4 hat4 (g := (mkF m 18 (l488_0 o1 q2) [(.int 3), (.ref o6)])) rfl rfl (hb hby d2_18) _ ?_
  refine st5 _ ?_
  refine yfn X5 hx hby d2_22 ((if0 _ _).trans (feq (by decide : ¬ ((1 : Int32) = (0 : Int32)))).1) ?_
  refine st8 _ ?_
  refine yin X8 hx hby d2_29 rfl ?_
  refine X8.aaload hx (j := (3 : Int32)) (v := (.ref o9)) (by rw [e8]; exact Ar9.1) (State.isArrayOf_alike hZ.alike Ar9.2.1) rfl Ar9.2.2 hin9 hat9 (g := (mkF m 30 (l488_0 o1 q2) [(.int 3), (.ref o6)])) rfl rfl (hb hby d2_30) _ ?_
  refine XS.lloadN X8.here hx rfl (hb hby d2_31) rfl ?_
  refine st10 _ ?_
  refine XS.iinc X10.here hx rfl (hb hby d2_35) rfl (l' := (l488_1 o1 q2)) rfl ?_
  refine ygo X10 hx hby 38 5 rfl d2_38 (by decide) ?_
  refine yin X10 hx hby d2_5 rfl ?_
  refine st18 _ ?_
  refine yye X18 hx hby 10 41 rfl d2_10 (flt (by decide : ¬ ((4 : Int32) < (4 : Int32)))).2.1 (by decide) ?_
  refine yan X18 hx hby d2_41 rfl rfl ?_
  refine st19 _ ?_
  refine st21 _ ?_
  refine yan X21 hx hby d2_48 rfl rfl ?_
  refine yic X21 hx hby d2_49 ?_
  refine st24 _ ?_
  refine yan X24 hx hby d2_53 rfl rfl ?_
  refine yic X24 hx hby d2_54 ?_
  refine st27 _ ?_
  refine yan X27 hx hby d2_58 rfl rfl ?_
  refine yic X27 hx hby d2_59 ?_
  refine st30 _ ?_
  refine yan X30 hx hby d2_63 rfl rfl ?_
  refine yic X30 hx hby d2_64 ?_
  refine st33 _ ?_
  show Steps p.tables e below (T33.setTop (mkF m 68 (l488_1 o1 q2) [])) _
  refine yan X33 hx hby d2_68 rfl rfl ?_
  refine yic X33 hx hby d2_69 ?_
  refine st36 _ ?_
  show Steps p.tables e below (T36.setTop (mkF m 73 (l488_1 o1 q2) [])) _
  exact X36.returnOut hx hret (hb hby d2_73) hr
 ·
  show Q52 Z w1 kw1 o1 o6 o8 o9 kc7 q10 p3 p4 p5 q2 h0 n0 _ T36.heap _
  rw [e36]
  exact ⟨rfl, N36, KL, f37, f38, f39, Fw36, f40, f41, f42, f43, f44⟩
def l489_0 (o1 o2 : Addr) (q3 : Int64) : Array Slot := #[.val (.ref o1), .val (.ref o2), .val (.long q3), .second]
theorem ef53 (m : MethodId) (x0 x1 : Addr) (x2 : Int64) : entryFrame m #[(.ref x0), (.ref x1), (.long x2)] 4 = mkF m 0 #[.val (.ref x0), .val (.ref x1), .val (.long x2), .second] [] := by first | (simp [entryFrame, mkF, argsToLocals, Value.category]; done) | rfl
def Q53 (Z : State) (o1 o2 : Addr) (o4 o6 : Addr) (kc5 : ClassId) (q3 : Int64) (h0 : Heap) (n0 : Nat) (v : Option Value) (h : Heap) (L : List Loc) : Prop :=
  (v = none ∧ Fr n0 L ∧ Keep h0 h [o2, o1] ∧ (Exa Z h o2 cn6) ∧ (Fld Z h o2 cn6 "removed" "J" (.long q3)) ∧ (Exa Z h o1 cn7) ∧ (Fld Z h o1 cn7 "addsFirst" "Z" (.int 1)) ∧ (Fld Z h o1 cn7 "end" "I" (.int 4)) ∧ (Fld Z h o1 cn7 "first" "I" (.int 2)) ∧ (Fld Z h o1 cn7 "low" "I" (.int 2)) ∧ (Fld Z h o1 cn7 "removed" "I" (.int 1)) ∧ (Fld Z h o1 cn7 "slots" cn3 (.ref o4)))
set_option maxRecDepth 65536 in
set_option maxHeartbeats 40000000 in
theorem rm53 (l : Launch) (Z : State) (a0 : Array Value) (hw : HW a0 Z) (ws : List Jvm.Cond) (o1 o2 : Addr) (o4 o6 : Addr) (kc5 : ClassId) (q3 : Int64) (h0 : Heap) (n0 : Nat) (O0 : Old Z n0 h0) (g_o1 : n0 ≤ o1) (g_o2 : n0 ≤ o2) (g_o4 : n0 ≤ o4) (g_o6 : n0 ≤ o6) (ne_o6_o2 : o6 ≠ o2) (Ov_kc5 : Ovr Z kc5 cn6) (hp0 : ¬ (q3 = (9223372036854775807 : Int64))) (P0 : Exa Z h0 o1 cn7) (P1 : Fld Z h0 o1 cn7 "addsFirst" "Z" (.int 1)) (P2 : Fld Z h0 o1 cn7 "end" "I" (.int 4)) (P3 : Fld Z h0 o1 cn7 "first" "I" (.int 2)) (P4 : Fld Z h0 o1 cn7 "low" "I" (.int 2)) (P5 : Fld Z h0 o1 cn7 "removed" "I" (.int 0)) (P6 : Fld Z h0 o1 cn7 "slots" cn3 (.ref o4)) (P7 : Exa Z h0 o2 cn6) (P8 : Fld Z h0 o2 cn6 "removed" "J" (.long 9223372036854775807)) (P9 : Arv Z h0 o4 kc5 (.object cn6) (8 : Int32) [.null, .null, (.ref o6), (.ref o2), .null, .null, .null, .null] .null) (P10 : Exa Z h0 o4 cn3) (P11 : Exa Z h0 o6 cn6) (P12 : Fld Z h0 o6 cn6 "removed" "J" (.long 9223372036854775807)) :
    MF l yn15 prog_41_method_8_code 4 none ws ({ frames := 1, cells := 0, slots := 0, locals := 14 } : Room) #[(.ref o1), (.ref o2), (.long q3)] Z h0 (Q53 Z o1 o2 o4 o6 kc5 q3 h0 n0) := by
 refine MetFree.of_bodySF (plainFor_of_name pn1) hisR ?_
 intro p e s m args below meth c s₁ Bd hml hP hK
 obtain ⟨rfl, hZ, hh⟩ := hP
 obtain ⟨hx, hby, hown, hret, hlk, X0, e0, N0⟩ := own_bd Bd hh n0
 have pre0 := own_ct s₁ (p := p) (e := e) (below := below) (ef53 m o1 o2 q3)
 revert pre0
 generalize s₁.setTop (entryFrame m #[(.ref o1), (.ref o2), (.long q3)] 4) = E0
 intro pre0
 obtain ⟨_, T1, L1, X1, hQ1, st1⟩ := yv X0 hx hZ hown hby hml (y := yn14) (w_114 hw) (w_115 hw) (own_w hw 117 rfl) (w_116 hw) (w_118 hw) (w_5 hw) e0 P7 [(.long q3)] [] (rm20 l Z a0 hw [] o2 q3 h0 n0 O0 g_o2 hp0 P7 P8) 2 (l489_0 o1 o2 q3) rfl d15_2 (lenOf pd2 rfl) 0 0 0
 obtain ⟨rfl, Nq2, K3, f4, f5⟩ := hQ1
 have N1 := Fr.app N0 Nq2
 have O1 := Old.keep O0 K3 (allS g_o2 all0)
 have f6 := (P0.keep K3)
 have ne7 : o1 ≠ o2 := ne_exa f6 f4 (by decide)
 have f8 := (P5.keep K3 (ninS ne7 nin0))
 obtain ⟨T9, X9, e9, st9⟩ := yg X1 hx hZ hown hby (w_53 hw) rfl f8 7 (l489_0 o1 o2 q3) [(.ref o1)] d15_7
 obtain ⟨T10, h10, X10, e10, W10, st10⟩ := yp X9 hx hZ hown hby (w_53 hw) e9 f8 f6 (w_54 hw) (w_32 hw) (ty := .int) (v := (.int 1)) (by decide) rfl rfl 12 (l489_0 o1 o2 q3) [] d15_12
 have N10 := Fr.snoc X10 N1 g_o1
 have Fw10 := f8.same W10
 have O10 := Old.wr O1 W10 g_o1
 have f11 := ((P3.keep K3 (ninS ne7 nin0)).other W10 (Or.inr (sn62 hw)))
 obtain ⟨T12, X12, e12, st12⟩ := yag X10 hx hZ hown hby (w_47 hw) e10 f11 15 (l489_0 o1 o2 q3) [] d15_15 d15_16 rfl
 have f13 := ((P2.keep K3 (ninS ne7 nin0)).other W10 (Or.inr (sn59 hw)))
 obtain ⟨T14, X14, e14, st14⟩ := yag X12 hx hZ hown hby (w_49 hw) e12 f13 19 (l489_0 o1 o2 q3) [(.int 2)] d15_19 d15_20 rfl
 have f15 := ((P6.keep K3 (ninS ne7 nin0)).other W10 (Or.inr (sn72 hw)))
 obtain ⟨T16, X16, e16, st16⟩ := yag X14 hx hZ hown hby (w_40 hw) e14 f15 26 (l489_0 o1 o2 q3) [] d15_26 d15_27 rfl
 obtain ⟨T17, X17, e17, st17⟩ := yag X16 hx hZ hown hby (w_47 hw) e16 f11 30 (l489_0 o1 o2 q3) [(.ref o4)] d15_30 d15_31 rfl
 have f18 := ((P10.keep K3).wr W10)
 have f19 := (f4.wr W10)
 have ne20 : o4 ≠ o2 := ne_exa f18 f19 (by decide)
 have f21 := (f6.wr W10)
 have ne22 : o4 ≠ o1 := ne_exa f18 f21 (by decide)
 have f23 := ((P9.keep K3 (ninS ne20 nin0)).other W10 ne22)
 obtain ⟨cl24, Ar24, qa24, Sa24, Na24, Ha24, Ga24⟩ := id (f23)
 have hin24 := inb_of (j := (2 : Int32)) Sa24 ⟨by decide, by decide⟩
 have hat24 : cl24.slots[((2 : Int32)).toNatClampNeg]? = some (.ref o6) := Has.at Ha24 hin24 rfl
 have f25 := ((P11.keep K3).wr W10)
 have ne26 : o6 ≠ o1 := ne_exa f25 f21 (by decide)
 have f27 := ((P12.keep K3 (ninS ne_o6_o2 nin0)).other W10 (Or.inl ne26))
 obtain ⟨_, T28, L28, X28, hQ28, st28⟩ := yv X17 hx hZ hown hby hml (y := yn7) (w_113 hw) (w_82 hw) (w_84 hw) (w_83 hw) (w_85 hw) (w_5 hw) e17 f25 [] [] (rm17 l Z a0 hw [] o6 ((9223372036854775807 : Int64)) h10 n0 O10 g_o6 (by decide : (9223372036854775807 : Int64) = (9223372036854775807 : Int64)) f27) 35 (l489_0 o1 o2 q3) rfl d15_35 (lenOf pd5 rfl) 0 0 0
 obtain ⟨rfl, Nq29, e30⟩ := hQ28
 have N28 := Fr.app N10 Nq29
 obtain ⟨T31, X31, e31, st31⟩ := yag X28 hx hZ hown hby (w_47 hw) e30 f11 64 (l489_0 o1 o2 q3) [] d15_64 d15_65 rfl
 have f32 := ((P4.keep K3 (ninS ne7 nin0)).other W10 (Or.inr (sn66 hw)))
 obtain ⟨T33, X33, e33, st33⟩ := yag X31 hx hZ hown hby (w_51 hw) e31 f32 68 (l489_0 o1 o2 q3) [(.int 2)] d15_68 d15_69 rfl
 obtain ⟨T34, X34, e34, st34⟩ := yag X33 hx hZ hown hby (w_53 hw) e33 Fw10 73 (l489_0 o1 o2 q3) [(.int 0)] d15_73 d15_74 rfl
 obtain ⟨_, T35, L35, X35, hQ35, st35⟩ := yv X34 hx hZ hown hby hml (y := yn3) (own_w hw 100 rfl) (w_58 hw) (own_w hw 60 rfl) (w_59 hw) (own_w hw 61 rfl) (w_33 hw) e34 f21 [] [(.int 1)] (rm4 l Z a0 hw [] o1 ((4 : Int32)) ((2 : Int32)) ((1 : Int32)) h10 n0 O10 g_o1 f13 f11 Fw10) 79 (l489_0 o1 o2 q3) rfl d15_79 (lenOf pd3 rfl) 1 0 0
 obtain ⟨rfl, Nq36, e37⟩ := hQ35
 have N35 := Fr.app N28 Nq36
 obtain ⟨_, T38, L38, X38, hQ38, st38⟩ := own_cs X35 hx hZ hown (y := yn10) (own_w hw 101 rfl) (own_w hw 102 rfl) (own_w hw 104 rfl) (w_103 hw) e37 (argsL := [(.int (((4 : Int32) - (2 : Int32)) - (1 : Int32))), (.int 4)]) (rest := [(.int 1)]) (rm11 l Z a0 hw [] ((((4 : Int32) - (2 : Int32)) - (1 : Int32))) ((4 : Int32)) h10 n0 O10 ) (g := (mkF m 83 (l489_0 o1 o2 q3) [(.int 4), (.int (((4 : Int32) - (2 : Int32)) - (1 : Int32))), (.int 1)])) rfl (by rw [hml]; rfl) rfl (hb hby d15_83) (lenOf pd8 rfl) (W := 1) (c1 := 0) (s1 := 0)
 have pre39 : Go p e below T35 (mkF m 83 (l489_0 o1 o2 q3) [(.int 4), (.int (((4 : Int32) - (2 : Int32)) - (1 : Int32))), (.int 1)]) E0 := fun t k => by
  refine pre0 _ ?_
  refine yan X0 hx hby d15_0 rfl rfl ?_
  refine XS.lloadN X0.here hx rfl (hb hby d15_1) rfl ?_
  refine st1 _ ?_
  refine yan X1 hx hby d15_5 rfl rfl ?_
  refine XS.dup X1.here hx rfl (hb hby d15_6) rfl rfl ?_
  refine st9 _ ?_
  refine yic X9 hx hby d15_10 ?_
  refine yad X9 hx hby d15_11 ?_
  refine st10 _ ?_
  refine st12 _ ?_
  refine st14 _ ?_
  refine yno X14 hx hby d15_23 (tlt (by decide : (2 : Int32) < (4 : Int32))).2.1 ?_
  refine st16 _ ?_
  refine st17 _ ?_
  refine X17.aaload hx (j := (2 : Int32)) (v := (.ref o6)) (by rw [e17]; exact Ar24.1) (State.isArrayOf_alike hZ.alike Ar24.2.1) rfl Ar24.2.2 hin24 hat24 (g := (mkF m 34 (l489_0 o1 o2 q3) [(.int 2), (.ref o4)])) rfl rfl (hb hby d15_34) _ ?_
  refine st28 _ ?_
  refine XS.ifYes X28.here hx rfl (pc0 := 38) (pc' := 64) rfl (hb hby d15_38) rfl ((if0 _ _).trans (feq (by decide : ¬ ((1 : Int32) = (0 : Int32)))).2) (by decide) (by decide) ?_
  refine st31 _ ?_
  refine st33 _ ?_
  refine ysu X33 hx hby d15_72 ?_
  refine st34 _ ?_
  refine yad X34 hx hby d15_77 ?_
  refine yan X34 hx hby d15_78 rfl rfl ?_
  refine st35 _ ?_
  refine yic X35 hx hby d15_82 ?_
  exact k
 rcases hQ38 with ⟨hc40, rfl, Nq41, e42⟩ | ⟨hc43, rfl, Nq44, e45⟩
 ·
  have N38 := Fr.app N35 Nq41
  obtain ⟨fs, hr, hrun, hended, hW, hsame⟩ := X38.leave (v := none) (fun _ => rfl)
  have KL : Keep h0 h10 [o2, o1] := (((Keep.refl h0 [o2, o1]).trans K3 (allS (Or.inl (List.mem_of_getElem? (i := 0) rfl)) all0)).wr W10 (Or.inl (List.mem_of_getElem? (i := 1) rfl)))
  have f46 := (f5.other W10 (Or.inl (Ne.symm ne7)))
  have f47 := ((P1.keep K3 (ninS ne7 nin0)).other W10 (Or.inr (sn58 hw)))
  refine ⟨_, _, pre39 _ ?_, hrun, hended, _, _, rfl, ?_, ⟨_, rfl⟩, hW, hsame.mono (by decide) (by decide)⟩
  ·
   refine st38 _ ?_
   refine yye X38 hx hby 86 93 rfl d15_86 (flt (by decide : ¬ ((4 : Int32) < (1 : Int32)))).2.2.2 (by decide) ?_
   show Steps p.tables e below (T38.setTop (mkF m 93 (l489_0 o1 o2 q3) [])) _
   exact X38.returnOut hx hret (hb hby d15_93) hr
  ·
   show Q53 Z o1 o2 o4 o6 kc5 q3 h0 n0 _ T38.heap _
   rw [e42]
   exact ⟨rfl, N38, KL, f19, f46, f21, f47, f13, f11, f32, Fw10, f15⟩
 ·
  exact absurd (own_glt1 (n := 4) (k := (4 : Int32)) (by decide) (by have q0 := own_sub (x := ((4 : Int32) - (2 : Int32))) (k := (1 : Int32)) (n := 1) (lo := 2) (hi := 2) (by decide) (by have q0 := own_sub (x := (4 : Int32)) (k := (2 : Int32)) (n := 2) (lo := 4) (hi := 4) (by decide) (by have q0 := (by decide : ((4 : Int32)).toInt = 4); omega) (by decide) (by decide); omega) (by decide) (by decide); omega)) hc43
def l490_0 (o1 : Addr) (q2 : Int64) : Array Slot := #[.val (.ref o1), .val (.long q2), .second, .val (.int 2)]
def l490_1 (o1 : Addr) (q2 : Int64) : Array Slot := #[.val (.ref o1), .val (.long q2), .second, .val (.int 3)]
def l490_2 (o1 : Addr) (q2 : Int64) : Array Slot := #[.val (.ref o1), .val (.long q2), .second, .val (.int 4)]
theorem ef54 (m : MethodId) (x0 : Addr) (x1 : Int64) : entryFrame m #[(.ref x0), (.long x1)] 4 = mkF m 0 #[.val (.ref x0), .val (.long x1), .second, .unset] [] := by first | (simp [entryFrame, mkF, argsToLocals, Value.category]; done) | rfl
def Q54 (Z : State) (w1 : Addr) (kw1 : ClassId) (o1 o5 : Addr) (o7 o8 : Addr) (kc6 : ClassId) (q9 : Int64) (p3 p4 : Int32) (q2 : Int64) (h0 : Heap) (n0 : Nat) (v : Option Value) (h : Heap) (L : List Loc) : Prop :=
  (v = none ∧ Fr n0 L ∧ Keep h0 h [o7, o1] ∧ (Exa Z h o7 cn6) ∧ (Fld Z h o7 cn6 "removed" "J" (.long q2)) ∧ (Exa Z h o1 cn7) ∧ (Fld Z h o1 cn7 "addsFirst" "Z" (.int 0)) ∧ (Fld Z h o1 cn7 "end" "I" (.int 0)) ∧ (Fld Z h o1 cn7 "first" "I" (.int 0)) ∧ (Fld Z h o1 cn7 "low" "I" (.int 0)) ∧ (Fld Z h o1 cn7 "removed" "I" (.int 0)) ∧ (Fld Z h o1 cn7 "slots" cn3 (.ref w1)))
set_option maxRecDepth 65536 in
set_option maxHeartbeats 40000000 in
theorem rm54 (l : Launch) (Z : State) (a0 : Array Value) (hw : HW a0 Z) (w1 : Addr) (kw1 : ClassId) (G : GW Z w1 kw1) (ws : List Jvm.Cond) (o1 o5 : Addr) (o7 o8 : Addr) (kc6 : ClassId) (q9 : Int64) (p3 p4 : Int32) (q2 : Int64) (h0 : Heap) (n0 : Nat) (O0 : Old Z n0 h0) (g_o1 : n0 ≤ o1) (g_o5 : n0 ≤ o5) (g_o7 : n0 ≤ o7) (g_o8 : n0 ≤ o8) (ne_o8_o7 : o8 ≠ o7) (Ov_kc6 : Ovr Z kc6 cn6) (hp0 : ¬ (q9 = (9223372036854775807 : Int64))) (P0 : Exa Z h0 o1 cn7) (P1 : Fld Z h0 o1 cn7 "addsFirst" "Z" (.int p3)) (P2 : Fld Z h0 o1 cn7 "end" "I" (.int 4)) (P3 : Fld Z h0 o1 cn7 "first" "I" (.int 2)) (P4 : Fld Z h0 o1 cn7 "low" "I" (.int p4)) (P5 : Fld Z h0 o1 cn7 "removed" "I" (.int p3)) (P6 : Fld Z h0 o1 cn7 "slots" cn3 (.ref o5)) (P7 : Arv Z h0 o5 kc6 (.object cn6) (8 : Int32) [.null, .null, (.ref o7), (.ref o8), .null, .null, .null, .null] .null) (P8 : Exa Z h0 o5 cn3) (P9 : Exa Z h0 o7 cn6) (P10 : Fld Z h0 o7 cn6 "removed" "J" (.long 9223372036854775807)) (P11 : Exa Z h0 o8 cn6) (P12 : Fld Z h0 o8 cn6 "removed" "J" (.long q9)) :
    MF l yn2 prog_41_method_9_code 4 none ws ({ frames := 1, cells := 0, slots := 0, locals := 14 } : Room) #[(.ref o1), (.long q2)] Z h0 (Q54 Z w1 kw1 o1 o5 o7 o8 kc6 q9 p3 p4 q2 h0 n0) := by
 obtain ⟨S_w1, A_w1⟩ := id G
 refine MetFree.of_bodySF (plainFor_of_name pn1) hisR ?_
 intro p e s m args below meth c s₁ Bd hml hP hK
 obtain ⟨rfl, hZ, hh⟩ := hP
 obtain ⟨hx, hby, hown, hret, hlk, X0, e0, N0⟩ := own_bd Bd hh n0
 have pre0 := own_ct s₁ (p := p) (e := e) (below := below) (ef54 m o1 q2)
 obtain ⟨T1, X1, e1, st1⟩ := yag X0 hx hZ hown hby (w_47 hw) e0 P3 0 #[.val (.ref o1), .val (.long q2), .second, .unset] [] d2_0 d2_1 rfl
 obtain ⟨T2, X2, e2, st2⟩ := yag X1 hx hZ hown hby (w_49 hw) e1 P2 6 (l490_0 o1 q2) [(.int 2)] d2_6 d2_7 rfl
 obtain ⟨T3, X3, e3, st3⟩ := yag X2 hx hZ hown hby (w_40 hw) e2 P6 13 (l490_0 o1 q2) [] d2_13 d2_14 rfl
 obtain ⟨cl4, Ar4, qa4, Sa4, Na4, Ha4, Ga4⟩ := id (P7)
 have hin4 := inb_of (j := (2 : Int32)) Sa4 ⟨by decide, by decide⟩
 have hat4 : cl4.slots[((2 : Int32)).toNatClampNeg]? = some (.ref o7) := Has.at Ha4 hin4 rfl
 obtain ⟨_, T5, L5, X5, hQ5, st5⟩ := yv X3 hx hZ hown hby hml (y := yn7) (w_113 hw) (w_82 hw) (w_84 hw) (w_83 hw) (w_85 hw) (w_5 hw) e3 P9 [] [] (rm17 l Z a0 hw [] o7 ((9223372036854775807 : Int64)) h0 n0 O0 g_o7 (by decide : (9223372036854775807 : Int64) = (9223372036854775807 : Int64)) P10) 19 (l490_0 o1 q2) rfl d2_19 (lenOf pd5 rfl) 0 0 0
 obtain ⟨rfl, Nq6, e7⟩ := hQ5
 have N5 := Fr.app N0 Nq6
 obtain ⟨T8, X8, e8, st8⟩ := yag X5 hx hZ hown hby (w_40 hw) e7 P6 25 (l490_0 o1 q2) [] d2_25 d2_26 rfl
 obtain ⟨cl9, Ar9, qa9, Sa9, Na9, Ha9, Ga9⟩ := id (P7)
 have hin9 := inb_of (j := (2 : Int32)) Sa9 ⟨by decide, by decide⟩
 have hat9 : cl9.slots[((2 : Int32)).toNatClampNeg]? = some (.ref o7) := Has.at Ha9 hin9 rfl
 obtain ⟨_, T10, L10, X10, hQ10, st10⟩ := yv X8 hx hZ hown hby hml (y := yn14) (w_114 hw) (w_115 hw) (own_w hw 117 rfl) (w_116 hw) (w_118 hw) (w_5 hw) e8 P9 [(.long q2)] [] (rm18 l Z a0 hw [] o7 q2 h0 n0 O0 g_o7 P9 P10) 32 (l490_0 o1 q2) rfl d2_32 (lenOf pd2 rfl) 0 0 0
 obtain ⟨rfl, Nq11, K12, f13, f14⟩ := hQ10
 have N10 := Fr.app N5 Nq11
 have O10 := Old.keep O0 K12 (allS g_o7 all0)
 have f15 := (P0.keep K12)
 have ne16 : o1 ≠ o7 := ne_exa f15 f13 (by decide)
 have f17 := (P2.keep K12 (ninS ne16 nin0))
 obtain ⟨T18, X18, e18, st18⟩ := yag X10 hx hZ hown hby (w_49 hw) rfl f17 6 (l490_1 o1 q2) [(.int 3)] d2_6 d2_7 rfl
 have f19 := (P6.keep K12 (ninS ne16 nin0))
 obtain ⟨T20, X20, e20, st20⟩ := yag X18 hx hZ hown hby (w_40 hw) e18 f19 13 (l490_1 o1 q2) [] d2_13 d2_14 rfl
 have f21 := (P8.keep K12)
 have ne22 : o5 ≠ o7 := ne_exa f21 f13 (by decide)
 have f23 := (P7.keep K12 (ninS ne22 nin0))
 obtain ⟨cl24, Ar24, qa24, Sa24, Na24, Ha24, Ga24⟩ := id (f23)
 have hin24 := inb_of (j := (3 : Int32)) Sa24 ⟨by decide, by decide⟩
 have hat24 : cl24.slots[((3 : Int32)).toNatClampNeg]? = some (.ref o8) := Has.at Ha24 hin24 rfl
 have f25 := (P12.keep K12 (ninS ne_o8_o7 nin0))
 have f26 := (P11.keep K12)
 obtain ⟨_, T27, L27, X27, hQ27, st27⟩ := yv X20 hx hZ hown hby hml (y := yn7) (w_113 hw) (w_82 hw) (w_84 hw) (w_83 hw) (w_85 hw) (w_5 hw) e20 f26 [] [] (rm21 l Z a0 hw [] o8 q9 T10.heap n0 O10 g_o8 hp0 f25) 19 (l490_1 o1 q2) rfl d2_19 (lenOf pd5 rfl) 0 0 0
 obtain ⟨rfl, Nq28, e29⟩ := hQ27
 have N27 := Fr.app N10 Nq28
 obtain ⟨T30, X30, e30, st30⟩ := yag X27 hx hZ hown hby (w_49 hw) e29 f17 6 (l490_2 o1 q2) [(.int 4)] d2_6 d2_7 rfl
 obtain ⟨T31, X31, e31, st31⟩ := getS2 X30 hx hZ hown (host := "") (Or.inl (own_w hw 38 rfl)) Via.refl e30 (S_w1.ext O10.2) (g := (mkF m 42 (l490_2 o1 q2) [(.ref o1)])) rfl (hb hby d2_42)
 obtain ⟨T32, h32, X32, e32, W32, st32⟩ := yp X31 hx hZ hown hby (w_40 hw) e31 f19 f15 (w_41 hw) (w_32 hw) (ty := (.array (.object cn6))) (v := (.ref w1)) (by decide) rfl rfl 45 (l490_2 o1 q2) [] d2_45
 have N32 := Fr.snoc X32 N27 g_o1
 have Fw32 := f19.same W32
 have f33 := ((P4.keep K12 (ninS ne16 nin0)).other W32 (Or.inr (sn47 hw)))
 have f34 := (f15.wr W32)
 obtain ⟨T35, h35, X35, e35, W35, st35⟩ := yp X32 hx hZ hown hby (w_51 hw) e32 f33 f34 (w_52 hw) (w_32 hw) (ty := .int) (v := (.int 0)) (by decide) rfl rfl 50 (l490_2 o1 q2) [] d2_50
 have N35 := Fr.snoc X35 N32 g_o1
 have Fw35 := f33.same W35
 have f36 := (((P3.keep K12 (ninS ne16 nin0)).other W32 (Or.inr (sn46 hw))).other W35 (Or.inr (sn49 hw)))
 have f37 := (f34.wr W35)
 obtain ⟨T38, h38, X38, e38, W38, st38⟩ := yp X35 hx hZ hown hby (w_47 hw) e35 f36 f37 (w_48 hw) (w_32 hw) (ty := .int) (v := (.int 0)) (by decide) rfl rfl 55 (l490_2 o1 q2) [] d2_55
 have N38 := Fr.snoc X38 N35 g_o1
 have Fw38 := f36.same W38
 have f39 := (((f17.other W32 (Or.inr (sn45 hw))).other W35 (Or.inr (sn50 hw))).other W38 (Or.inr (sn51 hw)))
 have f40 := (f37.wr W38)
 obtain ⟨T41, h41, X41, e41, W41, st41⟩ := yp X38 hx hZ hown hby (w_49 hw) e38 f39 f40 (w_50 hw) (w_32 hw) (ty := .int) (v := (.int 0)) (by decide) rfl rfl 60 (l490_2 o1 q2) [] d2_60
 have N41 := Fr.snoc X41 N38 g_o1
 have Fw41 := f39.same W41
 have f42 := (((((P5.keep K12 (ninS ne16 nin0)).other W32 (Or.inr (sn48 hw))).other W35 (Or.inr (sn52 hw))).other W38 (Or.inr (sn53 hw))).other W41 (Or.inr (sn54 hw)))
 have f43 := (f40.wr W41)
 obtain ⟨T44, h44, X44, e44, W44, st44⟩ := yp X41 hx hZ hown hby (w_53 hw) e41 f42 f43 (w_54 hw) (w_32 hw) (ty := .int) (v := (.int 0)) (by decide) rfl rfl 65 (l490_2 o1 q2) [] d2_65
 have N44 := Fr.snoc X44 N41 g_o1
 have Fw44 := f42.same W44
 have f45 := ((((((P1.keep K12 (ninS ne16 nin0)).other W32 (Or.inr (sn44 hw))).other W35 (Or.inr (sn55 hw))).other W38 (Or.inr (sn56 hw))).other W41 (Or.inr (sn57 hw))).other W44 (Or.inr (sn58 hw)))
 have f46 := (f43.wr W44)
 obtain ⟨T47, h47, X47, e47, W47, st47⟩ := putFN X44 hx hZ hown (own_w hw 55 rfl) Via.refl e44 f45 f46 (Or.inl (w_56 hw)) (w_32 hw) (ty := .boolean) (v' := (.int 0)) (by decide) rfl (by decide) (g := (mkF m 70 (l490_2 o1 q2) [(.int 0), (.ref o1)])) rfl rfl (hb hby d2_70)
 have N47 := Fr.snoc X47 N44 g_o1
 have Fw47 := f45.same W47
 obtain ⟨fs, hr, hrun, hended, hW, hsame⟩ := X47.leave (v := none) (fun _ => rfl)
 have KL : Keep h0 h47 [o7, o1] := ((((((((Keep.refl h0 [o7, o1]).trans K12 (allS (Or.inl (List.mem_of_getElem? (i := 0) rfl)) all0)).wr W32 (Or.inl (List.mem_of_getElem? (i := 1) rfl))).wr W35 (Or.inl (List.mem_of_getElem? (i := 1) rfl))).wr W38 (Or.inl (List.mem_of_getElem? (i := 1) rfl))).wr W41 (Or.inl (List.mem_of_getElem? (i := 1) rfl))).wr W44 (Or.inl (List.mem_of_getElem? (i := 1) rfl))).wr W47 (Or.inl (List.mem_of_getElem? (i := 1) rfl)))
 have f48 := ((((((f13.wr W32).wr W35).wr W38).wr W41).wr W44).wr W47)
 have f49 := ((((((f14.other W32 (Or.inl (Ne.symm ne16))).other W35 (Or.inl (Ne.symm ne16))).other W38 (Or.inl (Ne.symm ne16))).other W41 (Or.inl (Ne.symm ne16))).other W44 (Or.inl (Ne.symm ne16))).other W47 (Or.inl (Ne.symm ne16)))
 have f50 := (f46.wr W47)
 have f51 := ((Fw41.other W44 (Or.inr (sn59 hw))).other W47 (Or.inr (sn60 hw)))
 have f52 := (((Fw38.other W41 (Or.inr (sn61 hw))).other W44 (Or.inr (sn62 hw))).other W47 (Or.inr (sn63 hw)))
 have f53 := ((((Fw35.other W38 (Or.inr (sn64 hw))).other W41 (Or.inr (sn65 hw))).other W44 (Or.inr (sn66 hw))).other W47 (Or.inr (sn67 hw)))
 have f54 := (Fw44.other W47 (Or.inr (sn68 hw)))
 have f55 := (((((Fw32.other W35 (Or.inr (sn69 hw))).other W38 (Or.inr (sn70 hw))).other W41 (Or.inr (sn71 hw))).other W44 (Or.inr (sn72 hw))).other W47 (Or.inr (sn73 hw)))
 refine ⟨_, _, pre0 _ ?_, hrun, hended, _, _, rfl, ?_, ⟨_, rfl⟩, hW, hsame.mono (by decide) (by decide)⟩
 ·
  refine st1 _ ?_
  refine yit X1 hx hby d2_4 (l' := (l490_0 o1 q2)) rfl ?_
  refine yin X1 hx hby d2_5 rfl ?_
  refine st2 _ ?_
  refine yno X2 hx hby d2_10 (tlt (by decide : (2 : Int32) < (4 : Int32))).2.1 ?_
  refine st3 _ ?_
  refine yin X3 hx hby d2_17 rfl ?_
  refine X3.aaload hx (j := (2 : Int32)) (v := (.ref o7)) (by rw [e3]; exact Ar4.1) (State.isArrayOf_alike hZ.alike Ar4.2.1) rfl Ar4.2.2 hin4 hat4 (g := (mkF m 18 (l490_0 o1 q2) [(.int 2), (.ref o5)])) rfl rfl (hb hby d2_18) _ ?_
  refine st5 _ ?_
  refine yfn X5 hx hby d2_22 ((if0 _ _).trans (feq (by decide : ¬ ((1 : Int32) = (0 : Int32)))).1) ?_
  refine st8 _ ?_
  refine yin X8 hx hby d2_29 rfl ?_
  refine X8.aaload hx (j := (2 : Int32)) (v := (.ref o7)) (by rw [e8]; exact Ar9.1) (State.isArrayOf_alike hZ.alike Ar9.2.1) rfl Ar9.2.2 hin9 hat9 (g := (mkF m 30 (l490_0 o1 q2) [(.int 2), (.ref o5)])) rfl rfl (hb hby d2_30) _ ?_
  refine XS.lloadN X8.here hx rfl (hb hby d2_31) rfl ?_
  refine st10 _ ?_
  refine XS.iinc X10.here hx rfl (hb hby d2_35) rfl (l' := (l490_1 o1 q2)) rfl ?_
  refine ygo X10 hx hby 38 5 rfl d2_38 (by decide) ?_
  refine yin X10 hx hby d2_5 rfl ?_
  refine st18 _ ?_
  refine yno X18 hx hby d2_10 (tlt (by decide : (3 : Int32) < (4 : Int32))).2.1 ?_
  refine st20 _ ?_
  refine yin X20 hx hby d2_17 rfl ?_
  refine X20.aaload hx (j := (3 : Int32)) (v := (.ref o8)) (by rw [e20]; exact Ar24.1) (State.isArrayOf_alike hZ.alike Ar24.2.1) rfl Ar24.2.2 hin24 hat24 (g := (mkF m 18 (l490_1 o1 q2) [(.int 3), (.ref o5)])) rfl rfl (hb hby d2_18) _ ?_
  refine st27 _ ?_
  refine XS.ifYes X27.here hx rfl (pc0 := 22) (pc' := 35) rfl (hb hby d2_22) rfl ((if0 _ _).trans (teq (by decide : (0 : Int32) = (0 : Int32))).1) (by decide) (by decide) ?_
  refine XS.iinc X27.here hx rfl (hb hby d2_35) rfl (l' := (l490_2 o1 q2)) rfl ?_
  refine ygo X27 hx hby 38 5 rfl d2_38 (by decide) ?_
  refine yin X27 hx hby d2_5 rfl ?_
  refine st30 _ ?_
  refine yye X30 hx hby 10 41 rfl d2_10 (flt (by decide : ¬ ((4 : Int32) < (4 : Int32)))).2.1 (by decide) ?_
  refine yan X30 hx hby d2_41 rfl rfl ?_
  refine st31 _ ?_
  refine st32 _ ?_
  show Steps p.tables e below (T32.setTop (mkF m 48 (l490_2 o1 q2) [])) _
  refine yan X32 hx hby d2_48 rfl rfl ?_
  refine yic X32 hx hby d2_49 ?_
  refine st35 _ ?_
  refine yan X35 hx hby d2_53 rfl rfl ?_
  refine yic X35 hx hby d2_54 ?_
  refine st38 _ ?_
  refine yan X38 hx hby d2_58 rfl rfl ?_
  refine yic X38 hx hby d2_59 ?_
  refine st41 _ ?_
  refine yan X41 hx hby d2_63 rfl rfl ?_
  refine yic X41 hx hby d2_64 ?_
  refine st44 _ ?_
  refine yan X44 hx hby d2_68 rfl rfl ?_
  refine yic X44 hx hby d2_69 ?_
  refine st47 _ ?_
  show Steps p.tables e below (T47.setTop (mkF m 73 (l490_2 o1 q2) [])) _
  exact X47.returnOut hx hret (hb hby d2_73) hr
 ·
  show Q54 Z w1 kw1 o1 o5 o7 o8 kc6 q9 p3 p4 q2 h0 n0 _ T47.heap _
  rw [e47]
  exact ⟨rfl, N47, KL, f48, f49, f50, Fw47, f51, f52, f53, f54, f55⟩
def l491_0 (o1 o2 : Addr) (q3 : Int64) : Array Slot := #[.val (.ref o1), .val (.ref o2), .val (.long q3), .second]
theorem ef55 (m : MethodId) (x0 x1 : Addr) (x2 : Int64) : entryFrame m #[(.ref x0), (.ref x1), (.long x2)] 4 = mkF m 0 #[.val (.ref x0), .val (.ref x1), .val (.long x2), .second] [] := by first | (simp [entryFrame, mkF, argsToLocals, Value.category]; done) | rfl
def Q55 (Z : State) (o1 o2 : Addr) (o4 o6 : Addr) (kc5 : ClassId) (q3 q7 : Int64) (h0 : Heap) (n0 : Nat) (v : Option Value) (h : Heap) (L : List Loc) : Prop :=
  (v = none ∧ Fr n0 L ∧ Keep h0 h [o2, o1] ∧ (Exa Z h o2 cn6) ∧ (Fld Z h o2 cn6 "removed" "J" (.long q3)) ∧ (Exa Z h o1 cn7) ∧ (Fld Z h o1 cn7 "addsFirst" "Z" (.int 1)) ∧ (Fld Z h o1 cn7 "end" "I" (.int 4)) ∧ (Fld Z h o1 cn7 "first" "I" (.int 4)) ∧ (Fld Z h o1 cn7 "low" "I" (.int 2)) ∧ (Fld Z h o1 cn7 "removed" "I" (.int 0)) ∧ (Fld Z h o1 cn7 "slots" cn3 (.ref o4)))
set_option maxRecDepth 65536 in
set_option maxHeartbeats 40000000 in
theorem rm55 (l : Launch) (Z : State) (a0 : Array Value) (hw : HW a0 Z) (ws : List Jvm.Cond) (o1 o2 : Addr) (o4 o6 : Addr) (kc5 : ClassId) (q3 q7 : Int64) (h0 : Heap) (n0 : Nat) (O0 : Old Z n0 h0) (g_o1 : n0 ≤ o1) (g_o2 : n0 ≤ o2) (g_o4 : n0 ≤ o4) (g_o6 : n0 ≤ o6) (ne_o6_o2 : o6 ≠ o2) (Ov_kc5 : Ovr Z kc5 cn6) (hp0 : ¬ (q3 = (9223372036854775807 : Int64))) (hp1 : ¬ (q7 = (9223372036854775807 : Int64))) (P0 : Exa Z h0 o1 cn7) (P1 : Fld Z h0 o1 cn7 "addsFirst" "Z" (.int 1)) (P2 : Fld Z h0 o1 cn7 "end" "I" (.int 4)) (P3 : Fld Z h0 o1 cn7 "first" "I" (.int 2)) (P4 : Fld Z h0 o1 cn7 "low" "I" (.int 2)) (P5 : Fld Z h0 o1 cn7 "removed" "I" (.int 1)) (P6 : Fld Z h0 o1 cn7 "slots" cn3 (.ref o4)) (P7 : Exa Z h0 o2 cn6) (P8 : Fld Z h0 o2 cn6 "removed" "J" (.long 9223372036854775807)) (P9 : Arv Z h0 o4 kc5 (.object cn6) (8 : Int32) [.null, .null, (.ref o2), (.ref o6), .null, .null, .null, .null] .null) (P10 : Exa Z h0 o4 cn3) (P11 : Exa Z h0 o6 cn6) (P12 : Fld Z h0 o6 cn6 "removed" "J" (.long q7)) :
    MF l yn15 prog_41_method_8_code 4 none ws ({ frames := 1, cells := 0, slots := 0, locals := 14 } : Room) #[(.ref o1), (.ref o2), (.long q3)] Z h0 (Q55 Z o1 o2 o4 o6 kc5 q3 q7 h0 n0) := by
 refine MetFree.of_bodySF (plainFor_of_name pn1) hisR ?_
 intro p e s m args below meth c s₁ Bd hml hP hK
 obtain ⟨rfl, hZ, hh⟩ := hP
 obtain ⟨hx, hby, hown, hret, hlk, X0, e0, N0⟩ := own_bd Bd hh n0
 have pre0 := own_ct s₁ (p := p) (e := e) (below := below) (ef55 m o1 o2 q3)
 revert pre0
 generalize s₁.setTop (entryFrame m #[(.ref o1), (.ref o2), (.long q3)] 4) = E0
 intro pre0
 obtain ⟨_, T1, L1, X1, hQ1, st1⟩ := yv X0 hx hZ hown hby hml (y := yn14) (w_114 hw) (w_115 hw) (own_w hw 117 rfl) (w_116 hw) (w_118 hw) (w_5 hw) e0 P7 [(.long q3)] [] (rm20 l Z a0 hw [] o2 q3 h0 n0 O0 g_o2 hp0 P7 P8) 2 (l491_0 o1 o2 q3) rfl d15_2 (lenOf pd2 rfl) 0 0 0
 obtain ⟨rfl, Nq2, K3, f4, f5⟩ := hQ1
 have N1 := Fr.app N0 Nq2
 have O1 := Old.keep O0 K3 (allS g_o2 all0)
 have f6 := (P0.keep K3)
 have ne7 : o1 ≠ o2 := ne_exa f6 f4 (by decide)
 have f8 := (P5.keep K3 (ninS ne7 nin0))
 obtain ⟨T9, X9, e9, st9⟩ := yg X1 hx hZ hown hby (w_53 hw) rfl f8 7 (l491_0 o1 o2 q3) [(.ref o1)] d15_7
 obtain ⟨T10, h10, X10, e10, W10, st10⟩ := yp X9 hx hZ hown hby (w_53 hw) e9 f8 f6 (w_54 hw) (w_32 hw) (ty := .int) (v := (.int 2)) (by decide) rfl rfl 12 (l491_0 o1 o2 q3) [] d15_12
 have N10 := Fr.snoc X10 N1 g_o1
 have Fw10 := f8.same W10
 have O10 := Old.wr O1 W10 g_o1
 have f11 := ((P3.keep K3 (ninS ne7 nin0)).other W10 (Or.inr (sn62 hw)))
 obtain ⟨T12, X12, e12, st12⟩ := yag X10 hx hZ hown hby (w_47 hw) e10 f11 15 (l491_0 o1 o2 q3) [] d15_15 d15_16 rfl
 have f13 := ((P2.keep K3 (ninS ne7 nin0)).other W10 (Or.inr (sn59 hw)))
 obtain ⟨T14, X14, e14, st14⟩ := yag X12 hx hZ hown hby (w_49 hw) e12 f13 19 (l491_0 o1 o2 q3) [(.int 2)] d15_19 d15_20 rfl
 have f15 := ((P6.keep K3 (ninS ne7 nin0)).other W10 (Or.inr (sn72 hw)))
 obtain ⟨T16, X16, e16, st16⟩ := yag X14 hx hZ hown hby (w_40 hw) e14 f15 26 (l491_0 o1 o2 q3) [] d15_26 d15_27 rfl
 obtain ⟨T17, X17, e17, st17⟩ := yag X16 hx hZ hown hby (w_47 hw) e16 f11 30 (l491_0 o1 o2 q3) [(.ref o4)] d15_30 d15_31 rfl
 have f18 := ((P10.keep K3).wr W10)
 have f19 := (f4.wr W10)
 have ne20 : o4 ≠ o2 := ne_exa f18 f19 (by decide)
 have f21 := (f6.wr W10)
 have ne22 : o4 ≠ o1 := ne_exa f18 f21 (by decide)
 have f23 := ((P9.keep K3 (ninS ne20 nin0)).other W10 ne22)
 obtain ⟨cl24, Ar24, qa24, Sa24, Na24, Ha24, Ga24⟩ := id (f23)
 have hin24 := inb_of (j := (2 : Int32)) Sa24 ⟨by decide, by decide⟩
 have hat24 : cl24.slots[((2 : Int32)).toNatClampNeg]? = some (.ref o2) := Has.at Ha24 hin24 rfl
 have f25 := (f5.other W10 (Or.inl (Ne.symm ne7)))
 obtain ⟨_, T26, L26, X26, hQ26, st26⟩ := yv X17 hx hZ hown hby hml (y := yn7) (w_113 hw) (w_82 hw) (w_84 hw) (w_83 hw) (w_85 hw) (w_5 hw) e17 f19 [] [] (rm21 l Z a0 hw [] o2 q3 h10 n0 O10 g_o2 hp0 f25) 35 (l491_0 o1 o2 q3) rfl d15_35 (lenOf pd5 rfl) 0 0 0
 obtain ⟨rfl, Nq27, e28⟩ := hQ26
 have N26 := Fr.app N10 Nq27
 obtain ⟨T29, X29, e29, st29⟩ := yg X26 hx hZ hown hby (w_47 hw) e28 f11 43 (l491_0 o1 o2 q3) [(.ref o1)] d15_43
 obtain ⟨T30, h30, X30, e30, W30, st30⟩ := yp X29 hx hZ hown hby (w_47 hw) e29 f11 f21 (w_48 hw) (w_32 hw) (ty := .int) (v := (.int 3)) (by decide) rfl rfl 48 (l491_0 o1 o2 q3) [] d15_48
 have N30 := Fr.snoc X30 N26 g_o1
 have Fw30 := f11.same W30
 have O30 := Old.wr O10 W30 g_o1
 have f31 := (Fw10.other W30 (Or.inr (sn53 hw)))
 obtain ⟨T32, X32, e32, st32⟩ := yg X30 hx hZ hown hby (w_53 hw) e30 f31 53 (l491_0 o1 o2 q3) [(.ref o1)] d15_53
 have f33 := (f21.wr W30)
 obtain ⟨T34, h34, X34, e34, W34, st34⟩ := yp X32 hx hZ hown hby (w_53 hw) e32 f31 f33 (w_54 hw) (w_32 hw) (ty := .int) (v := (.int 1)) (by decide) rfl rfl 58 (l491_0 o1 o2 q3) [] d15_58
 have N34 := Fr.snoc X34 N30 g_o1
 have Fw34 := f31.same W34
 have O34 := Old.wr O30 W34 g_o1
 have f35 := (Fw30.other W34 (Or.inr (sn62 hw)))
 obtain ⟨T36, X36, e36, st36⟩ := yag X34 hx hZ hown hby (w_47 hw) e34 f35 15 (l491_0 o1 o2 q3) [] d15_15 d15_16 rfl
 have f37 := ((f13.other W30 (Or.inr (sn51 hw))).other W34 (Or.inr (sn59 hw)))
 obtain ⟨T38, X38, e38, st38⟩ := yag X36 hx hZ hown hby (w_49 hw) e36 f37 19 (l491_0 o1 o2 q3) [(.int 3)] d15_19 d15_20 rfl
 have f39 := ((f15.other W30 (Or.inr (sn70 hw))).other W34 (Or.inr (sn72 hw)))
 obtain ⟨T40, X40, e40, st40⟩ := yag X38 hx hZ hown hby (w_40 hw) e38 f39 26 (l491_0 o1 o2 q3) [] d15_26 d15_27 rfl
 obtain ⟨T41, X41, e41, st41⟩ := yag X40 hx hZ hown hby (w_47 hw) e40 f35 30 (l491_0 o1 o2 q3) [(.ref o4)] d15_30 d15_31 rfl
 have f42 := ((f23.other W30 ne22).other W34 ne22)
 obtain ⟨cl43, Ar43, qa43, Sa43, Na43, Ha43, Ga43⟩ := id (f42)
 have hin43 := inb_of (j := (3 : Int32)) Sa43 ⟨by decide, by decide⟩
 have hat43 : cl43.slots[((3 : Int32)).toNatClampNeg]? = some (.ref o6) := Has.at Ha43 hin43 rfl
 have f44 := ((((P11.keep K3).wr W10).wr W30).wr W34)
 have f45 := (f33.wr W34)
 have ne46 : o6 ≠ o1 := ne_exa f44 f45 (by decide)
 have f47 := ((((P12.keep K3 (ninS ne_o6_o2 nin0)).other W10 (Or.inl ne46)).other W30 (Or.inl ne46)).other W34 (Or.inl ne46))
 obtain ⟨_, T48, L48, X48, hQ48, st48⟩ := yv X41 hx hZ hown hby hml (y := yn7) (w_113 hw) (w_82 hw) (w_84 hw) (w_83 hw) (w_85 hw) (w_5 hw) e41 f44 [] [] (rm21 l Z a0 hw [] o6 q7 h34 n0 O34 g_o6 hp1 f47) 35 (l491_0 o1 o2 q3) rfl d15_35 (lenOf pd5 rfl) 0 0 0
 obtain ⟨rfl, Nq49, e50⟩ := hQ48
 have N48 := Fr.app N34 Nq49
 obtain ⟨T51, X51, e51, st51⟩ := yg X48 hx hZ hown hby (w_47 hw) e50 f35 43 (l491_0 o1 o2 q3) [(.ref o1)] d15_43
 obtain ⟨T52, h52, X52, e52, W52, st52⟩ := yp X51 hx hZ hown hby (w_47 hw) e51 f35 f45 (w_48 hw) (w_32 hw) (ty := .int) (v := (.int 4)) (by decide) rfl rfl 48 (l491_0 o1 o2 q3) [] d15_48
 have N52 := Fr.snoc X52 N48 g_o1
 have Fw52 := f35.same W52
 have O52 := Old.wr O34 W52 g_o1
 have f53 := (Fw34.other W52 (Or.inr (sn53 hw)))
 obtain ⟨T54, X54, e54, st54⟩ := yg X52 hx hZ hown hby (w_53 hw) e52 f53 53 (l491_0 o1 o2 q3) [(.ref o1)] d15_53
 have f55 := (f45.wr W52)
 obtain ⟨T56, h56, X56, e56, W56, st56⟩ := yp X54 hx hZ hown hby (w_53 hw) e54 f53 f55 (w_54 hw) (w_32 hw) (ty := .int) (v := (.int 0)) (by decide) rfl rfl 58 (l491_0 o1 o2 q3) [] d15_58
 have N56 := Fr.snoc X56 N52 g_o1
 have Fw56 := f53.same W56
 have O56 := Old.wr O52 W56 g_o1
 have f57 := (Fw52.other W56 (Or.inr (sn62 hw)))
 obtain ⟨T58, X58, e58, st58⟩ := yag X56 hx hZ hown hby (w_47 hw) e56 f57 15 (l491_0 o1 o2 q3) [] d15_15 d15_16 rfl
 have f59 := ((f37.other W52 (Or.inr (sn51 hw))).other W56 (Or.inr (sn59 hw)))
 obtain ⟨T60, X60, e60, st60⟩ := yag X58 hx hZ hown hby (w_49 hw) e58 f59 19 (l491_0 o1 o2 q3) [(.int 4)] d15_19 d15_20 rfl
 obtain ⟨T61, X61, e61, st61⟩ := yag X60 hx hZ hown hby (w_47 hw) e60 f57 64 (l491_0 o1 o2 q3) [] d15_64 d15_65 rfl
 have f62 := ((((((P4.keep K3 (ninS ne7 nin0)).other W10 (Or.inr (sn66 hw))).other W30 (Or.inr (sn64 hw))).other W34 (Or.inr (sn66 hw))).other W52 (Or.inr (sn64 hw))).other W56 (Or.inr (sn66 hw)))
 obtain ⟨T63, X63, e63, st63⟩ := yag X61 hx hZ hown hby (w_51 hw) e61 f62 68 (l491_0 o1 o2 q3) [(.int 4)] d15_68 d15_69 rfl
 obtain ⟨T64, X64, e64, st64⟩ := yag X63 hx hZ hown hby (w_53 hw) e63 Fw56 73 (l491_0 o1 o2 q3) [(.int 2)] d15_73 d15_74 rfl
 have f65 := (f55.wr W56)
 obtain ⟨_, T66, L66, X66, hQ66, st66⟩ := yv X64 hx hZ hown hby hml (y := yn3) (own_w hw 100 rfl) (w_58 hw) (own_w hw 60 rfl) (w_59 hw) (own_w hw 61 rfl) (w_33 hw) e64 f65 [] [(.int 2)] (rm4 l Z a0 hw [] o1 ((4 : Int32)) ((4 : Int32)) ((0 : Int32)) h56 n0 O56 g_o1 f59 f57 Fw56) 79 (l491_0 o1 o2 q3) rfl d15_79 (lenOf pd3 rfl) 1 0 0
 obtain ⟨rfl, Nq67, e68⟩ := hQ66
 have N66 := Fr.app N56 Nq67
 obtain ⟨_, T69, L69, X69, hQ69, st69⟩ := own_cs X66 hx hZ hown (y := yn10) (own_w hw 101 rfl) (own_w hw 102 rfl) (own_w hw 104 rfl) (w_103 hw) e68 (argsL := [(.int (((4 : Int32) - (4 : Int32)) - (0 : Int32))), (.int 4)]) (rest := [(.int 2)]) (rm11 l Z a0 hw [] ((((4 : Int32) - (4 : Int32)) - (0 : Int32))) ((4 : Int32)) h56 n0 O56 ) (g := (mkF m 83 (l491_0 o1 o2 q3) [(.int 4), (.int (((4 : Int32) - (4 : Int32)) - (0 : Int32))), (.int 2)])) rfl (by rw [hml]; rfl) rfl (hb hby d15_83) (lenOf pd8 rfl) (W := 1) (c1 := 0) (s1 := 0)
 have pre70 : Go p e below T66 (mkF m 83 (l491_0 o1 o2 q3) [(.int 4), (.int (((4 : Int32) - (4 : Int32)) - (0 : Int32))), (.int 2)]) E0 := fun t k => by
  refine pre0 _ ?_
  refine yan X0 hx hby d15_0 rfl rfl ?_
  refine XS.lloadN X0.here hx rfl (hb hby d15_1) rfl ?_
  refine st1 _ ?_
  refine yan X1 hx hby d15_5 rfl rfl ?_
  refine XS.dup X1.here hx rfl (hb hby d15_6) rfl rfl ?_
  refine st9 _ ?_
  refine yic X9 hx hby d15_10 ?_
  refine yad X9 hx hby d15_11 ?_
  refine st10 _ ?_
  refine st12 _ ?_
  refine st14 _ ?_
  refine yno X14 hx hby d15_23 (tlt (by decide : (2 : Int32) < (4 : Int32))).2.1 ?_
  refine st16 _ ?_
  refine st17 _ ?_
  refine X17.aaload hx (j := (2 : Int32)) (v := (.ref o2)) (by rw [e17]; exact Ar24.1) (State.isArrayOf_alike hZ.alike Ar24.2.1) rfl Ar24.2.2 hin24 hat24 (g := (mkF m 34 (l491_0 o1 o2 q3) [(.int 2), (.ref o4)])) rfl rfl (hb hby d15_34) _ ?_
  refine st26 _ ?_
  refine yfn X26 hx hby d15_38 ((if0 _ _).trans (teq (by decide : (0 : Int32) = (0 : Int32))).2) ?_
  refine yan X26 hx hby d15_41 rfl rfl ?_
  refine XS.dup X26.here hx rfl (hb hby d15_42) rfl rfl ?_
  refine st29 _ ?_
  refine yic X29 hx hby d15_46 ?_
  refine yad X29 hx hby d15_47 ?_
  refine st30 _ ?_
  refine yan X30 hx hby d15_51 rfl rfl ?_
  refine XS.dup X30.here hx rfl (hb hby d15_52) rfl rfl ?_
  refine st32 _ ?_
  refine yic X32 hx hby d15_56 ?_
  refine ysu X32 hx hby d15_57 ?_
  refine st34 _ ?_
  refine ygo X34 hx hby 61 15 rfl d15_61 (by decide) ?_
  refine st36 _ ?_
  refine st38 _ ?_
  refine yno X38 hx hby d15_23 (tlt (by decide : (3 : Int32) < (4 : Int32))).2.1 ?_
  show Steps p.tables e below (T38.setTop (mkF m 26 (l491_0 o1 o2 q3) [])) _
  refine st40 _ ?_
  refine st41 _ ?_
  refine X41.aaload hx (j := (3 : Int32)) (v := (.ref o6)) (by rw [e41]; exact Ar43.1) (State.isArrayOf_alike hZ.alike Ar43.2.1) rfl Ar43.2.2 hin43 hat43 (g := (mkF m 34 (l491_0 o1 o2 q3) [(.int 3), (.ref o4)])) rfl rfl (hb hby d15_34) _ ?_
  refine st48 _ ?_
  refine yfn X48 hx hby d15_38 ((if0 _ _).trans (teq (by decide : (0 : Int32) = (0 : Int32))).2) ?_
  refine yan X48 hx hby d15_41 rfl rfl ?_
  refine XS.dup X48.here hx rfl (hb hby d15_42) rfl rfl ?_
  refine st51 _ ?_
  refine yic X51 hx hby d15_46 ?_
  refine yad X51 hx hby d15_47 ?_
  refine st52 _ ?_
  refine yan X52 hx hby d15_51 rfl rfl ?_
  refine XS.dup X52.here hx rfl (hb hby d15_52) rfl rfl ?_
  refine st54 _ ?_
  refine yic X54 hx hby d15_56 ?_
  refine ysu X54 hx hby d15_57 ?_
  refine st56 _ ?_
  refine ygo X56 hx hby 61 15 rfl d15_61 (by decide) ?_
  refine st58 _ ?_
  refine st60 _ ?_
  refine yye X60 hx hby 23 64 rfl d15_23 (flt (by decide : ¬ ((4 : Int32) < (4 : Int32)))).2.1 (by decide) ?_
  refine st61 _ ?_
  refine st63 _ ?_
  refine ysu X63 hx hby d15_72 ?_
  refine st64 _ ?_
  refine yad X64 hx hby d15_77 ?_
  refine yan X64 hx hby d15_78 rfl rfl ?_
  refine st66 _ ?_
  refine yic X66 hx hby d15_82 ?_
  exact k
 rcases hQ69 with ⟨hc71, rfl, Nq72, e73⟩ | ⟨hc74, rfl, Nq75, e76⟩
 ·
  have N69 := Fr.app N66 Nq72
  obtain ⟨fs, hr, hrun, hended, hW, hsame⟩ := X69.leave (v := none) (fun _ => rfl)
  have KL : Keep h0 h56 [o2, o1] := (((((((Keep.refl h0 [o2, o1]).trans K3 (allS (Or.inl (List.mem_of_getElem? (i := 0) rfl)) all0)).wr W10 (Or.inl (List.mem_of_getElem? (i := 1) rfl))).wr W30 (Or.inl (List.mem_of_getElem? (i := 1) rfl))).wr W34 (Or.inl (List.mem_of_getElem? (i := 1) rfl))).wr W52 (Or.inl (List.mem_of_getElem? (i := 1) rfl))).wr W56 (Or.inl (List.mem_of_getElem? (i := 1) rfl)))
  have f77 := ((((f19.wr W30).wr W34).wr W52).wr W56)
  have f78 := ((((f25.other W30 (Or.inl (Ne.symm ne7))).other W34 (Or.inl (Ne.symm ne7))).other W52 (Or.inl (Ne.symm ne7))).other W56 (Or.inl (Ne.symm ne7)))
  have f79 := ((((((P1.keep K3 (ninS ne7 nin0)).other W10 (Or.inr (sn58 hw))).other W30 (Or.inr (sn56 hw))).other W34 (Or.inr (sn58 hw))).other W52 (Or.inr (sn56 hw))).other W56 (Or.inr (sn58 hw)))
  have f80 := ((f39.other W52 (Or.inr (sn70 hw))).other W56 (Or.inr (sn72 hw)))
  refine ⟨_, _, pre70 _ ?_, hrun, hended, _, _, rfl, ?_, ⟨_, rfl⟩, hW, hsame.mono (by decide) (by decide)⟩
  ·
   refine st69 _ ?_
   refine yye X69 hx hby 86 93 rfl d15_86 (flt (by decide : ¬ ((4 : Int32) < (2 : Int32)))).2.2.2 (by decide) ?_
   show Steps p.tables e below (T69.setTop (mkF m 93 (l491_0 o1 o2 q3) [])) _
   exact X69.returnOut hx hret (hb hby d15_93) hr
  ·
   show Q55 Z o1 o2 o4 o6 kc5 q3 q7 h0 n0 _ T69.heap _
   rw [e73]
   exact ⟨rfl, N69, KL, f77, f78, f65, f79, f59, f57, f62, Fw56, f80⟩
 ·
  exact absurd (own_glt1 (n := 4) (k := (4 : Int32)) (by decide) (by have q0 := own_sub (x := ((4 : Int32) - (4 : Int32))) (k := (0 : Int32)) (n := 0) (lo := 0) (hi := 0) (by decide) (by have q0 := own_sub (x := (4 : Int32)) (k := (4 : Int32)) (n := 4) (lo := 4) (hi := 4) (by decide) (by have q0 := (by decide : ((4 : Int32)).toInt = 4); omega) (by decide) (by decide); omega) (by decide) (by decide); omega)) hc74
def l492_0 (dp1 : Int32) (dq2 q3 q4 : Int64) (dp3 dp4 : Int32) (zz51 zz52 zz53 : Int32) (dq50 : Int64) (da5 o6 : Addr) (o7 o8 o9 : Addr) : Array Slot := #[.val (.int dp1), .val (.long dq2), .second, .val (.long q3), .second, .val (.long q4), .second, .val (.int 1), .val (.int 1), .val (.int dp3), .val (.int dp4), .val (.int zz51), .val (.int zz52), .val (.int zz53), .val (.long dq50), .second, .val (.ref da5), .val (.ref o6), .val (.ref o7), .val (.ref o8), .val (.ref o9), .unset, .unset, .unset, .unset, .unset, .unset, .unset, .unset, .unset]
def l492_1 (dp1 : Int32) (dq2 q3 q4 : Int64) (dp3 dp4 : Int32) (zz52 zz53 : Int32) (dq50 : Int64) (da5 o6 : Addr) (o7 o8 o9 : Addr) : Array Slot := #[.val (.int dp1), .val (.long dq2), .second, .val (.long q3), .second, .val (.long q4), .second, .val (.int 1), .val (.int 1), .val (.int dp3), .val (.int dp4), .val (.int 0), .val (.int zz52), .val (.int zz53), .val (.long dq50), .second, .val (.ref da5), .val (.ref o6), .val (.ref o7), .val (.ref o8), .val (.ref o9), .unset, .unset, .unset, .unset, .unset, .unset, .unset, .unset, .unset]
def l492_2 (dp1 : Int32) (dq2 q3 q4 : Int64) (dp3 dp4 : Int32) (zz52 zz53 : Int32) (dq50 : Int64) (da5 o6 : Addr) (o7 o8 o9 : Addr) : Array Slot := #[.val (.int dp1), .val (.long dq2), .second, .val (.long q3), .second, .val (.long q4), .second, .val (.int 1), .val (.int 1), .val (.int dp3), .val (.int dp4), .val (.int 1), .val (.int zz52), .val (.int zz53), .val (.long dq50), .second, .val (.ref da5), .val (.ref o6), .val (.ref o7), .val (.ref o8), .val (.ref o9), .unset, .unset, .unset, .unset, .unset, .unset, .unset, .unset, .unset]
def l492_3 (dp1 : Int32) (dq2 q3 q4 : Int64) (dp3 dp4 zz53 : Int32) (dq50 : Int64) (da5 o6 : Addr) (o7 o8 o9 : Addr) : Array Slot := #[.val (.int dp1), .val (.long dq2), .second, .val (.long q3), .second, .val (.long q4), .second, .val (.int 1), .val (.int 1), .val (.int dp3), .val (.int dp4), .val (.int 0), .val (.int 0), .val (.int zz53), .val (.long dq50), .second, .val (.ref da5), .val (.ref o6), .val (.ref o7), .val (.ref o8), .val (.ref o9), .unset, .unset, .unset, .unset, .unset, .unset, .unset, .unset, .unset]
def l492_4 (dp1 : Int32) (dq2 q3 q4 : Int64) (dp3 dp4 zz53 : Int32) (dq50 : Int64) (da5 o6 : Addr) (o7 o8 o9 : Addr) : Array Slot := #[.val (.int dp1), .val (.long dq2), .second, .val (.long q3), .second, .val (.long q4), .second, .val (.int 1), .val (.int 1), .val (.int dp3), .val (.int dp4), .val (.int 0), .val (.int 1), .val (.int zz53), .val (.long dq50), .second, .val (.ref da5), .val (.ref o6), .val (.ref o7), .val (.ref o8), .val (.ref o9), .unset, .unset, .unset, .unset, .unset, .unset, .unset, .unset, .unset]
def l492_5 (dp1 : Int32) (dq2 q3 q4 : Int64) (dp3 dp4 zz53 : Int32) (dq50 : Int64) (da5 o6 : Addr) (o7 o8 o9 : Addr) : Array Slot := #[.val (.int dp1), .val (.long dq2), .second, .val (.long q3), .second, .val (.long q4), .second, .val (.int 1), .val (.int 1), .val (.int dp3), .val (.int dp4), .val (.int 1), .val (.int 0), .val (.int zz53), .val (.long dq50), .second, .val (.ref da5), .val (.ref o6), .val (.ref o7), .val (.ref o8), .val (.ref o9), .unset, .unset, .unset, .unset, .unset, .unset, .unset, .unset, .unset]
def l492_6 (dp1 : Int32) (dq2 q3 q4 : Int64) (dp3 dp4 zz53 : Int32) (dq50 : Int64) (da5 o6 : Addr) (o7 o8 o9 : Addr) : Array Slot := #[.val (.int dp1), .val (.long dq2), .second, .val (.long q3), .second, .val (.long q4), .second, .val (.int 1), .val (.int 1), .val (.int dp3), .val (.int dp4), .val (.int 1), .val (.int 1), .val (.int zz53), .val (.long dq50), .second, .val (.ref da5), .val (.ref o6), .val (.ref o7), .val (.ref o8), .val (.ref o9), .unset, .unset, .unset, .unset, .unset, .unset, .unset, .unset, .unset]
set_option maxRecDepth 65536 in
set_option maxHeartbeats 40000000 in
theorem ct22 {p : Program} {l : Launch} {e : Env} {s : State} {m : MethodId} {below : List Frame} {meth : Method} {c : Code} {E0 T0 : State} {locs : List Loc} {Z : State} {a0 : Array Value} (hw : HW a0 Z) (w1 : Addr) (kw1 : ClassId) (G : GW Z w1 kw1) (o6 o7 : Addr) (o8 o9 o10 : Addr) (kc11 : ClassId) (dq50 : Int64) (zz51 zz52 : Int32) (zz53 dp1 : Int32) (dq2 q3 q4 : Int64) (dp3 dp4 : Int32) (da5 : Addr) (p1 : Int32) (q2 : Int64) (h0 : Heap) (n0 : Nat) (O0 : Old Z n0 h0)
    (hx : p.tables.exec = Jvm.exec) (hby : c.code = code) (hml : c.maxLocals = 30) (hown : s.vm.findClass cn8 = some m.cls) (hret : meth.sig.returnType = ret) (hlk : meth.locks = false) (hZ : Z.Warmed39 s.vm)
    (X0 : Stand p l e room_1 s m #[(.int p1), (.long q2), (.long q3), (.long q4)] below meth c T0 locs 7 46) (e0 : T0.heap = h0) (N0 : Fr n0 locs) (pre0 : Go p e below T0 (mkF m 236 (l492_0 dp1 dq2 q3 q4 dp3 dp4 zz51 zz52 zz53 dq50 da5 o6 o7 o8 o9) []) E0) (g_o6 : n0 ≤ o6) (g_o7 : n0 ≤ o7) (g_o8 : n0 ≤ o8) (g_o9 : n0 ≤ o9) (g_o10 : n0 ≤ o10) (ne_o6_o7 : o6 ≠ o7) (Ov_kc11 : Ovr Z kc11 cn6) (P0 : Exa Z h0 o6 cn6) (P1 : Fld Z h0 o6 cn6 "removed" "J" (.long 9223372036854775807)) (P2 : Exa Z h0 o7 cn6) (P3 : Fld Z h0 o7 cn6 "removed" "J" (.long 9223372036854775807)) (P4 : Exa Z h0 o8 cn6) (P6 : Exa Z h0 o9 cn7) (P7 : Fld Z h0 o9 cn7 "addsFirst" "Z" (.int 1)) (P8 : Fld Z h0 o9 cn7 "end" "I" (.int 4)) (P9 : Fld Z h0 o9 cn7 "first" "I" (.int 2)) (P10 : Fld Z h0 o9 cn7 "low" "I" (.int 2)) (P11 : Fld Z h0 o9 cn7 "removed" "I" (.int 0)) (P12 : Fld Z h0 o9 cn7 "slots" cn3 (.ref o10)) (P13 : Arv Z h0 o10 kc11 (.object cn6) (8 : Int32) [.null, .null, (.ref o7), (.ref o6), .null, .null, .null, .null] .null) (P14 : Exa Z h0 o10 cn3) (hC0 : ¬ (dq50 = (9223372036854775807 : Int64))) (bzz51 : 0 ≤ zz51.toInt ∧ zz51.toInt ≤ 1) (bzz52 : 0 ≤ zz52.toInt ∧ zz52.toInt ≤ 1) (bzz53 : 0 ≤ zz53.toInt ∧ zz53.toInt ≤ 1) :
    ∃ (s₂ : State) (o : Outcome), Steps p.tables e below E0 s₂ ∧ s₂.status = .running ∧ Ended s₂ below o ∧ ∃ v L, o = .returned v ∧ Q0 n0 v s₂.heap L ∧ FrameEnd s o s₂ L 24 192 := by
 obtain ⟨S_w1, A_w1⟩ := id G
 have pre1 : Go p e below T0 (mkF m 238 (l492_0 dp1 dq2 q3 q4 dp3 dp4 zz51 zz52 zz53 dq50 da5 o6 o7 o8 o9) [(.int zz51)]) E0 := fun t k => by
  refine pre0 _ ?_
  refine yil X0 hx hby at_236 rfl ?_
  exact k
 by_cases hc2 : zz51 = (0 : Int32)
 ·
  have pre3 : Go p e below T0 (mkF m 238 (l492_1 dp1 dq2 q3 q4 dp3 dp4 zz52 zz53 dq50 da5 o6 o7 o8 o9) [(.int 0)]) E0 := fun t k => pre1 t (by rw [hc2]; exact k)
  have pre4 : Go p e below T0 (mkF m 252 (l492_1 dp1 dq2 q3 q4 dp3 dp4 zz52 zz53 dq50 da5 o6 o7 o8 o9) [(.int zz52)]) E0 := fun t k => by
   refine pre3 _ ?_
   refine XS.ifYes X0.here hx rfl (pc0 := 238) (pc' := 250) rfl (hb hby at_238) rfl ((if0 _ _).trans (teq (by decide : (0 : Int32) = (0 : Int32))).1) (by decide) (by decide) ?_
   refine yil X0 hx hby at_250 rfl ?_
   exact k
  by_cases hc5 : zz52 = (0 : Int32)
  ·
   have pre6 : Go p e below T0 (mkF m 252 (l492_3 dp1 dq2 q3 q4 dp3 dp4 zz53 dq50 da5 o6 o7 o8 o9) [(.int 0)]) E0 := fun t k => pre4 t (by rw [hc5]; exact k)
   obtain ⟨_, T7, L7, X7, hQ7, st7⟩ := yv X0 hx hZ hown hby hml (y := yn2) (own_w hw 42 rfl) (w_43 hw) (own_w hw 45 rfl) (w_44 hw) (own_w hw 46 rfl) (w_33 hw) e0 P6 [(.long q3)] [] (rm50 l Z a0 hw w1 kw1 G [] o9 o10 o7 o6 kc11 ((1 : Int32)) ((2 : Int32)) ((0 : Int32)) q3 h0 n0 O0 g_o9 g_o10 g_o7 g_o6 ne_o6_o7 Ov_kc11 P6 P7 P8 P9 P10 P11 P12 P13 P14 P2 P3 P0 P1) 267 (l492_3 dp1 dq2 q3 q4 dp3 dp4 zz53 dq50 da5 o6 o7 o8 o9) rfl at_267 (lenOf pd2 rfl) 0 7 46
   obtain ⟨rfl, Nq8, K9, f10, f11, f12, f13, f14, f15, f16, f17, f18, f19, f20⟩ := hQ7
   have N7 := Fr.app N0 Nq8
   have O7 := Old.keep O0 K9 (allS g_o7 (allS g_o6 (allS g_o9 all0)))
   have pre21 : Go p e below T7 (mkF m 270 (l492_3 dp1 dq2 q3 q4 dp3 dp4 zz53 dq50 da5 o6 o7 o8 o9) []) E0 := fun t k => by
    refine pre6 _ ?_
    refine XS.ifYes X0.here hx rfl (pc0 := 252) (pc' := 264) rfl (hb hby at_252) rfl ((if0 _ _).trans (teq (by decide : (0 : Int32) = (0 : Int32))).1) (by decide) (by decide) ?_
    refine yal X0 hx hby at_264 rfl rfl ?_
    refine XS.lloadN X0.here hx rfl (hb hby at_266) rfl ?_
    refine st7 _ ?_
    exact k
   have f22 := (P4.keep K9)
   exact ct15 hw w1 kw1 G o6 o7 o8 o9 q3 zz53 dp1 dq2 q4 dp3 dp4 dq50 da5 p1 q2 T7.heap n0 O7 hx hby hml hown hret hlk hZ (X7.more (by decide) (by decide)) rfl N7 pre21 g_o6 g_o7 g_o8 g_o9 f12 f13 f10 f11 f22 f14 f15 f16 f17 f18 f19 f20 (by have q0 := bzz53; omega)
  ·
   have hq23 : zz52 = (1 : Int32) := (own_geq (n := 1) (k := (1 : Int32)) (by decide) (by have q0 := bzz52; have q1 := own_neq (n := 0) (k := (0 : Int32)) (by decide) hc5; omega))
   have pre24 : Go p e below T0 (mkF m 252 (l492_4 dp1 dq2 q3 q4 dp3 dp4 zz53 dq50 da5 o6 o7 o8 o9) [(.int 1)]) E0 := fun t k => pre4 t (by rw [hq23]; exact k)
   obtain ⟨_, T25, L25, X25, hQ25, st25⟩ := yv X0 hx hZ hown hby hml (y := yn15) (own_w hw 119 rfl) (own_w hw 120 rfl) (own_w hw 122 rfl) (own_w hw 121 rfl) (own_w hw 123 rfl) (w_33 hw) e0 P6 [(.ref o7), (.long dq50)] [] (rm51 l Z a0 hw [] o9 o7 o10 o6 kc11 dq50 h0 n0 O0 g_o9 g_o7 g_o10 g_o6 ne_o6_o7 Ov_kc11 hC0 P6 P7 P8 P9 P10 P11 P12 P2 P3 P13 P14 P0 P1) 261 (l492_4 dp1 dq2 q3 q4 dp3 dp4 zz53 dq50 da5 o6 o7 o8 o9) rfl at_261 (lenOf pd10 rfl) 0 7 46
   obtain ⟨rfl, Nq26, K27, f28, f29, f30, f31, f32, f33, f34, f35, f36⟩ := hQ25
   have N25 := Fr.app N0 Nq26
   have O25 := Old.keep O0 K27 (allS g_o7 (allS g_o9 all0))
   have f37 := (P14.keep K27)
   have ne38 : o10 ≠ o9 := ne_exa f37 f30 (by decide)
   have ne39 : o10 ≠ o7 := ne_exa f37 f28 (by decide)
   have f40 := (P13.keep K27 (ninS ne39 (ninS ne38 nin0)))
   have f41 := (P0.keep K27)
   have ne42 : o6 ≠ o9 := ne_exa f41 f30 (by decide)
   have f43 := (P1.keep K27 (ninS ne_o6_o7 (ninS ne42 nin0)))
   obtain ⟨_, T44, L44, X44, hQ44, st44⟩ := yv X25 hx hZ hown hby hml (y := yn2) (own_w hw 42 rfl) (w_43 hw) (own_w hw 45 rfl) (w_44 hw) (own_w hw 46 rfl) (w_33 hw) rfl f30 [(.long q3)] [] (rm52 l Z a0 hw w1 kw1 G [] o9 o10 o7 o6 kc11 dq50 ((1 : Int32)) ((2 : Int32)) ((0 : Int32)) q3 T25.heap n0 O25 g_o9 g_o10 g_o7 g_o6 Ov_kc11 hC0 f30 f31 f32 f33 f34 f35 f36 f40 f41 f43) 267 (l492_4 dp1 dq2 q3 q4 dp3 dp4 zz53 dq50 da5 o6 o7 o8 o9) rfl at_267 (lenOf pd2 rfl) 0 7 46
   obtain ⟨rfl, Nq45, K46, f47, f48, f49, f50, f51, f52, f53, f54, f55⟩ := hQ44
   have N44 := Fr.app N25 Nq45
   have O44 := Old.keep O25 K46 (allS g_o6 (allS g_o9 all0))
   have pre56 : Go p e below T44 (mkF m 270 (l492_4 dp1 dq2 q3 q4 dp3 dp4 zz53 dq50 da5 o6 o7 o8 o9) []) E0 := fun t k => by
    refine pre24 _ ?_
    refine yfn X0 hx hby at_252 ((if0 _ _).trans (feq (by decide : ¬ ((1 : Int32) = (0 : Int32)))).1) ?_
    refine yal X0 hx hby at_255 rfl rfl ?_
    refine yal X0 hx hby at_257 rfl rfl ?_
    refine XS.lload X0.here hx rfl (hb hby at_259) rfl ?_
    refine st25 _ ?_
    refine yal X25 hx hby at_264 rfl rfl ?_
    refine XS.lloadN X25.here hx rfl (hb hby at_266) rfl ?_
    refine st44 _ ?_
    exact k
   have f57 := (f28.keep K46)
   have ne58 : o7 ≠ o9 := ne_exa f57 f49 (by decide)
   have f59 := (f29.keep K46 (ninS (Ne.symm ne_o6_o7) (ninS ne58 nin0)))
   have f60 := ((P4.keep K27).keep K46)
   exact ct16 hw w1 kw1 G o6 o7 o8 o9 q3 dq50 zz53 dp1 dq2 q4 dp3 dp4 da5 p1 q2 T44.heap n0 O44 hx hby hml hown hret hlk hZ (X44.more (by decide) (by decide)) rfl N44 pre56 g_o6 g_o7 g_o8 g_o9 f47 f48 f57 f59 f60 f49 f50 f51 f52 f53 f54 f55 (by have q0 := bzz53; omega)
 ·
  have hq61 : zz51 = (1 : Int32) := (own_geq (n := 1) (k := (1 : Int32)) (by decide) (by have q0 := bzz51; have q1 := own_neq (n := 0) (k := (0 : Int32)) (by decide) hc2; omega))
  have pre62 : Go p e below T0 (mkF m 238 (l492_2 dp1 dq2 q3 q4 dp3 dp4 zz52 zz53 dq50 da5 o6 o7 o8 o9) [(.int 1)]) E0 := fun t k => pre1 t (by rw [hq61]; exact k)
  obtain ⟨_, T63, L63, X63, hQ63, st63⟩ := yv X0 hx hZ hown hby hml (y := yn15) (own_w hw 119 rfl) (own_w hw 120 rfl) (own_w hw 122 rfl) (own_w hw 121 rfl) (own_w hw 123 rfl) (w_33 hw) e0 P6 [(.ref o6), (.long dq50)] [] (rm53 l Z a0 hw [] o9 o6 o10 o7 kc11 dq50 h0 n0 O0 g_o9 g_o6 g_o10 g_o7 (Ne.symm ne_o6_o7) Ov_kc11 hC0 P6 P7 P8 P9 P10 P11 P12 P0 P1 P13 P14 P2 P3) 247 (l492_2 dp1 dq2 q3 q4 dp3 dp4 zz52 zz53 dq50 da5 o6 o7 o8 o9) rfl at_247 (lenOf pd10 rfl) 0 7 46
  obtain ⟨rfl, Nq64, K65, f66, f67, f68, f69, f70, f71, f72, f73, f74⟩ := hQ63
  have N63 := Fr.app N0 Nq64
  have O63 := Old.keep O0 K65 (allS g_o6 (allS g_o9 all0))
  have pre75 : Go p e below T63 (mkF m 252 (l492_2 dp1 dq2 q3 q4 dp3 dp4 zz52 zz53 dq50 da5 o6 o7 o8 o9) [(.int zz52)]) E0 := fun t k => by
   refine pre62 _ ?_
   refine yfn X0 hx hby at_238 ((if0 _ _).trans (feq (by decide : ¬ ((1 : Int32) = (0 : Int32)))).1) ?_
   refine yal X0 hx hby at_241 rfl rfl ?_
   refine yal X0 hx hby at_243 rfl rfl ?_
   refine XS.lload X0.here hx rfl (hb hby at_245) rfl ?_
   refine st63 _ ?_
   refine yil X63 hx hby at_250 rfl ?_
   exact k
  by_cases hc76 : zz52 = (0 : Int32)
  ·
   have pre77 : Go p e below T63 (mkF m 252 (l492_5 dp1 dq2 q3 q4 dp3 dp4 zz53 dq50 da5 o6 o7 o8 o9) [(.int 0)]) E0 := fun t k => pre75 t (by rw [hc76]; exact k)
   have f78 := (P14.keep K65)
   have ne79 : o10 ≠ o9 := ne_exa f78 f68 (by decide)
   have ne80 : o10 ≠ o6 := ne_exa f78 f66 (by decide)
   have f81 := (P13.keep K65 (ninS ne80 (ninS ne79 nin0)))
   have f82 := (P2.keep K65)
   have ne83 : o7 ≠ o9 := ne_exa f82 f68 (by decide)
   have f84 := (P3.keep K65 (ninS (Ne.symm ne_o6_o7) (ninS ne83 nin0)))
   obtain ⟨_, T85, L85, X85, hQ85, st85⟩ := yv X63 hx hZ hown hby hml (y := yn2) (own_w hw 42 rfl) (w_43 hw) (own_w hw 45 rfl) (w_44 hw) (own_w hw 46 rfl) (w_33 hw) rfl f68 [(.long q3)] [] (rm54 l Z a0 hw w1 kw1 G [] o9 o10 o7 o6 kc11 dq50 ((1 : Int32)) ((2 : Int32)) q3 T63.heap n0 O63 g_o9 g_o10 g_o7 g_o6 ne_o6_o7 Ov_kc11 hC0 f68 f69 f70 f71 f72 f73 f74 f81 f78 f82 f84 f66 f67) 267 (l492_5 dp1 dq2 q3 q4 dp3 dp4 zz53 dq50 da5 o6 o7 o8 o9) rfl at_267 (lenOf pd2 rfl) 0 7 46
   obtain ⟨rfl, Nq86, K87, f88, f89, f90, f91, f92, f93, f94, f95, f96⟩ := hQ85
   have N85 := Fr.app N63 Nq86
   have O85 := Old.keep O63 K87 (allS g_o7 (allS g_o9 all0))
   have pre97 : Go p e below T85 (mkF m 270 (l492_5 dp1 dq2 q3 q4 dp3 dp4 zz53 dq50 da5 o6 o7 o8 o9) []) E0 := fun t k => by
    refine pre77 _ ?_
    refine XS.ifYes X63.here hx rfl (pc0 := 252) (pc' := 264) rfl (hb hby at_252) rfl ((if0 _ _).trans (teq (by decide : (0 : Int32) = (0 : Int32))).1) (by decide) (by decide) ?_
    refine yal X63 hx hby at_264 rfl rfl ?_
    refine XS.lloadN X63.here hx rfl (hb hby at_266) rfl ?_
    refine st85 _ ?_
    exact k
   have f98 := (f66.keep K87)
   have ne99 : o6 ≠ o9 := ne_exa f98 f90 (by decide)
   have f100 := (f67.keep K87 (ninS ne_o6_o7 (ninS ne99 nin0)))
   have f101 := ((P4.keep K65).keep K87)
   exact ct17 hw w1 kw1 G o6 o7 o8 o9 dq50 q3 zz53 dp1 dq2 q4 dp3 dp4 da5 p1 q2 T85.heap n0 O85 hx hby hml hown hret hlk hZ (X85.more (by decide) (by decide)) rfl N85 pre97 g_o6 g_o7 g_o8 g_o9 f98 f100 f88 f89 f101 f90 f91 f92 f93 f94 f95 f96 (by have q0 := bzz53; omega)
  ·
   have hq102 : zz52 = (1 : Int32) := (own_geq (n := 1) (k := (1 : Int32)) (by decide) (by have q0 := bzz52; have q1 := own_neq (n := 0) (k := (0 : Int32)) (by decide) hc76; omega))
   have pre103 : Go p e below T63 (mkF m 252 (l492_6 dp1 dq2 q3 q4 dp3 dp4 zz53 dq50 da5 o6 o7 o8 o9) [(.int 1)]) E0 := fun t k => pre75 t (by rw [hq102]; exact k)
   have f104 := (P2.keep K65)
   have ne105 : o7 ≠ o9 := ne_exa f104 f68 (by decide)
   have f106 := (P3.keep K65 (ninS (Ne.symm ne_o6_o7) (ninS ne105 nin0)))
   have f107 := (P14.keep K65)
   have ne108 : o10 ≠ o9 := ne_exa f107 f68 (by decide)
   have ne109 : o10 ≠ o6 := ne_exa f107 f66 (by decide)
   have f110 := (P13.keep K65 (ninS ne109 (ninS ne108 nin0)))
   obtain ⟨_, T111, L111, X111, hQ111, st111⟩ := yv X63 hx hZ hown hby hml (y := yn15) (own_w hw 119 rfl) (own_w hw 120 rfl) (own_w hw 122 rfl) (own_w hw 121 rfl) (own_w hw 123 rfl) (w_33 hw) rfl f68 [(.ref o7), (.long dq50)] [] (rm55 l Z a0 hw [] o9 o7 o10 o6 kc11 dq50 dq50 T63.heap n0 O63 g_o9 g_o7 g_o10 g_o6 ne_o6_o7 Ov_kc11 hC0 hC0 f68 f69 f70 f71 f72 f73 f74 f104 f106 f110 f107 f66 f67) 261 (l492_6 dp1 dq2 q3 q4 dp3 dp4 zz53 dq50 da5 o6 o7 o8 o9) rfl at_261 (lenOf pd10 rfl) 0 7 46
   obtain ⟨rfl, Nq112, K113, f114, f115, f116, f117, f118, f119, f120, f121, f122⟩ := hQ111
   have N111 := Fr.app N63 Nq112
   have O111 := Old.keep O63 K113 (allS g_o7 (allS g_o9 all0))
   obtain ⟨_, T123, L123, X123, hQ123, st123⟩ := yv X111 hx hZ hown hby hml (y := yn2) (own_w hw 42 rfl) (w_43 hw) (own_w hw 45 rfl) (w_44 hw) (own_w hw 46 rfl) (w_33 hw) rfl f116 [(.long q3)] [] (rm26 l Z a0 hw w1 kw1 G [] o9 o10 ((1 : Int32)) ((4 : Int32)) ((2 : Int32)) ((0 : Int32)) q3 T111.heap n0 O111 g_o9 g_o10 f116 f117 f118 f119 f120 f121 f122) 267 (l492_6 dp1 dq2 q3 q4 dp3 dp4 zz53 dq50 da5 o6 o7 o8 o9) rfl at_267 (lenOf pd2 rfl) 0 7 46
   obtain ⟨rfl, Nq124, K125, f126, f127, f128, f129, f130, f131, f132⟩ := hQ123
   have N123 := Fr.app N111 Nq124
   have O123 := Old.keep O111 K125 (allS g_o9 all0)
   have pre133 : Go p e below T123 (mkF m 270 (l492_6 dp1 dq2 q3 q4 dp3 dp4 zz53 dq50 da5 o6 o7 o8 o9) []) E0 := fun t k => by
    refine pre103 _ ?_
    refine yfn X63 hx hby at_252 ((if0 _ _).trans (feq (by decide : ¬ ((1 : Int32) = (0 : Int32)))).1) ?_
    refine yal X63 hx hby at_255 rfl rfl ?_
    refine yal X63 hx hby at_257 rfl rfl ?_
    refine XS.lload X63.here hx rfl (hb hby at_259) rfl ?_
    refine st111 _ ?_
    refine yal X111 hx hby at_264 rfl rfl ?_
    refine XS.lloadN X111.here hx rfl (hb hby at_266) rfl ?_
    refine st123 _ ?_
    exact k
   have f134 := ((f66.keep K113).keep K125)
   have ne135 : o6 ≠ o9 := ne_exa f134 f126 (by decide)
   have f136 := ((f67.keep K113 (ninS ne_o6_o7 (ninS ne135 nin0))).keep K125 (ninS ne135 nin0))
   have f137 := (f114.keep K125)
   have f138 := (f115.keep K125 (ninS ne105 nin0))
   have f139 := (((P4.keep K65).keep K113).keep K125)
   exact ct18 hw w1 kw1 G o6 o7 o8 o9 dq50 zz53 dp1 dq2 q3 q4 dp3 dp4 da5 p1 q2 T123.heap n0 O123 hx hby hml hown hret hlk hZ (X123.more (by decide) (by decide)) rfl N123 pre133 g_o6 g_o7 g_o8 g_o9 f134 f136 f137 f138 f139 f126 f127 f128 f129 f130 f131 f132 (by have q0 := bzz53; omega)
def l493_0 (dp1 : Int32) (dq2 q3 q4 : Int64) (zz54 zz55 : Int32) (zz56 zz51 : Int32) (zz52 zz57 : Int32) (dq50 : Int64) (b1 b2 : Addr) (b10 b20 b30 : Addr) : Array Slot := #[.val (.int dp1), .val (.long dq2), .second, .val (.long q3), .second, .val (.long q4), .second, .val (.int 0), .val (.int zz54), .val (.int zz55), .val (.int zz56), .val (.int zz51), .val (.int zz52), .val (.int zz57), .val (.long dq50), .second, .val (.ref b1), .val (.ref b2), .val (.ref b10), .val (.ref b20), .val (.ref b30), .unset, .unset, .unset, .unset, .unset, .unset, .unset, .unset, .unset]
def l493_1 (dp1 : Int32) (dq2 q3 q4 : Int64) (zz54 zz55 : Int32) (zz56 zz51 : Int32) (zz52 zz57 : Int32) (dq50 : Int64) (b1 b2 : Addr) (b10 b20 b30 : Addr) : Array Slot := #[.val (.int dp1), .val (.long dq2), .second, .val (.long q3), .second, .val (.long q4), .second, .val (.int 1), .val (.int zz54), .val (.int zz55), .val (.int zz56), .val (.int zz51), .val (.int zz52), .val (.int zz57), .val (.long dq50), .second, .val (.ref b1), .val (.ref b2), .val (.ref b10), .val (.ref b20), .val (.ref b30), .unset, .unset, .unset, .unset, .unset, .unset, .unset, .unset, .unset]
def l493_2 (dp1 : Int32) (dq2 q3 q4 : Int64) (zz55 zz56 : Int32) (zz51 zz52 zz57 : Int32) (dq50 : Int64) (b1 b2 : Addr) (b10 b20 b30 : Addr) : Array Slot := #[.val (.int dp1), .val (.long dq2), .second, .val (.long q3), .second, .val (.long q4), .second, .val (.int 0), .val (.int 0), .val (.int zz55), .val (.int zz56), .val (.int zz51), .val (.int zz52), .val (.int zz57), .val (.long dq50), .second, .val (.ref b1), .val (.ref b2), .val (.ref b10), .val (.ref b20), .val (.ref b30), .unset, .unset, .unset, .unset, .unset, .unset, .unset, .unset, .unset]
def l493_3 (dp1 : Int32) (dq2 q3 q4 : Int64) (zz55 zz56 : Int32) (zz51 zz52 zz57 : Int32) (dq50 : Int64) (b1 b2 : Addr) (b10 b20 b30 : Addr) : Array Slot := #[.val (.int dp1), .val (.long dq2), .second, .val (.long q3), .second, .val (.long q4), .second, .val (.int 0), .val (.int 1), .val (.int zz55), .val (.int zz56), .val (.int zz51), .val (.int zz52), .val (.int zz57), .val (.long dq50), .second, .val (.ref b1), .val (.ref b2), .val (.ref b10), .val (.ref b20), .val (.ref b30), .unset, .unset, .unset, .unset, .unset, .unset, .unset, .unset, .unset]
def l493_4 (dp1 : Int32) (dq2 q3 q4 : Int64) (zz54 zz56 : Int32) (zz51 zz52 zz57 : Int32) (dq50 : Int64) (b1 b2 : Addr) (b10 b20 b30 : Addr) : Array Slot := #[.val (.int dp1), .val (.long dq2), .second, .val (.long q3), .second, .val (.long q4), .second, .val (.int 1), .val (.int zz54), .val (.int 0), .val (.int zz56), .val (.int zz51), .val (.int zz52), .val (.int zz57), .val (.long dq50), .second, .val (.ref b1), .val (.ref b2), .val (.ref b10), .val (.ref b20), .val (.ref b30), .unset, .unset, .unset, .unset, .unset, .unset, .unset, .unset, .unset]
def l493_5 (dp1 : Int32) (dq2 q3 q4 : Int64) (zz54 zz56 : Int32) (zz51 zz52 zz57 : Int32) (dq50 : Int64) (b1 b2 : Addr) (b10 b20 b30 : Addr) : Array Slot := #[.val (.int dp1), .val (.long dq2), .second, .val (.long q3), .second, .val (.long q4), .second, .val (.int 1), .val (.int zz54), .val (.int 1), .val (.int zz56), .val (.int zz51), .val (.int zz52), .val (.int zz57), .val (.long dq50), .second, .val (.ref b1), .val (.ref b2), .val (.ref b10), .val (.ref b20), .val (.ref b30), .unset, .unset, .unset, .unset, .unset, .unset, .unset, .unset, .unset]
def l493_6 (dp1 : Int32) (dq2 q3 q4 : Int64) (zz53 zz54 : Int32) (zz55 zz56 : Int32) (zz51 zz52 zz57 : Int32) (dq50 : Int64) (b1 b2 : Addr) (b10 b20 : Addr) : Array Slot := #[.val (.int dp1), .val (.long dq2), .second, .val (.long q3), .second, .val (.long q4), .second, .val (.int zz53), .val (.int zz54), .val (.int zz55), .val (.int zz56), .val (.int zz51), .val (.int zz52), .val (.int zz57), .val (.long dq50), .second, .val (.ref b1), .val (.ref b2), .val (.ref b10), .val (.ref b20), .unset, .unset, .unset, .unset, .unset, .unset, .unset, .unset, .unset, .unset]
def l493_7 (dp1 : Int32) (dq2 q3 q4 : Int64) (zz55 zz51 : Int32) (zz52 zz57 : Int32) (dq50 : Int64) (b1 b2 : Addr) (b10 b20 b30 : Addr) : Array Slot := #[.val (.int dp1), .val (.long dq2), .second, .val (.long q3), .second, .val (.long q4), .second, .val (.int 0), .val (.int 1), .val (.int zz55), .val (.int 0), .val (.int zz51), .val (.int zz52), .val (.int zz57), .val (.long dq50), .second, .val (.ref b1), .val (.ref b2), .val (.ref b10), .val (.ref b20), .val (.ref b30), .unset, .unset, .unset, .unset, .unset, .unset, .unset, .unset, .unset]
def l493_8 (dp1 : Int32) (dq2 q3 q4 : Int64) (zz55 zz51 : Int32) (zz52 zz57 : Int32) (dq50 : Int64) (b1 b2 : Addr) (b10 b20 b30 : Addr) : Array Slot := #[.val (.int dp1), .val (.long dq2), .second, .val (.long q3), .second, .val (.long q4), .second, .val (.int 0), .val (.int 1), .val (.int zz55), .val (.int 1), .val (.int zz51), .val (.int zz52), .val (.int zz57), .val (.long dq50), .second, .val (.ref b1), .val (.ref b2), .val (.ref b10), .val (.ref b20), .val (.ref b30), .unset, .unset, .unset, .unset, .unset, .unset, .unset, .unset, .unset]
def l493_9 (dp1 : Int32) (dq2 q3 q4 : Int64) (zz56 zz51 : Int32) (zz52 zz57 : Int32) (dq50 : Int64) (b1 b2 : Addr) (b10 b20 b30 : Addr) : Array Slot := #[.val (.int dp1), .val (.long dq2), .second, .val (.long q3), .second, .val (.long q4), .second, .val (.int 1), .val (.int 0), .val (.int 0), .val (.int zz56), .val (.int zz51), .val (.int zz52), .val (.int zz57), .val (.long dq50), .second, .val (.ref b1), .val (.ref b2), .val (.ref b10), .val (.ref b20), .val (.ref b30), .unset, .unset, .unset, .unset, .unset, .unset, .unset, .unset, .unset]
def l493_10 (dp1 : Int32) (dq2 q3 q4 : Int64) (zz56 zz51 : Int32) (zz52 zz57 : Int32) (dq50 : Int64) (b1 b2 : Addr) (b10 b20 b30 : Addr) : Array Slot := #[.val (.int dp1), .val (.long dq2), .second, .val (.long q3), .second, .val (.long q4), .second, .val (.int 1), .val (.int 1), .val (.int 0), .val (.int zz56), .val (.int zz51), .val (.int zz52), .val (.int zz57), .val (.long dq50), .second, .val (.ref b1), .val (.ref b2), .val (.ref b10), .val (.ref b20), .val (.ref b30), .unset, .unset, .unset, .unset, .unset, .unset, .unset, .unset, .unset]
def l493_11 (dp1 : Int32) (dq2 q3 q4 : Int64) (zz56 zz51 : Int32) (zz52 zz57 : Int32) (dq50 : Int64) (b1 b2 : Addr) (b10 b20 b30 : Addr) : Array Slot := #[.val (.int dp1), .val (.long dq2), .second, .val (.long q3), .second, .val (.long q4), .second, .val (.int 1), .val (.int 0), .val (.int 1), .val (.int zz56), .val (.int zz51), .val (.int zz52), .val (.int zz57), .val (.long dq50), .second, .val (.ref b1), .val (.ref b2), .val (.ref b10), .val (.ref b20), .val (.ref b30), .unset, .unset, .unset, .unset, .unset, .unset, .unset, .unset, .unset]
def l493_12 (dp1 : Int32) (dq2 q3 q4 : Int64) (zz56 zz51 : Int32) (zz52 zz57 : Int32) (dq50 : Int64) (b1 b2 : Addr) (b10 b20 b30 : Addr) : Array Slot := #[.val (.int dp1), .val (.long dq2), .second, .val (.long q3), .second, .val (.long q4), .second, .val (.int 1), .val (.int 1), .val (.int 1), .val (.int zz56), .val (.int zz51), .val (.int zz52), .val (.int zz57), .val (.long dq50), .second, .val (.ref b1), .val (.ref b2), .val (.ref b10), .val (.ref b20), .val (.ref b30), .unset, .unset, .unset, .unset, .unset, .unset, .unset, .unset, .unset]
def l493_13 (dp1 : Int32) (dq2 q3 q4 : Int64) (zz51 zz52 zz57 : Int32) (dq50 : Int64) (b1 b2 : Addr) (b10 b20 b30 : Addr) : Array Slot := #[.val (.int dp1), .val (.long dq2), .second, .val (.long q3), .second, .val (.long q4), .second, .val (.int 1), .val (.int 1), .val (.int 0), .val (.int 0), .val (.int zz51), .val (.int zz52), .val (.int zz57), .val (.long dq50), .second, .val (.ref b1), .val (.ref b2), .val (.ref b10), .val (.ref b20), .val (.ref b30), .unset, .unset, .unset, .unset, .unset, .unset, .unset, .unset, .unset]
def l493_14 (dp1 : Int32) (dq2 q3 q4 : Int64) (zz51 zz52 zz57 : Int32) (dq50 : Int64) (b1 b2 : Addr) (b10 b20 b30 : Addr) : Array Slot := #[.val (.int dp1), .val (.long dq2), .second, .val (.long q3), .second, .val (.long q4), .second, .val (.int 1), .val (.int 1), .val (.int 0), .val (.int 1), .val (.int zz51), .val (.int zz52), .val (.int zz57), .val (.long dq50), .second, .val (.ref b1), .val (.ref b2), .val (.ref b10), .val (.ref b20), .val (.ref b30), .unset, .unset, .unset, .unset, .unset, .unset, .unset, .unset, .unset]
def l493_15 (dp1 : Int32) (dq2 q3 q4 : Int64) (zz51 zz52 zz57 : Int32) (dq50 : Int64) (b1 b2 : Addr) (b10 b20 b30 : Addr) : Array Slot := #[.val (.int dp1), .val (.long dq2), .second, .val (.long q3), .second, .val (.long q4), .second, .val (.int 1), .val (.int 1), .val (.int 1), .val (.int 0), .val (.int zz51), .val (.int zz52), .val (.int zz57), .val (.long dq50), .second, .val (.ref b1), .val (.ref b2), .val (.ref b10), .val (.ref b20), .val (.ref b30), .unset, .unset, .unset, .unset, .unset, .unset, .unset, .unset, .unset]
def l493_16 (dp1 : Int32) (dq2 q3 q4 : Int64) (zz51 zz52 zz57 : Int32) (dq50 : Int64) (b1 b2 : Addr) (b10 b20 b30 : Addr) : Array Slot := #[.val (.int dp1), .val (.long dq2), .second, .val (.long q3), .second, .val (.long q4), .second, .val (.int 1), .val (.int 1), .val (.int 1), .val (.int 1), .val (.int zz51), .val (.int zz52), .val (.int zz57), .val (.long dq50), .second, .val (.ref b1), .val (.ref b2), .val (.ref b10), .val (.ref b20), .val (.ref b30), .unset, .unset, .unset, .unset, .unset, .unset, .unset, .unset, .unset]
def l493_17 (dp1 : Int32) (dq2 q3 q4 : Int64) (zz53 zz54 : Int32) (zz55 zz56 : Int32) (zz51 zz52 zz57 : Int32) (dq50 : Int64) (b1 b2 b10 : Addr) : Array Slot := #[.val (.int dp1), .val (.long dq2), .second, .val (.long q3), .second, .val (.long q4), .second, .val (.int zz53), .val (.int zz54), .val (.int zz55), .val (.int zz56), .val (.int zz51), .val (.int zz52), .val (.int zz57), .val (.long dq50), .second, .val (.ref b1), .val (.ref b2), .val (.ref b10), .unset, .unset, .unset, .unset, .unset, .unset, .unset, .unset, .unset, .unset, .unset]
def l493_18 (dp1 : Int32) (dq2 q3 q4 : Int64) (zz53 zz54 : Int32) (zz55 zz56 : Int32) (zz51 zz52 zz57 : Int32) (dq50 : Int64) (b1 b2 : Addr) : Array Slot := #[.val (.int dp1), .val (.long dq2), .second, .val (.long q3), .second, .val (.long q4), .second, .val (.int zz53), .val (.int zz54), .val (.int zz55), .val (.int zz56), .val (.int zz51), .val (.int zz52), .val (.int zz57), .val (.long dq50), .second, .val (.ref b1), .val (.ref b2), .unset, .unset, .unset, .unset, .unset, .unset, .unset, .unset, .unset, .unset, .unset, .unset]
def l493_19 (dp1 : Int32) (dq2 q3 q4 : Int64) (zz53 zz54 : Int32) (zz55 zz56 : Int32) (zz51 zz52 zz57 : Int32) (dq50 : Int64) (b1 : Addr) : Array Slot := #[.val (.int dp1), .val (.long dq2), .second, .val (.long q3), .second, .val (.long q4), .second, .val (.int zz53), .val (.int zz54), .val (.int zz55), .val (.int zz56), .val (.int zz51), .val (.int zz52), .val (.int zz57), .val (.long dq50), .second, .val (.ref b1), .unset, .unset, .unset, .unset, .unset, .unset, .unset, .unset, .unset, .unset, .unset, .unset, .unset]
def l493_20 (dp1 : Int32) (dq2 q3 q4 : Int64) (zz53 zz54 : Int32) (zz55 zz56 : Int32) (zz51 zz52 zz57 : Int32) (dq50 : Int64) : Array Slot := #[.val (.int dp1), .val (.long dq2), .second, .val (.long q3), .second, .val (.long q4), .second, .val (.int zz53), .val (.int zz54), .val (.int zz55), .val (.int zz56), .val (.int zz51), .val (.int zz52), .val (.int zz57), .val (.long dq50), .second, .unset, .unset, .unset, .unset, .unset, .unset, .unset, .unset, .unset, .unset, .unset, .unset, .unset, .unset]
set_option maxRecDepth 65536 in
set_option maxHeartbeats 40000000 in
theorem ct2 {p : Program} {l : Launch} {e : Env} {s : State} {m : MethodId} {below : List Frame} {meth : Method} {c : Code} {E0 T0 : State} {locs : List Loc} {Z : State} {a0 : Array Value} (hw : HW a0 Z) (w1 : Addr) (kw1 : ClassId) (G : GW Z w1 kw1) (dq50 : Int64) (zz53 zz51 : Int32) (zz54 zz52 : Int32) (zz55 zz56 : Int32) (zz57 dp1 : Int32) (dq2 q3 q4 : Int64) (p1 : Int32) (q2 : Int64) (h0 : Heap) (n0 : Nat) (O0 : Old Z n0 h0)
    (hx : p.tables.exec = Jvm.exec) (hby : c.code = code) (hml : c.maxLocals = 30) (hown : s.vm.findClass cn8 = some m.cls) (hret : meth.sig.returnType = ret) (hlk : meth.locks = false) (hZ : Z.Warmed39 s.vm)
    (X0 : Stand p l e room_1 s m #[(.int p1), (.long q2), (.long q3), (.long q4)] below meth c T0 locs 0 0) (e0 : T0.heap = h0) (N0 : Fr n0 locs) (pre0 : Go p e below T0 (mkF m 122 (l493_20 dp1 dq2 q3 q4 zz53 zz54 zz55 zz56 zz51 zz52 zz57 dq50) []) E0) (hC0 : ¬ (dq50 = (9223372036854775807 : Int64))) (hC1 : ¬ (zz53 < zz51)) (hC2 : ¬ (zz54 < zz52)) (bzz51 : 0 ≤ zz51.toInt ∧ zz51.toInt ≤ 1) (bzz52 : 0 ≤ zz52.toInt ∧ zz52.toInt ≤ 1) (bzz53 : 0 ≤ zz53.toInt ∧ zz53.toInt ≤ 1) (bzz54 : 0 ≤ zz54.toInt ∧ zz54.toInt ≤ 1) (bzz55 : 0 ≤ zz55.toInt ∧ zz55.toInt ≤ 1) (bzz56 : 0 ≤ zz56.toInt ∧ zz56.toInt ≤ 1) (bzz57 : 0 ≤ zz57.toInt ∧ zz57.toInt ≤ 1) :
    ∃ (s₂ : State) (o : Outcome), Steps p.tables e below E0 s₂ ∧ s₂.status = .running ∧ Ended s₂ below o ∧ ∃ v L, o = .returned v ∧ Q0 n0 v s₂.heap L ∧ FrameEnd s o s₂ L 24 192 := by
 obtain ⟨S_w1, A_w1⟩ := id G
 obtain ⟨T1, h1, k1, X1, e1, E1, A1, EX1, OV1, st1⟩ := newRE X0 hx hZ hown (own_w hw 1 rfl) (own_w hw 2 rfl) e0 (g := (mkF m 123 (l493_20 dp1 dq2 q3 q4 zz53 zz54 zz55 zz56 zz51 zz52 zz57 dq50) [(.int 0)])) rfl (hb hby at_123) rfl (by decide) (cap := 0) (by decide) (by decide) (by decide) (by decide) (ad := cn5) (by decide)
 obtain ⟨b1, g1⟩ : ∃ z, z = h0.size := ⟨_, rfl⟩
 rw [← g1] at A1 EX1 st1
 have M1 : h0.size ≤ h1.size := Nat.le_trans (Nat.le_refl _) E1.1
 have O1 := Old.ext O0 E1
 have sz_b1 : h0.size ≤ b1 := Nat.le_of_eq g1.symm
 have g_b1 : n0 ≤ b1 := Nat.le_trans (own_oz O0) (Nat.le_trans (Nat.le_refl _) sz_b1)
 have V1_0 := Arv.new A1 (by decide)
 have V1 : Arv Z h1 b1 k1 (.object cn10) (0 : Int32) [] .null := V1_0
 obtain ⟨T2, h2, X2, e2, E2, A2, D2, -, st2⟩ := newO X1 hx hZ hown (own_w hw 3 rfl) (own_w hw 4 rfl) (w_5 hw) e1 (g := (mkF m 128 (l493_19 dp1 dq2 q3 q4 zz53 zz54 zz55 zz56 zz51 zz52 zz57 dq50 b1) [])) rfl (hb hby at_128) (by decide) (by decide)
 obtain ⟨b2, g2⟩ : ∃ z, z = h1.size := ⟨_, rfl⟩
 rw [← g2] at A2 D2 st2
 have M2 : h0.size ≤ h2.size := Nat.le_trans M1 E2.1
 have O2 := Old.ext O1 E2
 have sz_b2 : h1.size ≤ b2 := Nat.le_of_eq g2.symm
 have g_b2 : n0 ≤ b2 := Nat.le_trans (own_oz O0) (Nat.le_trans M1 sz_b2)
 have F2_14 : Fld Z h2 b2 cn6 "removed" "J" (.long 0) := D2 (Or.inl (w_14 hw)) (ty := .long) (by decide)
 have F2_16 : Fld Z h2 b2 cn6 "head" cn5 .null := D2 (Or.inr (own_w hw 16 rfl)) (ty := (.array (.object cn10))) (by decide)
 have F2_18 : Fld Z h2 b2 cn6 "goals" cn5 .null := D2 (Or.inr (own_w hw 18 rfl)) (ty := (.array (.object cn10))) (by decide)
 have F2_20 : Fld Z h2 b2 cn6 "goalPredicates" cn4 .null := D2 (Or.inr (own_w hw 20 rfl)) (ty := (.array (.object cn9))) (by decide)
 have F2_22 : Fld Z h2 b2 cn6 "body" cn0 .null := D2 (Or.inr (own_w hw 22 rfl)) (ty := (.object cn10)) (by decide)
 have F2_24 : Fld Z h2 b2 cn6 "variables" "I" (.int 0) := D2 (Or.inr (own_w hw 24 rfl)) (ty := .int) (by decide)
 have F2_26 : Fld Z h2 b2 cn6 "keyConstant" cn2 .null := D2 (Or.inr (own_w hw 26 rfl)) (ty := (.object cn12)) (by decide)
 have F2_28 : Fld Z h2 b2 cn6 "keyName" cn1 .null := D2 (Or.inr (own_w hw 28 rfl)) (ty := (.object cn11)) (by decide)
 have F2_30 : Fld Z h2 b2 cn6 "keyArity" "I" (.int 0) := D2 (Or.inr (own_w hw 30 rfl)) (ty := .int) (by decide)
 have f3 := (V1.ext E2)
 have f4 := (EX1.ext E2)
 obtain ⟨_, T5, L5, X5, hQ5, st5⟩ := own_sb X2 hx hZ hown (y := yn0) (own_w hw 6 rfl) (own_w hw 7 rfl) (own_w hw 8 rfl) (w_5 hw) e2 (a := b2) (argsL := [(.ref b1), .null, .null, .null, (.int 0)]) (rest := [(.ref b2)]) (rm1 l Z a0 hw [] b2 b1 k1 h2 n0 O2 g_b2 g_b1 OV1 A2 F2_22 F2_20 F2_18 F2_16 F2_30 F2_26 F2_28 F2_14 F2_24 f3 f4) (g := (mkF m 138 (l493_19 dp1 dq2 q3 q4 zz53 zz54 zz55 zz56 zz51 zz52 zz57 dq50 b1) [(.int 0), .null, .null, .null, (.ref b1), (.ref b2), (.ref b2)])) rfl (by rw [hml]; rfl) rfl (hb hby at_138) (lenOf pd0 rfl) (W := 1) (c1 := 2) (s1 := 9)
 obtain ⟨rfl, Nq6, K7, f8, f9⟩ := hQ5
 have N5 := Fr.app N0 Nq6
 have M5 : h0.size ≤ T5.heap.size := Nat.le_trans M2 K7.1
 have O5 := Old.keep O2 K7 (allS g_b2 all0)
 obtain ⟨T10, h10, X10, e10, E10, A10, D10, -, st10⟩ := newO X5 hx hZ hown (own_w hw 3 rfl) (own_w hw 4 rfl) (w_5 hw) rfl (g := (mkF m 143 (l493_18 dp1 dq2 q3 q4 zz53 zz54 zz55 zz56 zz51 zz52 zz57 dq50 b1 b2) [])) rfl (hb hby at_143) (by decide) (by decide)
 obtain ⟨b10, g10⟩ : ∃ z, z = T5.heap.size := ⟨_, rfl⟩
 rw [← g10] at A10 D10 st10
 have M10 : h0.size ≤ h10.size := Nat.le_trans M5 E10.1
 have O10 := Old.ext O5 E10
 have sz_b10 : T5.heap.size ≤ b10 := Nat.le_of_eq g10.symm
 have g_b10 : n0 ≤ b10 := Nat.le_trans (own_oz O0) (Nat.le_trans M5 sz_b10)
 have F10_14 : Fld Z h10 b10 cn6 "removed" "J" (.long 0) := D10 (Or.inl (w_14 hw)) (ty := .long) (by decide)
 have F10_16 : Fld Z h10 b10 cn6 "head" cn5 .null := D10 (Or.inr (own_w hw 16 rfl)) (ty := (.array (.object cn10))) (by decide)
 have F10_18 : Fld Z h10 b10 cn6 "goals" cn5 .null := D10 (Or.inr (own_w hw 18 rfl)) (ty := (.array (.object cn10))) (by decide)
 have F10_20 : Fld Z h10 b10 cn6 "goalPredicates" cn4 .null := D10 (Or.inr (own_w hw 20 rfl)) (ty := (.array (.object cn9))) (by decide)
 have F10_22 : Fld Z h10 b10 cn6 "body" cn0 .null := D10 (Or.inr (own_w hw 22 rfl)) (ty := (.object cn10)) (by decide)
 have F10_24 : Fld Z h10 b10 cn6 "variables" "I" (.int 0) := D10 (Or.inr (own_w hw 24 rfl)) (ty := .int) (by decide)
 have F10_26 : Fld Z h10 b10 cn6 "keyConstant" cn2 .null := D10 (Or.inr (own_w hw 26 rfl)) (ty := (.object cn12)) (by decide)
 have F10_28 : Fld Z h10 b10 cn6 "keyName" cn1 .null := D10 (Or.inr (own_w hw 28 rfl)) (ty := (.object cn11)) (by decide)
 have F10_30 : Fld Z h10 b10 cn6 "keyArity" "I" (.int 0) := D10 (Or.inr (own_w hw 30 rfl)) (ty := .int) (by decide)
 have lt11 : b1 < h1.size := V1.lt
 have ne12 : b1 ≠ b2 := Nat.ne_of_lt (Nat.lt_of_lt_of_le lt11 sz_b2)
 have f13 := ((f3.keep K7 (ninS ne12 nin0)).ext E10)
 have f14 := ((f4.keep K7).ext E10)
 obtain ⟨_, T15, L15, X15, hQ15, st15⟩ := own_sb X10 hx hZ hown (y := yn0) (own_w hw 6 rfl) (own_w hw 7 rfl) (own_w hw 8 rfl) (w_5 hw) e10 (a := b10) (argsL := [(.ref b1), .null, .null, .null, (.int 0)]) (rest := [(.ref b10)]) (rm1 l Z a0 hw [] b10 b1 k1 h10 n0 O10 g_b10 g_b1 OV1 A10 F10_22 F10_20 F10_18 F10_16 F10_30 F10_26 F10_28 F10_14 F10_24 f13 f14) (g := (mkF m 153 (l493_18 dp1 dq2 q3 q4 zz53 zz54 zz55 zz56 zz51 zz52 zz57 dq50 b1 b2) [(.int 0), .null, .null, .null, (.ref b1), (.ref b10), (.ref b10)])) rfl (by rw [hml]; rfl) rfl (hb hby at_153) (lenOf pd0 rfl) (W := 1) (c1 := 3) (s1 := 18)
 obtain ⟨rfl, Nq16, K17, f18, f19⟩ := hQ15
 have N15 := Fr.app N5 Nq16
 have M15 : h0.size ≤ T15.heap.size := Nat.le_trans M10 K17.1
 have O15 := Old.keep O10 K17 (allS g_b10 all0)
 obtain ⟨T20, h20, X20, e20, E20, A20, D20, -, st20⟩ := newO X15 hx hZ hown (own_w hw 3 rfl) (own_w hw 4 rfl) (w_5 hw) rfl (g := (mkF m 158 (l493_17 dp1 dq2 q3 q4 zz53 zz54 zz55 zz56 zz51 zz52 zz57 dq50 b1 b2 b10) [])) rfl (hb hby at_158) (by decide) (by decide)
 obtain ⟨b20, g20⟩ : ∃ z, z = T15.heap.size := ⟨_, rfl⟩
 rw [← g20] at A20 D20 st20
 have M20 : h0.size ≤ h20.size := Nat.le_trans M15 E20.1
 have O20 := Old.ext O15 E20
 have sz_b20 : T15.heap.size ≤ b20 := Nat.le_of_eq g20.symm
 have g_b20 : n0 ≤ b20 := Nat.le_trans (own_oz O0) (Nat.le_trans M15 sz_b20)
 have F20_14 : Fld Z h20 b20 cn6 "removed" "J" (.long 0) := D20 (Or.inl (w_14 hw)) (ty := .long) (by decide)
 have F20_16 : Fld Z h20 b20 cn6 "head" cn5 .null := D20 (Or.inr (own_w hw 16 rfl)) (ty := (.array (.object cn10))) (by decide)
 have F20_18 : Fld Z h20 b20 cn6 "goals" cn5 .null := D20 (Or.inr (own_w hw 18 rfl)) (ty := (.array (.object cn10))) (by decide)
 have F20_20 : Fld Z h20 b20 cn6 "goalPredicates" cn4 .null := D20 (Or.inr (own_w hw 20 rfl)) (ty := (.array (.object cn9))) (by decide)
 have F20_22 : Fld Z h20 b20 cn6 "body" cn0 .null := D20 (Or.inr (own_w hw 22 rfl)) (ty := (.object cn10)) (by decide)
 have F20_24 : Fld Z h20 b20 cn6 "variables" "I" (.int 0) := D20 (Or.inr (own_w hw 24 rfl)) (ty := .int) (by decide)
 have F20_26 : Fld Z h20 b20 cn6 "keyConstant" cn2 .null := D20 (Or.inr (own_w hw 26 rfl)) (ty := (.object cn12)) (by decide)
 have F20_28 : Fld Z h20 b20 cn6 "keyName" cn1 .null := D20 (Or.inr (own_w hw 28 rfl)) (ty := (.object cn11)) (by decide)
 have F20_30 : Fld Z h20 b20 cn6 "keyArity" "I" (.int 0) := D20 (Or.inr (own_w hw 30 rfl)) (ty := .int) (by decide)
 have lt21 : b1 < T5.heap.size := (Nat.lt_of_lt_of_le (Nat.lt_of_lt_of_le V1.lt E2.1) K7.1)
 have ne22 : b1 ≠ b10 := Nat.ne_of_lt (Nat.lt_of_lt_of_le lt21 sz_b10)
 have f23 := ((f13.keep K17 (ninS ne22 nin0)).ext E20)
 have f24 := ((f14.keep K17).ext E20)
 obtain ⟨_, T25, L25, X25, hQ25, st25⟩ := own_sb X20 hx hZ hown (y := yn0) (own_w hw 6 rfl) (own_w hw 7 rfl) (own_w hw 8 rfl) (w_5 hw) e20 (a := b20) (argsL := [(.ref b1), .null, .null, .null, (.int 0)]) (rest := [(.ref b20)]) (rm1 l Z a0 hw [] b20 b1 k1 h20 n0 O20 g_b20 g_b1 OV1 A20 F20_22 F20_20 F20_18 F20_16 F20_30 F20_26 F20_28 F20_14 F20_24 f23 f24) (g := (mkF m 168 (l493_17 dp1 dq2 q3 q4 zz53 zz54 zz55 zz56 zz51 zz52 zz57 dq50 b1 b2 b10) [(.int 0), .null, .null, .null, (.ref b1), (.ref b20), (.ref b20)])) rfl (by rw [hml]; rfl) rfl (hb hby at_168) (lenOf pd0 rfl) (W := 1) (c1 := 4) (s1 := 27)
 obtain ⟨rfl, Nq26, K27, f28, f29⟩ := hQ25
 have N25 := Fr.app N15 Nq26
 have M25 : h0.size ≤ T25.heap.size := Nat.le_trans M20 K27.1
 have O25 := Old.keep O20 K27 (allS g_b20 all0)
 obtain ⟨T30, h30, X30, e30, E30, A30, D30, -, st30⟩ := newO X25 hx hZ hown (own_w hw 31 rfl) (w_32 hw) (w_33 hw) rfl (g := (mkF m 173 (l493_6 dp1 dq2 q3 q4 zz53 zz54 zz55 zz56 zz51 zz52 zz57 dq50 b1 b2 b10 b20) [])) rfl (hb hby at_173) (by decide) (by decide)
 obtain ⟨b30, g30⟩ : ∃ z, z = T25.heap.size := ⟨_, rfl⟩
 rw [← g30] at A30 D30 st30
 have O30 := Old.ext O25 E30
 have sz_b30 : T25.heap.size ≤ b30 := Nat.le_of_eq g30.symm
 have g_b30 : n0 ≤ b30 := Nat.le_trans (own_oz O0) (Nat.le_trans M25 sz_b30)
 have F30_41 : Fld Z h30 b30 cn7 "slots" cn3 .null := D30 (Or.inl (w_41 hw)) (ty := (.array (.object cn6))) (by decide)
 have F30_48 : Fld Z h30 b30 cn7 "first" "I" (.int 0) := D30 (Or.inl (w_48 hw)) (ty := .int) (by decide)
 have F30_50 : Fld Z h30 b30 cn7 "end" "I" (.int 0) := D30 (Or.inl (w_50 hw)) (ty := .int) (by decide)
 have F30_52 : Fld Z h30 b30 cn7 "low" "I" (.int 0) := D30 (Or.inl (w_52 hw)) (ty := .int) (by decide)
 have F30_54 : Fld Z h30 b30 cn7 "removed" "I" (.int 0) := D30 (Or.inl (w_54 hw)) (ty := .int) (by decide)
 have F30_56 : Fld Z h30 b30 cn7 "addsFirst" "Z" (.int 0) := D30 (Or.inl (w_56 hw)) (ty := .boolean) (by decide)
 obtain ⟨_, T31, L31, X31, hQ31, st31⟩ := own_sb X30 hx hZ hown (y := yn1) (own_w hw 34 rfl) (own_w hw 35 rfl) (own_w hw 36 rfl) (w_33 hw) e30 (a := b30) (argsL := []) (rest := [(.ref b30)]) (rm2 l Z a0 hw w1 kw1 G [] b30 h30 n0 O30 g_b30 A30 F30_56 F30_50 F30_48 F30_52 F30_54 F30_41) (g := (mkF m 177 (l493_6 dp1 dq2 q3 q4 zz53 zz54 zz55 zz56 zz51 zz52 zz57 dq50 b1 b2 b10 b20) [(.ref b30), (.ref b30)])) rfl (by rw [hml]; rfl) rfl (hb hby at_177) (lenOf pd1 rfl) (W := 1) (c1 := 5) (s1 := 33)
 obtain ⟨rfl, Nq32, K33, f34, f35, f36, f37, f38, f39, f40⟩ := hQ31
 have N31 := Fr.app N25 Nq32
 have O31 := Old.keep O30 K33 (allS g_b30 all0)
 have pre41 : Go p e below T31 (mkF m 184 #[.val (.int dp1), .val (.long dq2), .second, .val (.long q3), .second, .val (.long q4), .second, .val (.int zz53), .val (.int zz54), .val (.int zz55), .val (.int zz56), .val (.int zz51), .val (.int zz52), .val (.int zz57), .val (.long dq50), .second, .val (.ref b1), .val (.ref b2), .val (.ref b10), .val (.ref b20), .val (.ref b30), .unset, .unset, .unset, .unset, .unset, .unset, .unset, .unset, .unset] [(.int zz53)]) E0 := fun t k => by
  refine pre0 _ ?_
  refine yic X0 hx hby at_122 ?_
  refine st1 _ ?_
  refine XS.astore X1.here hx rfl (hb hby at_126) rfl rfl (l' := (l493_19 dp1 dq2 q3 q4 zz53 zz54 zz55 zz56 zz51 zz52 zz57 dq50 b1)) rfl ?_
  refine st2 _ ?_
  refine XS.dup X2.here hx rfl (hb hby at_131) rfl rfl ?_
  refine yal X2 hx hby at_132 rfl rfl ?_
  refine XS.aconstNull X2.here hx rfl (hb hby at_134) ?_
  refine XS.aconstNull X2.here hx rfl (hb hby at_135) ?_
  refine XS.aconstNull X2.here hx rfl (hb hby at_136) ?_
  refine yic X2 hx hby at_137 ?_
  refine st5 _ ?_
  refine XS.astore X5.here hx rfl (hb hby at_141) rfl rfl (l' := (l493_18 dp1 dq2 q3 q4 zz53 zz54 zz55 zz56 zz51 zz52 zz57 dq50 b1 b2)) rfl ?_
  refine st10 _ ?_
  refine XS.dup X10.here hx rfl (hb hby at_146) rfl rfl ?_
  refine yal X10 hx hby at_147 rfl rfl ?_
  refine XS.aconstNull X10.here hx rfl (hb hby at_149) ?_
  refine XS.aconstNull X10.here hx rfl (hb hby at_150) ?_
  refine XS.aconstNull X10.here hx rfl (hb hby at_151) ?_
  refine yic X10 hx hby at_152 ?_
  refine st15 _ ?_
  refine XS.astore X15.here hx rfl (hb hby at_156) rfl rfl (l' := (l493_17 dp1 dq2 q3 q4 zz53 zz54 zz55 zz56 zz51 zz52 zz57 dq50 b1 b2 b10)) rfl ?_
  refine st20 _ ?_
  refine XS.dup X20.here hx rfl (hb hby at_161) rfl rfl ?_
  refine yal X20 hx hby at_162 rfl rfl ?_
  refine XS.aconstNull X20.here hx rfl (hb hby at_164) ?_
  refine XS.aconstNull X20.here hx rfl (hb hby at_165) ?_
  refine XS.aconstNull X20.here hx rfl (hb hby at_166) ?_
  refine yic X20 hx hby at_167 ?_
  refine st25 _ ?_
  refine XS.astore X25.here hx rfl (hb hby at_171) rfl rfl (l' := (l493_6 dp1 dq2 q3 q4 zz53 zz54 zz55 zz56 zz51 zz52 zz57 dq50 b1 b2 b10 b20)) rfl ?_
  refine st30 _ ?_
  refine XS.dup X30.here hx rfl (hb hby at_176) rfl rfl ?_
  refine st31 _ ?_
  refine XS.astore X31.here hx rfl (hb hby at_180) rfl rfl (l' := #[.val (.int dp1), .val (.long dq2), .second, .val (.long q3), .second, .val (.long q4), .second, .val (.int zz53), .val (.int zz54), .val (.int zz55), .val (.int zz56), .val (.int zz51), .val (.int zz52), .val (.int zz57), .val (.long dq50), .second, .val (.ref b1), .val (.ref b2), .val (.ref b10), .val (.ref b20), .val (.ref b30), .unset, .unset, .unset, .unset, .unset, .unset, .unset, .unset, .unset]) rfl ?_
  refine yil X31 hx hby at_182 rfl ?_
  exact k
 by_cases hc42 : zz53 = (0 : Int32)
 ·
  have pre43 : Go p e below T31 (mkF m 184 (l493_0 dp1 dq2 q3 q4 zz54 zz55 zz56 zz51 zz52 zz57 dq50 b1 b2 b10 b20 b30) [(.int 0)]) E0 := fun t k => pre41 t (by rw [hc42]; exact k)
  have pre44 : Go p e below T31 (mkF m 211 (l493_0 dp1 dq2 q3 q4 zz54 zz55 zz56 zz51 zz52 zz57 dq50 b1 b2 b10 b20 b30) [(.int zz54)]) E0 := fun t k => by
   refine pre43 _ ?_
   refine XS.ifYes X31.here hx rfl (pc0 := 184) (pc' := 209) rfl (hb hby at_184) rfl ((if0 _ _).trans (teq (by decide : (0 : Int32) = (0 : Int32))).1) (by decide) (by decide) ?_
   refine yil X31 hx hby at_209 rfl ?_
   exact k
  by_cases hc45 : zz54 = (0 : Int32)
  ·
   have pre46 : Go p e below T31 (mkF m 211 (l493_2 dp1 dq2 q3 q4 zz55 zz56 zz51 zz52 zz57 dq50 b1 b2 b10 b20 b30) [(.int 0)]) E0 := fun t k => pre44 t (by rw [hc45]; exact k)
   have pre47 : Go p e below T31 (mkF m 236 (l493_2 dp1 dq2 q3 q4 zz55 zz56 zz51 zz52 zz57 dq50 b1 b2 b10 b20 b30) []) E0 := fun t k => by
    refine pre46 _ ?_
    refine XS.ifYes X31.here hx rfl (pc0 := 211) (pc' := 236) rfl (hb hby at_211) rfl ((if0 _ _).trans (teq (by decide : (0 : Int32) = (0 : Int32))).1) (by decide) (by decide) ?_
    exact k
   have hq48 : zz51 = (0 : Int32) := (own_geq (n := 0) (k := (0 : Int32)) (by decide) (by have q0 := bzz51; have q1 := own_nlt2 (n := 0) (k := (0 : Int32)) (by decide) (by rw [← hc42]; exact hC1); omega))
   have pre49 : Go p e below T31 (mkF m 236 #[.val (.int dp1), .val (.long dq2), .second, .val (.long q3), .second, .val (.long q4), .second, .val (.int 0), .val (.int 0), .val (.int zz55), .val (.int zz56), .val (.int 0), .val (.int zz52), .val (.int zz57), .val (.long dq50), .second, .val (.ref b1), .val (.ref b2), .val (.ref b10), .val (.ref b20), .val (.ref b30), .unset, .unset, .unset, .unset, .unset, .unset, .unset, .unset, .unset] []) E0 := fun t k => pre47 t (by rw [hq48]; exact k)
   have hq50 : zz52 = (0 : Int32) := (own_geq (n := 0) (k := (0 : Int32)) (by decide) (by have q0 := bzz52; have q1 := own_nlt2 (n := 0) (k := (0 : Int32)) (by decide) (by rw [← hc45]; exact hC2); omega))
   have pre51 : Go p e below T31 (mkF m 236 #[.val (.int dp1), .val (.long dq2), .second, .val (.long q3), .second, .val (.long q4), .second, .val (.int 0), .val (.int 0), .val (.int zz55), .val (.int zz56), .val (.int 0), .val (.int 0), .val (.int zz57), .val (.long dq50), .second, .val (.ref b1), .val (.ref b2), .val (.ref b10), .val (.ref b20), .val (.ref b30), .unset, .unset, .unset, .unset, .unset, .unset, .unset, .unset, .unset] []) E0 := fun t k => pre49 t (by rw [hq50]; exact k)
   have f52 := ((((((f8.ext E10).keep K17).ext E20).keep K27).ext E30).keep K33)
   have lt53 : b2 < T5.heap.size := (Nat.lt_of_lt_of_le A2.lt K7.1)
   have ne54 : b2 ≠ b10 := Nat.ne_of_lt (Nat.lt_of_lt_of_le lt53 sz_b10)
   have lt55 : b2 < T15.heap.size := (Nat.lt_of_lt_of_le (Nat.lt_of_lt_of_le (Nat.lt_of_lt_of_le A2.lt K7.1) E10.1) K17.1)
   have ne56 : b2 ≠ b20 := Nat.ne_of_lt (Nat.lt_of_lt_of_le lt55 sz_b20)
   have lt57 : b2 < T25.heap.size := (Nat.lt_of_lt_of_le (Nat.lt_of_lt_of_le (Nat.lt_of_lt_of_le (Nat.lt_of_lt_of_le (Nat.lt_of_lt_of_le A2.lt K7.1) E10.1) K17.1) E20.1) K27.1)
   have ne58 : b2 ≠ b30 := Nat.ne_of_lt (Nat.lt_of_lt_of_le lt57 sz_b30)
   have f59 := ((((((f9.ext E10).keep K17 (ninS ne54 nin0)).ext E20).keep K27 (ninS ne56 nin0)).ext E30).keep K33 (ninS ne58 nin0))
   have f60 := ((((f18.ext E20).keep K27).ext E30).keep K33)
   have lt61 : b10 < T15.heap.size := (Nat.lt_of_lt_of_le A10.lt K17.1)
   have ne62 : b10 ≠ b20 := Nat.ne_of_lt (Nat.lt_of_lt_of_le lt61 sz_b20)
   have lt63 : b10 < T25.heap.size := (Nat.lt_of_lt_of_le (Nat.lt_of_lt_of_le (Nat.lt_of_lt_of_le A10.lt K17.1) E20.1) K27.1)
   have ne64 : b10 ≠ b30 := Nat.ne_of_lt (Nat.lt_of_lt_of_le lt63 sz_b30)
   have f65 := ((((f19.ext E20).keep K27 (ninS ne62 nin0)).ext E30).keep K33 (ninS ne64 nin0))
   have f66 := ((f28.ext E30).keep K33)
   exact ct3 hw w1 kw1 G b2 b10 b20 b30 dq50 zz57 dp1 dq2 q3 q4 zz55 zz56 b1 p1 q2 T31.heap n0 O31 hx hby hml hown hret hlk hZ (X31.more (by decide) (by decide)) rfl N31 pre51 g_b2 g_b10 g_b20 g_b30 f52 f59 f60 f65 f66 f34 f35 f36 f37 f38 f39 f40 hC0 (by have q0 := bzz57; omega)
  ·
   have hq67 : zz54 = (1 : Int32) := (own_geq (n := 1) (k := (1 : Int32)) (by decide) (by have q0 := bzz54; have q1 := own_neq (n := 0) (k := (0 : Int32)) (by decide) hc45; omega))
   have pre68 : Go p e below T31 (mkF m 211 (l493_3 dp1 dq2 q3 q4 zz55 zz56 zz51 zz52 zz57 dq50 b1 b2 b10 b20 b30) [(.int 1)]) E0 := fun t k => pre44 t (by rw [hq67]; exact k)
   have pre69 : Go p e below T31 (mkF m 216 (l493_3 dp1 dq2 q3 q4 zz55 zz56 zz51 zz52 zz57 dq50 b1 b2 b10 b20 b30) [(.int zz56)]) E0 := fun t k => by
    refine pre68 _ ?_
    refine yfn X31 hx hby at_211 ((if0 _ _).trans (feq (by decide : ¬ ((1 : Int32) = (0 : Int32)))).1) ?_
    refine yil X31 hx hby at_214 rfl ?_
    exact k
   by_cases hc70 : zz56 = (0 : Int32)
   ·
    have pre71 : Go p e below T31 (mkF m 216 (l493_7 dp1 dq2 q3 q4 zz55 zz51 zz52 zz57 dq50 b1 b2 b10 b20 b30) [(.int 0)]) E0 := fun t k => pre69 t (by rw [hc70]; exact k)
    have f72 := ((((f18.ext E20).keep K27).ext E30).keep K33)
    obtain ⟨_, T73, L73, X73, hQ73, st73⟩ := yv X31 hx hZ hown hby hml (y := yn12) (own_w hw 91 rfl) (own_w hw 92 rfl) (own_w hw 94 rfl) (own_w hw 93 rfl) (own_w hw 95 rfl) (w_33 hw) rfl f34 [(.ref b10)] [] (rm13 l Z a0 hw w1 kw1 G [] b30 b10 T31.heap n0 O31 g_b30 g_b10 f34 f35 f36 f37 f38 f39 f40 f72) 233 (l493_7 dp1 dq2 q3 q4 zz55 zz51 zz52 zz57 dq50 b1 b2 b10 b20 b30) rfl at_233 (lenOf pd9 rfl) 0 6 37
    obtain ⟨b74, k75, rfl, Nq76, K77, sz_b74, OV78, f79, f80, f81, f82, f83, f84, f85, f86, f87⟩ := hQ73
    have N73 := Fr.app N31 Nq76
    have g_b74 : n0 ≤ b74 := Nat.le_trans (own_oz O31) sz_b74
    have O73 := Old.keep O31 K77 (allS g_b30 all0)
    have pre88 : Go p e below T73 (mkF m 236 (l493_7 dp1 dq2 q3 q4 zz55 zz51 zz52 zz57 dq50 b1 b2 b10 b20 b30) []) E0 := fun t k => by
     refine pre71 _ ?_
     refine XS.ifYes X31.here hx rfl (pc0 := 216) (pc' := 229) rfl (hb hby at_216) rfl ((if0 _ _).trans (teq (by decide : (0 : Int32) = (0 : Int32))).1) (by decide) (by decide) ?_
     show Steps p.tables e below (T31.setTop (mkF m 229 (l493_7 dp1 dq2 q3 q4 zz55 zz51 zz52 zz57 dq50 b1 b2 b10 b20 b30) [])) _
     refine yal X31 hx hby at_229 rfl rfl ?_
     refine yal X31 hx hby at_231 rfl rfl ?_
     refine st73 _ ?_
     exact k
    have hq89 : zz51 = (0 : Int32) := (own_geq (n := 0) (k := (0 : Int32)) (by decide) (by have q0 := bzz51; have q1 := own_nlt2 (n := 0) (k := (0 : Int32)) (by decide) (by rw [← hc42]; exact hC1); omega))
    have pre90 : Go p e below T73 (mkF m 236 #[.val (.int dp1), .val (.long dq2), .second, .val (.long q3), .second, .val (.long q4), .second, .val (.int 0), .val (.int 1), .val (.int zz55), .val (.int 0), .val (.int 0), .val (.int zz52), .val (.int zz57), .val (.long dq50), .second, .val (.ref b1), .val (.ref b2), .val (.ref b10), .val (.ref b20), .val (.ref b30), .unset, .unset, .unset, .unset, .unset, .unset, .unset, .unset, .unset] []) E0 := fun t k => pre88 t (by rw [hq89]; exact k)
    have lt91 : b2 < T5.heap.size := (Nat.lt_of_lt_of_le A2.lt K7.1)
    have ne92 : b2 ≠ b10 := Nat.ne_of_lt (Nat.lt_of_lt_of_le lt91 sz_b10)
    have f93 := (((((((f8.ext E10).keep K17).ext E20).keep K27).ext E30).keep K33).keep K77)
    have lt94 : b2 < T15.heap.size := (Nat.lt_of_lt_of_le (Nat.lt_of_lt_of_le (Nat.lt_of_lt_of_le A2.lt K7.1) E10.1) K17.1)
    have ne95 : b2 ≠ b20 := Nat.ne_of_lt (Nat.lt_of_lt_of_le lt94 sz_b20)
    have lt96 : b2 < T25.heap.size := (Nat.lt_of_lt_of_le (Nat.lt_of_lt_of_le (Nat.lt_of_lt_of_le (Nat.lt_of_lt_of_le (Nat.lt_of_lt_of_le A2.lt K7.1) E10.1) K17.1) E20.1) K27.1)
    have ne97 : b2 ≠ b30 := Nat.ne_of_lt (Nat.lt_of_lt_of_le lt96 sz_b30)
    have f98 := (((((((f9.ext E10).keep K17 (ninS ne92 nin0)).ext E20).keep K27 (ninS ne95 nin0)).ext E30).keep K33 (ninS ne97 nin0)).keep K77 (ninS ne97 nin0))
    have f99 := (f72.keep K77)
    have lt100 : b10 < T15.heap.size := (Nat.lt_of_lt_of_le A10.lt K17.1)
    have ne101 : b10 ≠ b20 := Nat.ne_of_lt (Nat.lt_of_lt_of_le lt100 sz_b20)
    have lt102 : b10 < T25.heap.size := (Nat.lt_of_lt_of_le (Nat.lt_of_lt_of_le (Nat.lt_of_lt_of_le A10.lt K17.1) E20.1) K27.1)
    have ne103 : b10 ≠ b30 := Nat.ne_of_lt (Nat.lt_of_lt_of_le lt102 sz_b30)
    have f104 := (((((f19.ext E20).keep K27 (ninS ne101 nin0)).ext E30).keep K33 (ninS ne103 nin0)).keep K77 (ninS ne103 nin0))
    have f105 := (((f28.ext E30).keep K33).keep K77)
    exact ct7 hw w1 kw1 G b2 b10 b20 b30 b74 k75 dq50 zz52 zz57 dp1 dq2 q3 q4 zz55 ((0 : Int32)) b1 p1 q2 T73.heap n0 O73 hx hby hml hown hret hlk hZ (X73.more (by decide) (by decide)) rfl N73 pre90 g_b2 g_b10 g_b20 g_b30 g_b74 ne92 OV78 f93 f98 f99 f104 f105 f79 f80 f81 f82 f83 f84 f85 f86 f87 hC0 (by have q0 := bzz52; omega) (by have q0 := bzz57; omega)
   ·
    have hq106 : zz56 = (1 : Int32) := (own_geq (n := 1) (k := (1 : Int32)) (by decide) (by have q0 := bzz56; have q1 := own_neq (n := 0) (k := (0 : Int32)) (by decide) hc70; omega))
    have pre107 : Go p e below T31 (mkF m 216 (l493_8 dp1 dq2 q3 q4 zz55 zz51 zz52 zz57 dq50 b1 b2 b10 b20 b30) [(.int 1)]) E0 := fun t k => pre69 t (by rw [hq106]; exact k)
    have f108 := ((((f18.ext E20).keep K27).ext E30).keep K33)
    obtain ⟨_, T109, L109, X109, hQ109, st109⟩ := yv X31 hx hZ hown hby hml (y := yn13) (own_w hw 108 rfl) (own_w hw 109 rfl) (own_w hw 111 rfl) (own_w hw 110 rfl) (own_w hw 112 rfl) (w_33 hw) rfl f34 [(.ref b10)] [] (rm16 l Z a0 hw w1 kw1 G [] b30 b10 T31.heap n0 O31 g_b30 g_b10 f34 f35 f36 f37 f38 f39 f40 f108) 223 (l493_8 dp1 dq2 q3 q4 zz55 zz51 zz52 zz57 dq50 b1 b2 b10 b20 b30) rfl at_223 (lenOf pd9 rfl) 0 6 41
    obtain ⟨b110, k111, rfl, Nq112, K113, sz_b110, OV114, f115, f116, f117, f118, f119, f120, f121, f122, f123⟩ := hQ109
    have N109 := Fr.app N31 Nq112
    have g_b110 : n0 ≤ b110 := Nat.le_trans (own_oz O31) sz_b110
    have O109 := Old.keep O31 K113 (allS g_b30 all0)
    have pre124 : Go p e below T109 (mkF m 236 (l493_8 dp1 dq2 q3 q4 zz55 zz51 zz52 zz57 dq50 b1 b2 b10 b20 b30) []) E0 := fun t k => by
     refine pre107 _ ?_
     refine yfn X31 hx hby at_216 ((if0 _ _).trans (feq (by decide : ¬ ((1 : Int32) = (0 : Int32)))).1) ?_
     show Steps p.tables e below (T31.setTop (mkF m 219 (l493_8 dp1 dq2 q3 q4 zz55 zz51 zz52 zz57 dq50 b1 b2 b10 b20 b30) [])) _
     refine yal X31 hx hby at_219 rfl rfl ?_
     refine yal X31 hx hby at_221 rfl rfl ?_
     refine st109 _ ?_
     refine ygo X109 hx hby 226 236 rfl at_226 (by decide) ?_
     exact k
    have hq125 : zz51 = (0 : Int32) := (own_geq (n := 0) (k := (0 : Int32)) (by decide) (by have q0 := bzz51; have q1 := own_nlt2 (n := 0) (k := (0 : Int32)) (by decide) (by rw [← hc42]; exact hC1); omega))
    have pre126 : Go p e below T109 (mkF m 236 #[.val (.int dp1), .val (.long dq2), .second, .val (.long q3), .second, .val (.long q4), .second, .val (.int 0), .val (.int 1), .val (.int zz55), .val (.int 1), .val (.int 0), .val (.int zz52), .val (.int zz57), .val (.long dq50), .second, .val (.ref b1), .val (.ref b2), .val (.ref b10), .val (.ref b20), .val (.ref b30), .unset, .unset, .unset, .unset, .unset, .unset, .unset, .unset, .unset] []) E0 := fun t k => pre124 t (by rw [hq125]; exact k)
    have lt127 : b2 < T5.heap.size := (Nat.lt_of_lt_of_le A2.lt K7.1)
    have ne128 : b2 ≠ b10 := Nat.ne_of_lt (Nat.lt_of_lt_of_le lt127 sz_b10)
    have f129 := (((((((f8.ext E10).keep K17).ext E20).keep K27).ext E30).keep K33).keep K113)
    have lt130 : b2 < T15.heap.size := (Nat.lt_of_lt_of_le (Nat.lt_of_lt_of_le (Nat.lt_of_lt_of_le A2.lt K7.1) E10.1) K17.1)
    have ne131 : b2 ≠ b20 := Nat.ne_of_lt (Nat.lt_of_lt_of_le lt130 sz_b20)
    have lt132 : b2 < T25.heap.size := (Nat.lt_of_lt_of_le (Nat.lt_of_lt_of_le (Nat.lt_of_lt_of_le (Nat.lt_of_lt_of_le (Nat.lt_of_lt_of_le A2.lt K7.1) E10.1) K17.1) E20.1) K27.1)
    have ne133 : b2 ≠ b30 := Nat.ne_of_lt (Nat.lt_of_lt_of_le lt132 sz_b30)
    have f134 := (((((((f9.ext E10).keep K17 (ninS ne128 nin0)).ext E20).keep K27 (ninS ne131 nin0)).ext E30).keep K33 (ninS ne133 nin0)).keep K113 (ninS ne133 nin0))
    have f135 := (f108.keep K113)
    have lt136 : b10 < T15.heap.size := (Nat.lt_of_lt_of_le A10.lt K17.1)
    have ne137 : b10 ≠ b20 := Nat.ne_of_lt (Nat.lt_of_lt_of_le lt136 sz_b20)
    have lt138 : b10 < T25.heap.size := (Nat.lt_of_lt_of_le (Nat.lt_of_lt_of_le (Nat.lt_of_lt_of_le A10.lt K17.1) E20.1) K27.1)
    have ne139 : b10 ≠ b30 := Nat.ne_of_lt (Nat.lt_of_lt_of_le lt138 sz_b30)
    have f140 := (((((f19.ext E20).keep K27 (ninS ne137 nin0)).ext E30).keep K33 (ninS ne139 nin0)).keep K113 (ninS ne139 nin0))
    have f141 := (((f28.ext E30).keep K33).keep K113)
    exact ct10 hw w1 kw1 G b2 b10 b20 b30 b110 k111 dq50 zz52 zz57 dp1 dq2 q3 q4 zz55 ((1 : Int32)) b1 p1 q2 T109.heap n0 O109 hx hby hml hown hret hlk hZ (X109.more (by decide) (by decide)) rfl N109 pre126 g_b2 g_b10 g_b20 g_b30 g_b110 ne128 OV114 f129 f134 f135 f140 f141 f115 f116 f117 f118 f119 f120 f121 f122 f123 hC0 (by have q0 := bzz52; omega) (by have q0 := bzz57; omega)
 ·
  have hq142 : zz53 = (1 : Int32) := (own_geq (n := 1) (k := (1 : Int32)) (by decide) (by have q0 := bzz53; have q1 := own_neq (n := 0) (k := (0 : Int32)) (by decide) hc42; omega))
  have pre143 : Go p e below T31 (mkF m 184 (l493_1 dp1 dq2 q3 q4 zz54 zz55 zz56 zz51 zz52 zz57 dq50 b1 b2 b10 b20 b30) [(.int 1)]) E0 := fun t k => pre41 t (by rw [hq142]; exact k)
  have pre144 : Go p e below T31 (mkF m 189 (l493_1 dp1 dq2 q3 q4 zz54 zz55 zz56 zz51 zz52 zz57 dq50 b1 b2 b10 b20 b30) [(.int zz55)]) E0 := fun t k => by
   refine pre143 _ ?_
   refine yfn X31 hx hby at_184 ((if0 _ _).trans (feq (by decide : ¬ ((1 : Int32) = (0 : Int32)))).1) ?_
   refine yil X31 hx hby at_187 rfl ?_
   exact k
  by_cases hc145 : zz55 = (0 : Int32)
  ·
   have pre146 : Go p e below T31 (mkF m 189 (l493_4 dp1 dq2 q3 q4 zz54 zz56 zz51 zz52 zz57 dq50 b1 b2 b10 b20 b30) [(.int 0)]) E0 := fun t k => pre144 t (by rw [hc145]; exact k)
   have f147 := ((((((f8.ext E10).keep K17).ext E20).keep K27).ext E30).keep K33)
   obtain ⟨_, T148, L148, X148, hQ148, st148⟩ := yv X31 hx hZ hown hby hml (y := yn12) (own_w hw 91 rfl) (own_w hw 92 rfl) (own_w hw 94 rfl) (own_w hw 93 rfl) (own_w hw 95 rfl) (w_33 hw) rfl f34 [(.ref b2)] [] (rm13 l Z a0 hw w1 kw1 G [] b30 b2 T31.heap n0 O31 g_b30 g_b2 f34 f35 f36 f37 f38 f39 f40 f147) 206 (l493_4 dp1 dq2 q3 q4 zz54 zz56 zz51 zz52 zz57 dq50 b1 b2 b10 b20 b30) rfl at_206 (lenOf pd9 rfl) 0 6 37
   obtain ⟨b149, k150, rfl, Nq151, K152, sz_b149, OV153, f154, f155, f156, f157, f158, f159, f160, f161, f162⟩ := hQ148
   have N148 := Fr.app N31 Nq151
   have g_b149 : n0 ≤ b149 := Nat.le_trans (own_oz O31) sz_b149
   have O148 := Old.keep O31 K152 (allS g_b30 all0)
   have pre163 : Go p e below T148 (mkF m 211 (l493_4 dp1 dq2 q3 q4 zz54 zz56 zz51 zz52 zz57 dq50 b1 b2 b10 b20 b30) [(.int zz54)]) E0 := fun t k => by
    refine pre146 _ ?_
    refine XS.ifYes X31.here hx rfl (pc0 := 189) (pc' := 202) rfl (hb hby at_189) rfl ((if0 _ _).trans (teq (by decide : (0 : Int32) = (0 : Int32))).1) (by decide) (by decide) ?_
    refine yal X31 hx hby at_202 rfl rfl ?_
    refine yal X31 hx hby at_204 rfl rfl ?_
    show Steps p.tables e below (T31.setTop (mkF m 206 (l493_4 dp1 dq2 q3 q4 zz54 zz56 zz51 zz52 zz57 dq50 b1 b2 b10 b20 b30) [(.ref b2), (.ref b30)])) _
    refine st148 _ ?_
    refine yil X148 hx hby at_209 rfl ?_
    exact k
   by_cases hc164 : zz54 = (0 : Int32)
   ·
    have pre165 : Go p e below T148 (mkF m 211 (l493_9 dp1 dq2 q3 q4 zz56 zz51 zz52 zz57 dq50 b1 b2 b10 b20 b30) [(.int 0)]) E0 := fun t k => pre163 t (by rw [hc164]; exact k)
    have pre166 : Go p e below T148 (mkF m 236 (l493_9 dp1 dq2 q3 q4 zz56 zz51 zz52 zz57 dq50 b1 b2 b10 b20 b30) []) E0 := fun t k => by
     refine pre165 _ ?_
     refine XS.ifYes X148.here hx rfl (pc0 := 211) (pc' := 236) rfl (hb hby at_211) rfl ((if0 _ _).trans (teq (by decide : (0 : Int32) = (0 : Int32))).1) (by decide) (by decide) ?_
     exact k
    have hq167 : zz52 = (0 : Int32) := (own_geq (n := 0) (k := (0 : Int32)) (by decide) (by have q0 := bzz52; have q1 := own_nlt2 (n := 0) (k := (0 : Int32)) (by decide) (by rw [← hc164]; exact hC2); omega))
    have pre168 : Go p e below T148 (mkF m 236 #[.val (.int dp1), .val (.long dq2), .second, .val (.long q3), .second, .val (.long q4), .second, .val (.int 1), .val (.int 0), .val (.int 0), .val (.int zz56), .val (.int zz51), .val (.int 0), .val (.int zz57), .val (.long dq50), .second, .val (.ref b1), .val (.ref b2), .val (.ref b10), .val (.ref b20), .val (.ref b30), .unset, .unset, .unset, .unset, .unset, .unset, .unset, .unset, .unset] []) E0 := fun t k => pre166 t (by rw [hq167]; exact k)
    have lt169 : b2 < T5.heap.size := (Nat.lt_of_lt_of_le A2.lt K7.1)
    have ne170 : b2 ≠ b10 := Nat.ne_of_lt (Nat.lt_of_lt_of_le lt169 sz_b10)
    have f171 := (f147.keep K152)
    have lt172 : b2 < T15.heap.size := (Nat.lt_of_lt_of_le (Nat.lt_of_lt_of_le (Nat.lt_of_lt_of_le A2.lt K7.1) E10.1) K17.1)
    have ne173 : b2 ≠ b20 := Nat.ne_of_lt (Nat.lt_of_lt_of_le lt172 sz_b20)
    have lt174 : b2 < T25.heap.size := (Nat.lt_of_lt_of_le (Nat.lt_of_lt_of_le (Nat.lt_of_lt_of_le (Nat.lt_of_lt_of_le (Nat.lt_of_lt_of_le A2.lt K7.1) E10.1) K17.1) E20.1) K27.1)
    have ne175 : b2 ≠ b30 := Nat.ne_of_lt (Nat.lt_of_lt_of_le lt174 sz_b30)
    have f176 := (((((((f9.ext E10).keep K17 (ninS ne170 nin0)).ext E20).keep K27 (ninS ne173 nin0)).ext E30).keep K33 (ninS ne175 nin0)).keep K152 (ninS ne175 nin0))
    have f177 := (((((f18.ext E20).keep K27).ext E30).keep K33).keep K152)
    have lt178 : b10 < T15.heap.size := (Nat.lt_of_lt_of_le A10.lt K17.1)
    have ne179 : b10 ≠ b20 := Nat.ne_of_lt (Nat.lt_of_lt_of_le lt178 sz_b20)
    have lt180 : b10 < T25.heap.size := (Nat.lt_of_lt_of_le (Nat.lt_of_lt_of_le (Nat.lt_of_lt_of_le A10.lt K17.1) E20.1) K27.1)
    have ne181 : b10 ≠ b30 := Nat.ne_of_lt (Nat.lt_of_lt_of_le lt180 sz_b30)
    have f182 := (((((f19.ext E20).keep K27 (ninS ne179 nin0)).ext E30).keep K33 (ninS ne181 nin0)).keep K152 (ninS ne181 nin0))
    have f183 := (((f28.ext E30).keep K33).keep K152)
    exact ct11 hw w1 kw1 G b2 b10 b20 b30 b149 k150 dq50 zz51 zz57 dp1 dq2 q3 q4 ((0 : Int32)) zz56 b1 p1 q2 T148.heap n0 O148 hx hby hml hown hret hlk hZ (X148.more (by decide) (by decide)) rfl N148 pre168 g_b2 g_b10 g_b20 g_b30 g_b149 (Ne.symm ne170) OV153 f171 f176 f177 f182 f183 f154 f155 f156 f157 f158 f159 f160 f161 f162 hC0 (by have q0 := bzz51; omega) (by have q0 := bzz57; omega)
   ·
    have hq184 : zz54 = (1 : Int32) := (own_geq (n := 1) (k := (1 : Int32)) (by decide) (by have q0 := bzz54; have q1 := own_neq (n := 0) (k := (0 : Int32)) (by decide) hc164; omega))
    have pre185 : Go p e below T148 (mkF m 211 (l493_10 dp1 dq2 q3 q4 zz56 zz51 zz52 zz57 dq50 b1 b2 b10 b20 b30) [(.int 1)]) E0 := fun t k => pre163 t (by rw [hq184]; exact k)
    have pre186 : Go p e below T148 (mkF m 216 (l493_10 dp1 dq2 q3 q4 zz56 zz51 zz52 zz57 dq50 b1 b2 b10 b20 b30) [(.int zz56)]) E0 := fun t k => by
     refine pre185 _ ?_
     refine yfn X148 hx hby at_211 ((if0 _ _).trans (feq (by decide : ¬ ((1 : Int32) = (0 : Int32)))).1) ?_
     refine yil X148 hx hby at_214 rfl ?_
     exact k
    by_cases hc187 : zz56 = (0 : Int32)
    ·
     have pre188 : Go p e below T148 (mkF m 216 (l493_13 dp1 dq2 q3 q4 zz51 zz52 zz57 dq50 b1 b2 b10 b20 b30) [(.int 0)]) E0 := fun t k => pre186 t (by rw [hc187]; exact k)
     have f189 := (((((f18.ext E20).keep K27).ext E30).keep K33).keep K152)
     obtain ⟨_, T190, L190, X190, hQ190, st190⟩ := yv X148 hx hZ hown hby hml (y := yn12) (own_w hw 91 rfl) (own_w hw 92 rfl) (own_w hw 94 rfl) (own_w hw 93 rfl) (own_w hw 95 rfl) (w_33 hw) rfl f154 [(.ref b10)] [] (rm27 l Z a0 hw [] b30 b10 b149 b2 k150 T148.heap n0 O148 g_b30 g_b10 g_b149 g_b2 OV153 f154 f155 f156 f157 f158 f159 f160 f189 f161 f162) 233 (l493_13 dp1 dq2 q3 q4 zz51 zz52 zz57 dq50 b1 b2 b10 b20 b30) rfl at_233 (lenOf pd9 rfl) 0 6 37
     obtain ⟨rfl, Nq191, K192, f193, f194, f195, f196, f197, f198, f199, f200, f201⟩ := hQ190
     have N190 := Fr.app N148 Nq191
     have O190 := Old.keep O148 K192 (allS g_b149 (allS g_b30 all0))
     have pre202 : Go p e below T190 (mkF m 236 (l493_13 dp1 dq2 q3 q4 zz51 zz52 zz57 dq50 b1 b2 b10 b20 b30) []) E0 := fun t k => by
      refine pre188 _ ?_
      refine XS.ifYes X148.here hx rfl (pc0 := 216) (pc' := 229) rfl (hb hby at_216) rfl ((if0 _ _).trans (teq (by decide : (0 : Int32) = (0 : Int32))).1) (by decide) (by decide) ?_
      refine yal X148 hx hby at_229 rfl rfl ?_
      refine yal X148 hx hby at_231 rfl rfl ?_
      refine st190 _ ?_
      exact k
     have lt203 : b2 < T5.heap.size := (Nat.lt_of_lt_of_le A2.lt K7.1)
     have ne204 : b2 ≠ b10 := Nat.ne_of_lt (Nat.lt_of_lt_of_le lt203 sz_b10)
     have f205 := ((f147.keep K152).keep K192)
     have lt206 : b2 < T15.heap.size := (Nat.lt_of_lt_of_le (Nat.lt_of_lt_of_le (Nat.lt_of_lt_of_le A2.lt K7.1) E10.1) K17.1)
     have ne207 : b2 ≠ b20 := Nat.ne_of_lt (Nat.lt_of_lt_of_le lt206 sz_b20)
     have lt208 : b2 < T25.heap.size := (Nat.lt_of_lt_of_le (Nat.lt_of_lt_of_le (Nat.lt_of_lt_of_le (Nat.lt_of_lt_of_le (Nat.lt_of_lt_of_le A2.lt K7.1) E10.1) K17.1) E20.1) K27.1)
     have ne209 : b2 ≠ b30 := Nat.ne_of_lt (Nat.lt_of_lt_of_le lt208 sz_b30)
     have lt210 : b2 < T31.heap.size := (Nat.lt_of_lt_of_le (Nat.lt_of_lt_of_le (Nat.lt_of_lt_of_le (Nat.lt_of_lt_of_le (Nat.lt_of_lt_of_le (Nat.lt_of_lt_of_le (Nat.lt_of_lt_of_le A2.lt K7.1) E10.1) K17.1) E20.1) K27.1) E30.1) K33.1)
     have ne211 : b2 ≠ b149 := Nat.ne_of_lt (Nat.lt_of_lt_of_le lt210 sz_b149)
     have f212 := ((((((((f9.ext E10).keep K17 (ninS ne204 nin0)).ext E20).keep K27 (ninS ne207 nin0)).ext E30).keep K33 (ninS ne209 nin0)).keep K152 (ninS ne209 nin0)).keep K192 (ninS ne211 (ninS ne209 nin0)))
     have f213 := (f189.keep K192)
     have lt214 : b10 < T15.heap.size := (Nat.lt_of_lt_of_le A10.lt K17.1)
     have ne215 : b10 ≠ b20 := Nat.ne_of_lt (Nat.lt_of_lt_of_le lt214 sz_b20)
     have lt216 : b10 < T25.heap.size := (Nat.lt_of_lt_of_le (Nat.lt_of_lt_of_le (Nat.lt_of_lt_of_le A10.lt K17.1) E20.1) K27.1)
     have ne217 : b10 ≠ b30 := Nat.ne_of_lt (Nat.lt_of_lt_of_le lt216 sz_b30)
     have lt218 : b10 < T31.heap.size := (Nat.lt_of_lt_of_le (Nat.lt_of_lt_of_le (Nat.lt_of_lt_of_le (Nat.lt_of_lt_of_le (Nat.lt_of_lt_of_le A10.lt K17.1) E20.1) K27.1) E30.1) K33.1)
     have ne219 : b10 ≠ b149 := Nat.ne_of_lt (Nat.lt_of_lt_of_le lt218 sz_b149)
     have f220 := ((((((f19.ext E20).keep K27 (ninS ne215 nin0)).ext E30).keep K33 (ninS ne217 nin0)).keep K152 (ninS ne217 nin0)).keep K192 (ninS ne219 (ninS ne217 nin0)))
     have f221 := ((((f28.ext E30).keep K33).keep K152).keep K192)
     exact ct14 hw w1 kw1 G b2 b10 b20 b30 b149 k150 dq50 zz51 zz52 zz57 dp1 dq2 q3 q4 ((0 : Int32)) ((0 : Int32)) b1 p1 q2 T190.heap n0 O190 hx hby hml hown hret hlk hZ (X190.more (by decide) (by decide)) rfl N190 pre202 g_b2 g_b10 g_b20 g_b30 g_b149 (Ne.symm ne204) OV153 f205 f212 f213 f220 f221 f195 f196 f197 f198 f199 f200 f201 f193 f194 hC0 (by have q0 := bzz51; omega) (by have q0 := bzz52; omega) (by have q0 := bzz57; omega)
    ·
     have hq222 : zz56 = (1 : Int32) := (own_geq (n := 1) (k := (1 : Int32)) (by decide) (by have q0 := bzz56; have q1 := own_neq (n := 0) (k := (0 : Int32)) (by decide) hc187; omega))
     have pre223 : Go p e below T148 (mkF m 216 (l493_14 dp1 dq2 q3 q4 zz51 zz52 zz57 dq50 b1 b2 b10 b20 b30) [(.int 1)]) E0 := fun t k => pre186 t (by rw [hq222]; exact k)
     have f224 := (((((f18.ext E20).keep K27).ext E30).keep K33).keep K152)
     have f225 := (f147.keep K152)
     have lt226 : b2 < T5.heap.size := (Nat.lt_of_lt_of_le A2.lt K7.1)
     have ne227 : b2 ≠ b10 := Nat.ne_of_lt (Nat.lt_of_lt_of_le lt226 sz_b10)
     have lt228 : b2 < T15.heap.size := (Nat.lt_of_lt_of_le (Nat.lt_of_lt_of_le (Nat.lt_of_lt_of_le A2.lt K7.1) E10.1) K17.1)
     have ne229 : b2 ≠ b20 := Nat.ne_of_lt (Nat.lt_of_lt_of_le lt228 sz_b20)
     have lt230 : b2 < T25.heap.size := (Nat.lt_of_lt_of_le (Nat.lt_of_lt_of_le (Nat.lt_of_lt_of_le (Nat.lt_of_lt_of_le (Nat.lt_of_lt_of_le A2.lt K7.1) E10.1) K17.1) E20.1) K27.1)
     have ne231 : b2 ≠ b30 := Nat.ne_of_lt (Nat.lt_of_lt_of_le lt230 sz_b30)
     have f232 := (((((((f9.ext E10).keep K17 (ninS ne227 nin0)).ext E20).keep K27 (ninS ne229 nin0)).ext E30).keep K33 (ninS ne231 nin0)).keep K152 (ninS ne231 nin0))
     obtain ⟨_, T233, L233, X233, hQ233, st233⟩ := yv X148 hx hZ hown hby hml (y := yn13) (own_w hw 108 rfl) (own_w hw 109 rfl) (own_w hw 111 rfl) (own_w hw 110 rfl) (own_w hw 112 rfl) (w_33 hw) rfl f154 [(.ref b10)] [] (rm35 l Z a0 hw [] b30 b10 b149 b2 k150 T148.heap n0 O148 g_b30 g_b10 g_b149 g_b2 OV153 f154 f155 f156 f157 f158 f159 f160 f224 f161 f162 f225 f232) 223 (l493_14 dp1 dq2 q3 q4 zz51 zz52 zz57 dq50 b1 b2 b10 b20 b30) rfl at_223 (lenOf pd9 rfl) 0 7 46
     obtain ⟨b234, k235, rfl, Nq236, K237, sz_b234, OV238, f239, f240, f241, f242, f243, f244, f245, f246, f247⟩ := hQ233
     have N233 := Fr.app N148 Nq236
     have g_b234 : n0 ≤ b234 := Nat.le_trans (own_oz O148) sz_b234
     have O233 := Old.keep O148 K237 (allS g_b30 all0)
     have pre248 : Go p e below T233 (mkF m 236 (l493_14 dp1 dq2 q3 q4 zz51 zz52 zz57 dq50 b1 b2 b10 b20 b30) []) E0 := fun t k => by
      refine pre223 _ ?_
      refine yfn X148 hx hby at_216 ((if0 _ _).trans (feq (by decide : ¬ ((1 : Int32) = (0 : Int32)))).1) ?_
      refine yal X148 hx hby at_219 rfl rfl ?_
      refine yal X148 hx hby at_221 rfl rfl ?_
      refine st233 _ ?_
      refine ygo X233 hx hby 226 236 rfl at_226 (by decide) ?_
      exact k
     have f249 := (f225.keep K237)
     have f250 := (f232.keep K237 (ninS ne231 nin0))
     have f251 := (f224.keep K237)
     have lt252 : b10 < T15.heap.size := (Nat.lt_of_lt_of_le A10.lt K17.1)
     have ne253 : b10 ≠ b20 := Nat.ne_of_lt (Nat.lt_of_lt_of_le lt252 sz_b20)
     have lt254 : b10 < T25.heap.size := (Nat.lt_of_lt_of_le (Nat.lt_of_lt_of_le (Nat.lt_of_lt_of_le A10.lt K17.1) E20.1) K27.1)
     have ne255 : b10 ≠ b30 := Nat.ne_of_lt (Nat.lt_of_lt_of_le lt254 sz_b30)
     have f256 := ((((((f19.ext E20).keep K27 (ninS ne253 nin0)).ext E30).keep K33 (ninS ne255 nin0)).keep K152 (ninS ne255 nin0)).keep K237 (ninS ne255 nin0))
     have f257 := ((((f28.ext E30).keep K33).keep K152).keep K237)
     exact ct19 hw w1 kw1 G b2 b10 b20 b30 b234 k235 dq50 zz51 zz52 zz57 dp1 dq2 q3 q4 ((0 : Int32)) ((1 : Int32)) b1 p1 q2 T233.heap n0 O233 hx hby hml hown hret hlk hZ (X233.more (by decide) (by decide)) rfl N233 pre248 g_b2 g_b10 g_b20 g_b30 g_b234 ne227 OV238 f249 f250 f251 f256 f257 f239 f240 f241 f242 f243 f244 f245 f246 f247 hC0 (by have q0 := bzz51; omega) (by have q0 := bzz52; omega) (by have q0 := bzz57; omega)
  ·
   have hq258 : zz55 = (1 : Int32) := (own_geq (n := 1) (k := (1 : Int32)) (by decide) (by have q0 := bzz55; have q1 := own_neq (n := 0) (k := (0 : Int32)) (by decide) hc145; omega))
   have pre259 : Go p e below T31 (mkF m 189 (l493_5 dp1 dq2 q3 q4 zz54 zz56 zz51 zz52 zz57 dq50 b1 b2 b10 b20 b30) [(.int 1)]) E0 := fun t k => pre144 t (by rw [hq258]; exact k)
   have f260 := ((((((f8.ext E10).keep K17).ext E20).keep K27).ext E30).keep K33)
   obtain ⟨_, T261, L261, X261, hQ261, st261⟩ := yv X31 hx hZ hown hby hml (y := yn13) (own_w hw 108 rfl) (own_w hw 109 rfl) (own_w hw 111 rfl) (own_w hw 110 rfl) (own_w hw 112 rfl) (w_33 hw) rfl f34 [(.ref b2)] [] (rm16 l Z a0 hw w1 kw1 G [] b30 b2 T31.heap n0 O31 g_b30 g_b2 f34 f35 f36 f37 f38 f39 f40 f260) 196 (l493_5 dp1 dq2 q3 q4 zz54 zz56 zz51 zz52 zz57 dq50 b1 b2 b10 b20 b30) rfl at_196 (lenOf pd9 rfl) 0 6 41
   obtain ⟨b262, k263, rfl, Nq264, K265, sz_b262, OV266, f267, f268, f269, f270, f271, f272, f273, f274, f275⟩ := hQ261
   have N261 := Fr.app N31 Nq264
   have g_b262 : n0 ≤ b262 := Nat.le_trans (own_oz O31) sz_b262
   have O261 := Old.keep O31 K265 (allS g_b30 all0)
   have pre276 : Go p e below T261 (mkF m 211 (l493_5 dp1 dq2 q3 q4 zz54 zz56 zz51 zz52 zz57 dq50 b1 b2 b10 b20 b30) [(.int zz54)]) E0 := fun t k => by
    refine pre259 _ ?_
    refine yfn X31 hx hby at_189 ((if0 _ _).trans (feq (by decide : ¬ ((1 : Int32) = (0 : Int32)))).1) ?_
    refine yal X31 hx hby at_192 rfl rfl ?_
    refine yal X31 hx hby at_194 rfl rfl ?_
    show Steps p.tables e below (T31.setTop (mkF m 196 (l493_5 dp1 dq2 q3 q4 zz54 zz56 zz51 zz52 zz57 dq50 b1 b2 b10 b20 b30) [(.ref b2), (.ref b30)])) _
    refine st261 _ ?_
    refine ygo X261 hx hby 199 209 rfl at_199 (by decide) ?_
    refine yil X261 hx hby at_209 rfl ?_
    exact k
   by_cases hc277 : zz54 = (0 : Int32)
   ·
    have pre278 : Go p e below T261 (mkF m 211 (l493_11 dp1 dq2 q3 q4 zz56 zz51 zz52 zz57 dq50 b1 b2 b10 b20 b30) [(.int 0)]) E0 := fun t k => pre276 t (by rw [hc277]; exact k)
    have pre279 : Go p e below T261 (mkF m 236 (l493_11 dp1 dq2 q3 q4 zz56 zz51 zz52 zz57 dq50 b1 b2 b10 b20 b30) []) E0 := fun t k => by
     refine pre278 _ ?_
     refine XS.ifYes X261.here hx rfl (pc0 := 211) (pc' := 236) rfl (hb hby at_211) rfl ((if0 _ _).trans (teq (by decide : (0 : Int32) = (0 : Int32))).1) (by decide) (by decide) ?_
     exact k
    have hq280 : zz52 = (0 : Int32) := (own_geq (n := 0) (k := (0 : Int32)) (by decide) (by have q0 := bzz52; have q1 := own_nlt2 (n := 0) (k := (0 : Int32)) (by decide) (by rw [← hc277]; exact hC2); omega))
    have pre281 : Go p e below T261 (mkF m 236 #[.val (.int dp1), .val (.long dq2), .second, .val (.long q3), .second, .val (.long q4), .second, .val (.int 1), .val (.int 0), .val (.int 1), .val (.int zz56), .val (.int zz51), .val (.int 0), .val (.int zz57), .val (.long dq50), .second, .val (.ref b1), .val (.ref b2), .val (.ref b10), .val (.ref b20), .val (.ref b30), .unset, .unset, .unset, .unset, .unset, .unset, .unset, .unset, .unset] []) E0 := fun t k => pre279 t (by rw [hq280]; exact k)
    have lt282 : b2 < T5.heap.size := (Nat.lt_of_lt_of_le A2.lt K7.1)
    have ne283 : b2 ≠ b10 := Nat.ne_of_lt (Nat.lt_of_lt_of_le lt282 sz_b10)
    have f284 := (f260.keep K265)
    have lt285 : b2 < T15.heap.size := (Nat.lt_of_lt_of_le (Nat.lt_of_lt_of_le (Nat.lt_of_lt_of_le A2.lt K7.1) E10.1) K17.1)
    have ne286 : b2 ≠ b20 := Nat.ne_of_lt (Nat.lt_of_lt_of_le lt285 sz_b20)
    have lt287 : b2 < T25.heap.size := (Nat.lt_of_lt_of_le (Nat.lt_of_lt_of_le (Nat.lt_of_lt_of_le (Nat.lt_of_lt_of_le (Nat.lt_of_lt_of_le A2.lt K7.1) E10.1) K17.1) E20.1) K27.1)
    have ne288 : b2 ≠ b30 := Nat.ne_of_lt (Nat.lt_of_lt_of_le lt287 sz_b30)
    have f289 := (((((((f9.ext E10).keep K17 (ninS ne283 nin0)).ext E20).keep K27 (ninS ne286 nin0)).ext E30).keep K33 (ninS ne288 nin0)).keep K265 (ninS ne288 nin0))
    have f290 := (((((f18.ext E20).keep K27).ext E30).keep K33).keep K265)
    have lt291 : b10 < T15.heap.size := (Nat.lt_of_lt_of_le A10.lt K17.1)
    have ne292 : b10 ≠ b20 := Nat.ne_of_lt (Nat.lt_of_lt_of_le lt291 sz_b20)
    have lt293 : b10 < T25.heap.size := (Nat.lt_of_lt_of_le (Nat.lt_of_lt_of_le (Nat.lt_of_lt_of_le A10.lt K17.1) E20.1) K27.1)
    have ne294 : b10 ≠ b30 := Nat.ne_of_lt (Nat.lt_of_lt_of_le lt293 sz_b30)
    have f295 := (((((f19.ext E20).keep K27 (ninS ne292 nin0)).ext E30).keep K33 (ninS ne294 nin0)).keep K265 (ninS ne294 nin0))
    have f296 := (((f28.ext E30).keep K33).keep K265)
    exact ct20 hw w1 kw1 G b2 b10 b20 b30 b262 k263 dq50 zz51 zz57 dp1 dq2 q3 q4 ((1 : Int32)) zz56 b1 p1 q2 T261.heap n0 O261 hx hby hml hown hret hlk hZ (X261.more (by decide) (by decide)) rfl N261 pre281 g_b2 g_b10 g_b20 g_b30 g_b262 (Ne.symm ne283) OV266 f284 f289 f290 f295 f296 f267 f268 f269 f270 f271 f272 f273 f274 f275 hC0 (by have q0 := bzz51; omega) (by have q0 := bzz57; omega)
   ·
    have hq297 : zz54 = (1 : Int32) := (own_geq (n := 1) (k := (1 : Int32)) (by decide) (by have q0 := bzz54; have q1 := own_neq (n := 0) (k := (0 : Int32)) (by decide) hc277; omega))
    have pre298 : Go p e below T261 (mkF m 211 (l493_12 dp1 dq2 q3 q4 zz56 zz51 zz52 zz57 dq50 b1 b2 b10 b20 b30) [(.int 1)]) E0 := fun t k => pre276 t (by rw [hq297]; exact k)
    have pre299 : Go p e below T261 (mkF m 216 (l493_12 dp1 dq2 q3 q4 zz56 zz51 zz52 zz57 dq50 b1 b2 b10 b20 b30) [(.int zz56)]) E0 := fun t k => by
     refine pre298 _ ?_
     refine yfn X261 hx hby at_211 ((if0 _ _).trans (feq (by decide : ¬ ((1 : Int32) = (0 : Int32)))).1) ?_
     refine yil X261 hx hby at_214 rfl ?_
     exact k
    by_cases hc300 : zz56 = (0 : Int32)
    ·
     have pre301 : Go p e below T261 (mkF m 216 (l493_15 dp1 dq2 q3 q4 zz51 zz52 zz57 dq50 b1 b2 b10 b20 b30) [(.int 0)]) E0 := fun t k => pre299 t (by rw [hc300]; exact k)
     have f302 := (((((f18.ext E20).keep K27).ext E30).keep K33).keep K265)
     obtain ⟨_, T303, L303, X303, hQ303, st303⟩ := yv X261 hx hZ hown hby hml (y := yn12) (own_w hw 91 rfl) (own_w hw 92 rfl) (own_w hw 94 rfl) (own_w hw 93 rfl) (own_w hw 95 rfl) (w_33 hw) rfl f267 [(.ref b10)] [] (rm42 l Z a0 hw [] b30 b10 b262 b2 k263 T261.heap n0 O261 g_b30 g_b10 g_b262 g_b2 OV266 f267 f268 f269 f270 f271 f272 f273 f302 f274 f275) 233 (l493_15 dp1 dq2 q3 q4 zz51 zz52 zz57 dq50 b1 b2 b10 b20 b30) rfl at_233 (lenOf pd9 rfl) 0 6 41
     obtain ⟨rfl, Nq304, K305, f306, f307, f308, f309, f310, f311, f312, f313, f314⟩ := hQ303
     have N303 := Fr.app N261 Nq304
     have O303 := Old.keep O261 K305 (allS g_b262 (allS g_b30 all0))
     have pre315 : Go p e below T303 (mkF m 236 (l493_15 dp1 dq2 q3 q4 zz51 zz52 zz57 dq50 b1 b2 b10 b20 b30) []) E0 := fun t k => by
      refine pre301 _ ?_
      refine XS.ifYes X261.here hx rfl (pc0 := 216) (pc' := 229) rfl (hb hby at_216) rfl ((if0 _ _).trans (teq (by decide : (0 : Int32) = (0 : Int32))).1) (by decide) (by decide) ?_
      refine yal X261 hx hby at_229 rfl rfl ?_
      refine yal X261 hx hby at_231 rfl rfl ?_
      refine st303 _ ?_
      exact k
     have lt316 : b2 < T5.heap.size := (Nat.lt_of_lt_of_le A2.lt K7.1)
     have ne317 : b2 ≠ b10 := Nat.ne_of_lt (Nat.lt_of_lt_of_le lt316 sz_b10)
     have f318 := ((f260.keep K265).keep K305)
     have lt319 : b2 < T15.heap.size := (Nat.lt_of_lt_of_le (Nat.lt_of_lt_of_le (Nat.lt_of_lt_of_le A2.lt K7.1) E10.1) K17.1)
     have ne320 : b2 ≠ b20 := Nat.ne_of_lt (Nat.lt_of_lt_of_le lt319 sz_b20)
     have lt321 : b2 < T25.heap.size := (Nat.lt_of_lt_of_le (Nat.lt_of_lt_of_le (Nat.lt_of_lt_of_le (Nat.lt_of_lt_of_le (Nat.lt_of_lt_of_le A2.lt K7.1) E10.1) K17.1) E20.1) K27.1)
     have ne322 : b2 ≠ b30 := Nat.ne_of_lt (Nat.lt_of_lt_of_le lt321 sz_b30)
     have lt323 : b2 < T31.heap.size := (Nat.lt_of_lt_of_le (Nat.lt_of_lt_of_le (Nat.lt_of_lt_of_le (Nat.lt_of_lt_of_le (Nat.lt_of_lt_of_le (Nat.lt_of_lt_of_le (Nat.lt_of_lt_of_le A2.lt K7.1) E10.1) K17.1) E20.1) K27.1) E30.1) K33.1)
     have ne324 : b2 ≠ b262 := Nat.ne_of_lt (Nat.lt_of_lt_of_le lt323 sz_b262)
     have f325 := ((((((((f9.ext E10).keep K17 (ninS ne317 nin0)).ext E20).keep K27 (ninS ne320 nin0)).ext E30).keep K33 (ninS ne322 nin0)).keep K265 (ninS ne322 nin0)).keep K305 (ninS ne324 (ninS ne322 nin0)))
     have f326 := (f302.keep K305)
     have lt327 : b10 < T15.heap.size := (Nat.lt_of_lt_of_le A10.lt K17.1)
     have ne328 : b10 ≠ b20 := Nat.ne_of_lt (Nat.lt_of_lt_of_le lt327 sz_b20)
     have lt329 : b10 < T25.heap.size := (Nat.lt_of_lt_of_le (Nat.lt_of_lt_of_le (Nat.lt_of_lt_of_le A10.lt K17.1) E20.1) K27.1)
     have ne330 : b10 ≠ b30 := Nat.ne_of_lt (Nat.lt_of_lt_of_le lt329 sz_b30)
     have lt331 : b10 < T31.heap.size := (Nat.lt_of_lt_of_le (Nat.lt_of_lt_of_le (Nat.lt_of_lt_of_le (Nat.lt_of_lt_of_le (Nat.lt_of_lt_of_le A10.lt K17.1) E20.1) K27.1) E30.1) K33.1)
     have ne332 : b10 ≠ b262 := Nat.ne_of_lt (Nat.lt_of_lt_of_le lt331 sz_b262)
     have f333 := ((((((f19.ext E20).keep K27 (ninS ne328 nin0)).ext E30).keep K33 (ninS ne330 nin0)).keep K265 (ninS ne330 nin0)).keep K305 (ninS ne332 (ninS ne330 nin0)))
     have f334 := ((((f28.ext E30).keep K33).keep K265).keep K305)
     exact ct21 hw w1 kw1 G b2 b10 b20 b30 b262 k263 dq50 zz51 zz52 zz57 dp1 dq2 q3 q4 ((1 : Int32)) ((0 : Int32)) b1 p1 q2 T303.heap n0 O303 hx hby hml hown hret hlk hZ (X303.more (by decide) (by decide)) rfl N303 pre315 g_b2 g_b10 g_b20 g_b30 g_b262 (Ne.symm ne317) OV266 f318 f325 f326 f333 f334 f308 f309 f310 f311 f312 f313 f314 f306 f307 hC0 (by have q0 := bzz51; omega) (by have q0 := bzz52; omega) (by have q0 := bzz57; omega)
    ·
     have hq335 : zz56 = (1 : Int32) := (own_geq (n := 1) (k := (1 : Int32)) (by decide) (by have q0 := bzz56; have q1 := own_neq (n := 0) (k := (0 : Int32)) (by decide) hc300; omega))
     have pre336 : Go p e below T261 (mkF m 216 (l493_16 dp1 dq2 q3 q4 zz51 zz52 zz57 dq50 b1 b2 b10 b20 b30) [(.int 1)]) E0 := fun t k => pre299 t (by rw [hq335]; exact k)
     have f337 := (((((f18.ext E20).keep K27).ext E30).keep K33).keep K265)
     obtain ⟨_, T338, L338, X338, hQ338, st338⟩ := yv X261 hx hZ hown hby hml (y := yn13) (own_w hw 108 rfl) (own_w hw 109 rfl) (own_w hw 111 rfl) (own_w hw 110 rfl) (own_w hw 112 rfl) (w_33 hw) rfl f267 [(.ref b10)] [] (rm49 l Z a0 hw [] b30 b10 b262 b2 k263 T261.heap n0 O261 g_b30 g_b10 g_b262 g_b2 OV266 f267 f268 f269 f270 f271 f272 f273 f337 f274 f275) 223 (l493_16 dp1 dq2 q3 q4 zz51 zz52 zz57 dq50 b1 b2 b10 b20 b30) rfl at_223 (lenOf pd9 rfl) 0 6 41
     obtain ⟨rfl, Nq339, K340, f341, f342, f343, f344, f345, f346, f347, f348, f349⟩ := hQ338
     have N338 := Fr.app N261 Nq339
     have O338 := Old.keep O261 K340 (allS g_b30 (allS g_b262 all0))
     have pre350 : Go p e below T338 (mkF m 236 (l493_16 dp1 dq2 q3 q4 zz51 zz52 zz57 dq50 b1 b2 b10 b20 b30) []) E0 := fun t k => by
      refine pre336 _ ?_
      refine yfn X261 hx hby at_216 ((if0 _ _).trans (feq (by decide : ¬ ((1 : Int32) = (0 : Int32)))).1) ?_
      refine yal X261 hx hby at_219 rfl rfl ?_
      refine yal X261 hx hby at_221 rfl rfl ?_
      refine st338 _ ?_
      refine ygo X338 hx hby 226 236 rfl at_226 (by decide) ?_
      exact k
     have lt351 : b2 < T5.heap.size := (Nat.lt_of_lt_of_le A2.lt K7.1)
     have ne352 : b2 ≠ b10 := Nat.ne_of_lt (Nat.lt_of_lt_of_le lt351 sz_b10)
     have f353 := ((f260.keep K265).keep K340)
     have lt354 : b2 < T15.heap.size := (Nat.lt_of_lt_of_le (Nat.lt_of_lt_of_le (Nat.lt_of_lt_of_le A2.lt K7.1) E10.1) K17.1)
     have ne355 : b2 ≠ b20 := Nat.ne_of_lt (Nat.lt_of_lt_of_le lt354 sz_b20)
     have lt356 : b2 < T25.heap.size := (Nat.lt_of_lt_of_le (Nat.lt_of_lt_of_le (Nat.lt_of_lt_of_le (Nat.lt_of_lt_of_le (Nat.lt_of_lt_of_le A2.lt K7.1) E10.1) K17.1) E20.1) K27.1)
     have ne357 : b2 ≠ b30 := Nat.ne_of_lt (Nat.lt_of_lt_of_le lt356 sz_b30)
     have lt358 : b2 < T31.heap.size := (Nat.lt_of_lt_of_le (Nat.lt_of_lt_of_le (Nat.lt_of_lt_of_le (Nat.lt_of_lt_of_le (Nat.lt_of_lt_of_le (Nat.lt_of_lt_of_le (Nat.lt_of_lt_of_le A2.lt K7.1) E10.1) K17.1) E20.1) K27.1) E30.1) K33.1)
     have ne359 : b2 ≠ b262 := Nat.ne_of_lt (Nat.lt_of_lt_of_le lt358 sz_b262)
     have f360 := ((((((((f9.ext E10).keep K17 (ninS ne352 nin0)).ext E20).keep K27 (ninS ne355 nin0)).ext E30).keep K33 (ninS ne357 nin0)).keep K265 (ninS ne357 nin0)).keep K340 (ninS ne357 (ninS ne359 nin0)))
     have f361 := (f337.keep K340)
     have lt362 : b10 < T15.heap.size := (Nat.lt_of_lt_of_le A10.lt K17.1)
     have ne363 : b10 ≠ b20 := Nat.ne_of_lt (Nat.lt_of_lt_of_le lt362 sz_b20)
     have lt364 : b10 < T25.heap.size := (Nat.lt_of_lt_of_le (Nat.lt_of_lt_of_le (Nat.lt_of_lt_of_le A10.lt K17.1) E20.1) K27.1)
     have ne365 : b10 ≠ b30 := Nat.ne_of_lt (Nat.lt_of_lt_of_le lt364 sz_b30)
     have lt366 : b10 < T31.heap.size := (Nat.lt_of_lt_of_le (Nat.lt_of_lt_of_le (Nat.lt_of_lt_of_le (Nat.lt_of_lt_of_le (Nat.lt_of_lt_of_le A10.lt K17.1) E20.1) K27.1) E30.1) K33.1)
     have ne367 : b10 ≠ b262 := Nat.ne_of_lt (Nat.lt_of_lt_of_le lt366 sz_b262)
     have f368 := ((((((f19.ext E20).keep K27 (ninS ne363 nin0)).ext E30).keep K33 (ninS ne365 nin0)).keep K265 (ninS ne365 nin0)).keep K340 (ninS ne365 (ninS ne367 nin0)))
     have f369 := ((((f28.ext E30).keep K33).keep K265).keep K340)
     exact ct22 hw w1 kw1 G b2 b10 b20 b30 b262 k263 dq50 zz51 zz52 zz57 dp1 dq2 q3 q4 ((1 : Int32)) ((1 : Int32)) b1 p1 q2 T338.heap n0 O338 hx hby hml hown hret hlk hZ (X338.more (by decide) (by decide)) rfl N338 pre350 g_b2 g_b10 g_b20 g_b30 g_b262 ne352 OV266 f353 f360 f361 f368 f369 f341 f342 f343 f344 f345 f346 f347 f348 f349 hC0 (by have q0 := bzz51; omega) (by have q0 := bzz52; omega) (by have q0 := bzz57; omega)
def l494_0 (dp1 : Int32) (q3 q4 : Int64) (zz52 zz53 : Int32) (zz54 zz55 : Int32) (zz50 zz51 zz56 : Int32) : Array Slot := #[.val (.int dp1), .val (.long 9223372036854775807), .second, .val (.long q3), .second, .val (.long q4), .second, .val (.int zz52), .val (.int zz53), .val (.int zz54), .val (.int zz55), .val (.int zz50), .val (.int zz51), .val (.int zz56), .val (.long 9223372036854775806), .second, .unset, .unset, .unset, .unset, .unset, .unset, .unset, .unset, .unset, .unset, .unset, .unset, .unset, .unset]
def l494_1 (dp1 : Int32) (q3 q4 : Int64) (zz52 zz53 : Int32) (zz54 zz55 : Int32) (zz50 zz51 zz56 : Int32) : Array Slot := #[.val (.int dp1), .val (.long 9223372036854775807), .second, .val (.long q3), .second, .val (.long q4), .second, .val (.int zz52), .val (.int zz53), .val (.int zz54), .val (.int zz55), .val (.int zz50), .val (.int zz51), .val (.int zz56), .unset, .unset, .unset, .unset, .unset, .unset, .unset, .unset, .unset, .unset, .unset, .unset, .unset, .unset, .unset, .unset]
def l494_2 (dp1 : Int32) (q2 q3 q4 : Int64) (zz52 zz53 : Int32) (zz54 zz55 : Int32) (zz50 zz51 zz56 : Int32) : Array Slot := #[.val (.int dp1), .val (.long q2), .second, .val (.long q3), .second, .val (.long q4), .second, .val (.int zz52), .val (.int zz53), .val (.int zz54), .val (.int zz55), .val (.int zz50), .val (.int zz51), .val (.int zz56), .val (.long q2), .second, .unset, .unset, .unset, .unset, .unset, .unset, .unset, .unset, .unset, .unset, .unset, .unset, .unset, .unset]
def l494_3 (dp1 : Int32) (q2 q3 q4 : Int64) (zz52 zz53 : Int32) (zz54 zz55 : Int32) (zz50 zz51 zz56 : Int32) : Array Slot := #[.val (.int dp1), .val (.long q2), .second, .val (.long q3), .second, .val (.long q4), .second, .val (.int zz52), .val (.int zz53), .val (.int zz54), .val (.int zz55), .val (.int zz50), .val (.int zz51), .val (.int zz56), .unset, .unset, .unset, .unset, .unset, .unset, .unset, .unset, .unset, .unset, .unset, .unset, .unset, .unset, .unset, .unset]
set_option maxRecDepth 65536 in
set_option maxHeartbeats 40000000 in
theorem ct1 {p : Program} {l : Launch} {e : Env} {s : State} {m : MethodId} {below : List Frame} {meth : Method} {c : Code} {E0 T0 : State} {locs : List Loc} {Z : State} {a0 : Array Value} (hw : HW a0 Z) (w1 : Addr) (kw1 : ClassId) (G : GW Z w1 kw1) (zz52 zz50 : Int32) (zz53 zz51 : Int32) (zz54 zz55 : Int32) (zz56 dp1 : Int32) (q2 q3 q4 : Int64) (p1 : Int32) (h0 : Heap) (n0 : Nat) (O0 : Old Z n0 h0)
    (hx : p.tables.exec = Jvm.exec) (hby : c.code = code) (hml : c.maxLocals = 30) (hown : s.vm.findClass cn8 = some m.cls) (hret : meth.sig.returnType = ret) (hlk : meth.locks = false) (hZ : Z.Warmed39 s.vm)
    (X0 : Stand p l e room_1 s m #[(.int p1), (.long q2), (.long q3), (.long q4)] below meth c T0 locs 0 0) (e0 : T0.heap = h0) (N0 : Fr n0 locs) (pre0 : Go p e below T0 (mkF m 105 (l494_3 dp1 q2 q3 q4 zz52 zz53 zz54 zz55 zz50 zz51 zz56) []) E0) (hC0 : ¬ (zz52 < zz50)) (hC1 : ¬ (zz53 < zz51)) (bzz50 : 0 ≤ zz50.toInt ∧ zz50.toInt ≤ 1) (bzz51 : 0 ≤ zz51.toInt ∧ zz51.toInt ≤ 1) (bzz52 : 0 ≤ zz52.toInt ∧ zz52.toInt ≤ 1) (bzz53 : 0 ≤ zz53.toInt ∧ zz53.toInt ≤ 1) (bzz54 : 0 ≤ zz54.toInt ∧ zz54.toInt ≤ 1) (bzz55 : 0 ≤ zz55.toInt ∧ zz55.toInt ≤ 1) (bzz56 : 0 ≤ zz56.toInt ∧ zz56.toInt ≤ 1) :
    ∃ (s₂ : State) (o : Outcome), Steps p.tables e below E0 s₂ ∧ s₂.status = .running ∧ Ended s₂ below o ∧ ∃ v L, o = .returned v ∧ Q0 n0 v s₂.heap L ∧ FrameEnd s o s₂ L 24 192 := by
 obtain ⟨S_w1, A_w1⟩ := id G
 have pre1 : Go p e below T0 (mkF m 110 (l494_3 dp1 q2 q3 q4 zz52 zz53 zz54 zz55 zz50 zz51 zz56) [(.int (lcmpW q2 (9223372036854775807 : Int64)))]) E0 := fun t k => by
  refine pre0 _ ?_
  refine XS.lloadN X0.here hx rfl (hb hby at_105) rfl ?_
  refine X0.ldc2Long hx hown (mvT hZ (own_w hw 0 rfl)) (g := (mkF m 106 (l494_3 dp1 q2 q3 q4 zz52 zz53 zz54 zz55 zz50 zz51 zz56) [(.long q2)])) rfl (hb hby at_106) _ ?_
  refine XS.lcmp X0.here hx rfl (hb hby at_109) rfl ?_
  exact k
 by_cases hc2 : q2 = (9223372036854775807 : Int64)
 ·
  have pre3 : Go p e below T0 (mkF m 110 (l494_1 dp1 q3 q4 zz52 zz53 zz54 zz55 zz50 zz51 zz56) [(.int (lcmpW (9223372036854775807 : Int64) (9223372036854775807 : Int64)))]) E0 := fun t k => pre1 t (by rw [hc2]; exact k)
  have pre4 : Go p e below T0 (mkF m 122 (l494_0 dp1 q3 q4 zz52 zz53 zz54 zz55 zz50 zz51 zz56) []) E0 := fun t k => by
   refine pre3 _ ?_
   refine yfn X0 hx hby at_110 ((if0 _ _).trans (teq ((lw_eq _ _).mpr (by decide : (9223372036854775807 : Int64) = (9223372036854775807 : Int64)))).2) ?_
   refine X0.ldc2Long hx hown (mvT hZ (own_w hw 124 rfl)) (g := (mkF m 113 (l494_1 dp1 q3 q4 zz52 zz53 zz54 zz55 zz50 zz51 zz56) [])) rfl (hb hby at_113) _ ?_
   refine ygo X0 hx hby 116 120 rfl at_116 (by decide) ?_
   refine XS.lstore X0.here hx rfl (hb hby at_120) rfl (l' := (l494_0 dp1 q3 q4 zz52 zz53 zz54 zz55 zz50 zz51 zz56)) rfl ?_
   exact k
  exact ct2 hw w1 kw1 G ((9223372036854775806 : Int64)) zz52 zz50 zz53 zz51 zz54 zz55 zz56 dp1 ((9223372036854775807 : Int64)) q3 q4 p1 q2 h0 n0 O0 hx hby hml hown hret hlk hZ (X0.more (by decide) (by decide)) e0 N0 pre4 (by decide : ¬ ((9223372036854775806 : Int64) = (9223372036854775807 : Int64))) hC0 hC1 (by have q0 := bzz50; omega) (by have q0 := bzz51; omega) (by have q0 := bzz52; omega) (by have q0 := bzz53; omega) (by have q0 := bzz54; omega) (by have q0 := bzz55; omega) (by have q0 := bzz56; omega)
 ·
  have pre5 : Go p e below T0 (mkF m 122 (l494_2 dp1 q2 q3 q4 zz52 zz53 zz54 zz55 zz50 zz51 zz56) []) E0 := fun t k => by
   refine pre1 _ ?_
   refine XS.ifYes X0.here hx rfl (pc0 := 110) (pc' := 119) rfl (hb hby at_110) rfl ((if0 _ _).trans (feq (fun q => hc2 ((lw_eq _ _).mp q))).2) (by decide) (by decide) ?_
   refine XS.lloadN X0.here hx rfl (hb hby at_119) rfl ?_
   refine XS.lstore X0.here hx rfl (hb hby at_120) rfl (l' := (l494_2 dp1 q2 q3 q4 zz52 zz53 zz54 zz55 zz50 zz51 zz56)) rfl ?_
   exact k
  exact ct2 hw w1 kw1 G q2 zz52 zz50 zz53 zz51 zz54 zz55 zz56 dp1 q2 q3 q4 p1 q2 h0 n0 O0 hx hby hml hown hret hlk hZ (X0.more (by decide) (by decide)) e0 N0 pre5 hc2 hC0 hC1 (by have q0 := bzz50; omega) (by have q0 := bzz51; omega) (by have q0 := bzz52; omega) (by have q0 := bzz53; omega) (by have q0 := bzz54; omega) (by have q0 := bzz55; omega) (by have q0 := bzz56; omega)
theorem ef0 (m : MethodId) (x0 : Int32) (x1 x2 x3 : Int64) : entryFrame m #[(.int x0), (.long x1), (.long x2), (.long x3)] maxLocals = mkF m 0 #[.val (.int x0), .val (.long x1), .second, .val (.long x2), .second, .val (.long x3), .second, .unset, .unset, .unset, .unset, .unset, .unset, .unset, .unset, .unset, .unset, .unset, .unset, .unset, .unset, .unset, .unset, .unset, .unset, .unset, .unset, .unset, .unset, .unset] [] := by first | (simp [entryFrame, mkF, argsToLocals, Value.category, maxLocals]; done) | rfl
set_option maxRecDepth 65536 in
set_option maxHeartbeats 40000000 in
theorem rm0 (l : Launch) (Z : State) (a0 : Array Value) (hw : HW a0 Z) (w1 : Addr) (kw1 : ClassId) (G : GW Z w1 kw1) (ws : List Jvm.Cond) (p1 : Int32) (q2 q3 q4 : Int64) (h0 : Heap) (n0 : Nat) (O0 : Old Z n0 h0) :
    MetFree l x (head1 (Jvm.Cond.code x code maxLocals ret :: ws) room_1) (fun a U => a = #[(.int p1), (.long q2), (.long q3), (.long q4)] ∧ Z.Warmed39 U.vm ∧ U.heap = h0) (fun _ _ _ _ _ => True) (fun _ U o U' => ∃ v L, o = .returned v ∧ Q0 n0 v U'.heap L ∧ FrameEnd U o U' L 24 192) := by
 obtain ⟨S_w1, A_w1⟩ := id G
 refine MetFree.of_bodySF (plainFor_of_name pn2) hisR ?_
 intro p e s m args below meth c s₁ Bd hml hP hK
 obtain ⟨rfl, hZ, hh⟩ := hP
 obtain ⟨hx, hby, hown, hret, hlk, X0, e0, N0⟩ := own_bd Bd hh n0
 have pre0 := own_ct s₁ (p := p) (e := e) (below := below) (ef0 m p1 q2 q3 q4)
 revert pre0
 generalize s₁.setTop (entryFrame m #[(.int p1), (.long q2), (.long q3), (.long q4)] maxLocals) = E0
 intro pre0
 have pre1 : Go p e below s₁ (mkF m 3 #[.val (.int p1), .val (.long q2), .second, .val (.long q3), .second, .val (.long q4), .second, .unset, .unset, .unset, .unset, .unset, .unset, .unset, .unset, .unset, .unset, .unset, .unset, .unset, .unset, .unset, .unset, .unset, .unset, .unset, .unset, .unset, .unset, .unset] [(.int (p1 &&& (1 : Int32)))]) E0 := fun t k => by
  refine pre0 _ ?_
  refine yin X0 hx hby at_0 rfl ?_
  refine yic X0 hx hby at_1 ?_
  refine XS.iand X0.here hx rfl (hb hby at_2) rfl ?_
  exact k
 obtain ⟨z2, hz2⟩ : ∃ z : Int32, z = if (p1 &&& (1 : Int32)) = (0 : Int32) then (0 : Int32) else (1 : Int32) := ⟨_, rfl⟩
 have bz2 : 0 ≤ z2.toInt ∧ z2.toInt ≤ 1 := by rw [hz2]; split <;> decide
 have pre2 : Go p e below s₁ (mkF m 11 #[.val (.int p1), .val (.long q2), .second, .val (.long q3), .second, .val (.long q4), .second, .unset, .unset, .unset, .unset, .unset, .unset, .unset, .unset, .unset, .unset, .unset, .unset, .unset, .unset, .unset, .unset, .unset, .unset, .unset, .unset, .unset, .unset, .unset] [(.int z2)]) E0 := fun t k => by
  by_cases hc2 : (p1 &&& (1 : Int32)) = (0 : Int32)
  ·
   rw [hz2, if_pos hc2] at k
   refine pre1 _ ?_
   refine XS.ifYes X0.here hx rfl (pc0 := 3) (pc' := 10) rfl (hb hby at_3) rfl ((if0 _ _).trans (teq hc2).1) (by decide) (by decide) ?_
   refine yic X0 hx hby at_10 ?_
   exact k
  ·
   rw [hz2, if_neg hc2] at k
   refine pre1 _ ?_
   refine yfn X0 hx hby at_3 ((if0 _ _).trans (feq hc2).1) ?_
   refine yic X0 hx hby at_6 ?_
   refine ygo X0 hx hby 7 11 rfl at_7 (by decide) ?_
   exact k
 have pre3 : Go p e below s₁ (mkF m 16 #[.val (.int p1), .val (.long q2), .second, .val (.long q3), .second, .val (.long q4), .second, .val (.int z2), .unset, .unset, .unset, .unset, .unset, .unset, .unset, .unset, .unset, .unset, .unset, .unset, .unset, .unset, .unset, .unset, .unset, .unset, .unset, .unset, .unset, .unset] [(.int (p1 &&& (2 : Int32)))]) E0 := fun t k => by
  refine pre2 _ ?_
  refine yis X0 hx hby at_11 (l' := #[.val (.int p1), .val (.long q2), .second, .val (.long q3), .second, .val (.long q4), .second, .val (.int z2), .unset, .unset, .unset, .unset, .unset, .unset, .unset, .unset, .unset, .unset, .unset, .unset, .unset, .unset, .unset, .unset, .unset, .unset, .unset, .unset, .unset, .unset]) rfl ?_
  refine yin X0 hx hby at_13 rfl ?_
  refine yic X0 hx hby at_14 ?_
  refine XS.iand X0.here hx rfl (hb hby at_15) rfl ?_
  exact k
 obtain ⟨z4, hz4⟩ : ∃ z : Int32, z = if (p1 &&& (2 : Int32)) = (0 : Int32) then (0 : Int32) else (1 : Int32) := ⟨_, rfl⟩
 have bz4 : 0 ≤ z4.toInt ∧ z4.toInt ≤ 1 := by rw [hz4]; split <;> decide
 have pre4 : Go p e below s₁ (mkF m 24 #[.val (.int p1), .val (.long q2), .second, .val (.long q3), .second, .val (.long q4), .second, .val (.int z2), .unset, .unset, .unset, .unset, .unset, .unset, .unset, .unset, .unset, .unset, .unset, .unset, .unset, .unset, .unset, .unset, .unset, .unset, .unset, .unset, .unset, .unset] [(.int z4)]) E0 := fun t k => by
  by_cases hc4 : (p1 &&& (2 : Int32)) = (0 : Int32)
  ·
   rw [hz4, if_pos hc4] at k
   refine pre3 _ ?_
   refine XS.ifYes X0.here hx rfl (pc0 := 16) (pc' := 23) rfl (hb hby at_16) rfl ((if0 _ _).trans (teq hc4).1) (by decide) (by decide) ?_
   refine yic X0 hx hby at_23 ?_
   exact k
  ·
   rw [hz4, if_neg hc4] at k
   refine pre3 _ ?_
   refine yfn X0 hx hby at_16 ((if0 _ _).trans (feq hc4).1) ?_
   refine yic X0 hx hby at_19 ?_
   refine ygo X0 hx hby 20 24 rfl at_20 (by decide) ?_
   exact k
 have pre5 : Go p e below s₁ (mkF m 29 #[.val (.int p1), .val (.long q2), .second, .val (.long q3), .second, .val (.long q4), .second, .val (.int z2), .val (.int z4), .unset, .unset, .unset, .unset, .unset, .unset, .unset, .unset, .unset, .unset, .unset, .unset, .unset, .unset, .unset, .unset, .unset, .unset, .unset, .unset, .unset] [(.int (p1 &&& (4 : Int32)))]) E0 := fun t k => by
  refine pre4 _ ?_
  refine yis X0 hx hby at_24 (l' := #[.val (.int p1), .val (.long q2), .second, .val (.long q3), .second, .val (.long q4), .second, .val (.int z2), .val (.int z4), .unset, .unset, .unset, .unset, .unset, .unset, .unset, .unset, .unset, .unset, .unset, .unset, .unset, .unset, .unset, .unset, .unset, .unset, .unset, .unset, .unset]) rfl ?_
  refine yin X0 hx hby at_26 rfl ?_
  refine yic X0 hx hby at_27 ?_
  refine XS.iand X0.here hx rfl (hb hby at_28) rfl ?_
  exact k
 obtain ⟨z6, hz6⟩ : ∃ z : Int32, z = if (p1 &&& (4 : Int32)) = (0 : Int32) then (0 : Int32) else (1 : Int32) := ⟨_, rfl⟩
 have bz6 : 0 ≤ z6.toInt ∧ z6.toInt ≤ 1 := by rw [hz6]; split <;> decide
 have pre6 : Go p e below s₁ (mkF m 37 #[.val (.int p1), .val (.long q2), .second, .val (.long q3), .second, .val (.long q4), .second, .val (.int z2), .val (.int z4), .unset, .unset, .unset, .unset, .unset, .unset, .unset, .unset, .unset, .unset, .unset, .unset, .unset, .unset, .unset, .unset, .unset, .unset, .unset, .unset, .unset] [(.int z6)]) E0 := fun t k => by
  by_cases hc6 : (p1 &&& (4 : Int32)) = (0 : Int32)
  ·
   rw [hz6, if_pos hc6] at k
   refine pre5 _ ?_
   refine XS.ifYes X0.here hx rfl (pc0 := 29) (pc' := 36) rfl (hb hby at_29) rfl ((if0 _ _).trans (teq hc6).1) (by decide) (by decide) ?_
   refine yic X0 hx hby at_36 ?_
   exact k
  ·
   rw [hz6, if_neg hc6] at k
   refine pre5 _ ?_
   refine yfn X0 hx hby at_29 ((if0 _ _).trans (feq hc6).1) ?_
   refine yic X0 hx hby at_32 ?_
   refine ygo X0 hx hby 33 37 rfl at_33 (by decide) ?_
   exact k
 have pre7 : Go p e below s₁ (mkF m 43 #[.val (.int p1), .val (.long q2), .second, .val (.long q3), .second, .val (.long q4), .second, .val (.int z2), .val (.int z4), .val (.int z6), .unset, .unset, .unset, .unset, .unset, .unset, .unset, .unset, .unset, .unset, .unset, .unset, .unset, .unset, .unset, .unset, .unset, .unset, .unset, .unset] [(.int (p1 &&& (8 : Int32)))]) E0 := fun t k => by
  refine pre6 _ ?_
  refine yis X0 hx hby at_37 (l' := #[.val (.int p1), .val (.long q2), .second, .val (.long q3), .second, .val (.long q4), .second, .val (.int z2), .val (.int z4), .val (.int z6), .unset, .unset, .unset, .unset, .unset, .unset, .unset, .unset, .unset, .unset, .unset, .unset, .unset, .unset, .unset, .unset, .unset, .unset, .unset, .unset]) rfl ?_
  refine yin X0 hx hby at_39 rfl ?_
  refine XS.bipush X0.here hx rfl (hb hby at_40) ?_
  refine XS.iand X0.here hx rfl (hb hby at_42) rfl ?_
  exact k
 obtain ⟨z8, hz8⟩ : ∃ z : Int32, z = if (p1 &&& (8 : Int32)) = (0 : Int32) then (0 : Int32) else (1 : Int32) := ⟨_, rfl⟩
 have bz8 : 0 ≤ z8.toInt ∧ z8.toInt ≤ 1 := by rw [hz8]; split <;> decide
 have pre8 : Go p e below s₁ (mkF m 51 #[.val (.int p1), .val (.long q2), .second, .val (.long q3), .second, .val (.long q4), .second, .val (.int z2), .val (.int z4), .val (.int z6), .unset, .unset, .unset, .unset, .unset, .unset, .unset, .unset, .unset, .unset, .unset, .unset, .unset, .unset, .unset, .unset, .unset, .unset, .unset, .unset] [(.int z8)]) E0 := fun t k => by
  by_cases hc8 : (p1 &&& (8 : Int32)) = (0 : Int32)
  ·
   rw [hz8, if_pos hc8] at k
   refine pre7 _ ?_
   refine XS.ifYes X0.here hx rfl (pc0 := 43) (pc' := 50) rfl (hb hby at_43) rfl ((if0 _ _).trans (teq hc8).1) (by decide) (by decide) ?_
   refine yic X0 hx hby at_50 ?_
   exact k
  ·
   rw [hz8, if_neg hc8] at k
   refine pre7 _ ?_
   refine yfn X0 hx hby at_43 ((if0 _ _).trans (feq hc8).1) ?_
   refine yic X0 hx hby at_46 ?_
   refine ygo X0 hx hby 47 51 rfl at_47 (by decide) ?_
   exact k
 have pre9 : Go p e below s₁ (mkF m 55 #[.val (.int p1), .val (.long q2), .second, .val (.long q3), .second, .val (.long q4), .second, .val (.int z2), .val (.int z4), .val (.int z6), .val (.int z8), .unset, .unset, .unset, .unset, .unset, .unset, .unset, .unset, .unset, .unset, .unset, .unset, .unset, .unset, .unset, .unset, .unset, .unset, .unset] [(.int z2)]) E0 := fun t k => by
  refine pre8 _ ?_
  refine yis X0 hx hby at_51 (l' := #[.val (.int p1), .val (.long q2), .second, .val (.long q3), .second, .val (.long q4), .second, .val (.int z2), .val (.int z4), .val (.int z6), .val (.int z8), .unset, .unset, .unset, .unset, .unset, .unset, .unset, .unset, .unset, .unset, .unset, .unset, .unset, .unset, .unset, .unset, .unset, .unset, .unset]) rfl ?_
  refine yil X0 hx hby at_53 rfl ?_
  exact k
 by_cases hc10 : z2 = (0 : Int32)
 ·
  have pre11 : Go p e below s₁ (mkF m 55 #[.val (.int p1), .val (.long q2), .second, .val (.long q3), .second, .val (.long q4), .second, .val (.int 0), .val (.int z4), .val (.int z6), .val (.int z8), .unset, .unset, .unset, .unset, .unset, .unset, .unset, .unset, .unset, .unset, .unset, .unset, .unset, .unset, .unset, .unset, .unset, .unset, .unset] [(.int 0)]) E0 := fun t k => pre9 t (by rw [hc10]; exact k)
  have pre12 : Go p e below s₁ (mkF m 74 #[.val (.int p1), .val (.long q2), .second, .val (.long q3), .second, .val (.long q4), .second, .val (.int 0), .val (.int z4), .val (.int z6), .val (.int z8), .val (.int 0), .unset, .unset, .unset, .unset, .unset, .unset, .unset, .unset, .unset, .unset, .unset, .unset, .unset, .unset, .unset, .unset, .unset, .unset] [(.int z4)]) E0 := fun t k => by
   refine pre11 _ ?_
   refine XS.ifYes X0.here hx rfl (pc0 := 55) (pc' := 69) rfl (hb hby at_55) rfl ((if0 _ _).trans (teq (by decide : (0 : Int32) = (0 : Int32))).1) (by decide) (by decide) ?_
   refine yic X0 hx hby at_69 ?_
   refine yis X0 hx hby at_70 (l' := #[.val (.int p1), .val (.long q2), .second, .val (.long q3), .second, .val (.long q4), .second, .val (.int 0), .val (.int z4), .val (.int z6), .val (.int z8), .val (.int 0), .unset, .unset, .unset, .unset, .unset, .unset, .unset, .unset, .unset, .unset, .unset, .unset, .unset, .unset, .unset, .unset, .unset, .unset]) rfl ?_
   refine yil X0 hx hby at_72 rfl ?_
   exact k
  by_cases hc13 : z4 = (0 : Int32)
  ·
   have pre14 : Go p e below s₁ (mkF m 74 #[.val (.int p1), .val (.long q2), .second, .val (.long q3), .second, .val (.long q4), .second, .val (.int 0), .val (.int 0), .val (.int z6), .val (.int z8), .val (.int 0), .unset, .unset, .unset, .unset, .unset, .unset, .unset, .unset, .unset, .unset, .unset, .unset, .unset, .unset, .unset, .unset, .unset, .unset] [(.int 0)]) E0 := fun t k => pre12 t (by rw [hc13]; exact k)
   have pre15 : Go p e below s₁ (mkF m 95 #[.val (.int p1), .val (.long q2), .second, .val (.long q3), .second, .val (.long q4), .second, .val (.int 0), .val (.int 0), .val (.int z6), .val (.int z8), .val (.int 0), .val (.int 0), .unset, .unset, .unset, .unset, .unset, .unset, .unset, .unset, .unset, .unset, .unset, .unset, .unset, .unset, .unset, .unset, .unset] [(.int (p1 &&& (64 : Int32)))]) E0 := fun t k => by
    refine pre14 _ ?_
    refine XS.ifYes X0.here hx rfl (pc0 := 74) (pc' := 88) rfl (hb hby at_74) rfl ((if0 _ _).trans (teq (by decide : (0 : Int32) = (0 : Int32))).1) (by decide) (by decide) ?_
    refine yic X0 hx hby at_88 ?_
    refine yis X0 hx hby at_89 (l' := #[.val (.int p1), .val (.long q2), .second, .val (.long q3), .second, .val (.long q4), .second, .val (.int 0), .val (.int 0), .val (.int z6), .val (.int z8), .val (.int 0), .val (.int 0), .unset, .unset, .unset, .unset, .unset, .unset, .unset, .unset, .unset, .unset, .unset, .unset, .unset, .unset, .unset, .unset, .unset]) rfl ?_
    refine yin X0 hx hby at_91 rfl ?_
    refine XS.bipush X0.here hx rfl (hb hby at_92) ?_
    refine XS.iand X0.here hx rfl (hb hby at_94) rfl ?_
    exact k
   obtain ⟨z16, hz16⟩ : ∃ z : Int32, z = if (p1 &&& (64 : Int32)) = (0 : Int32) then (0 : Int32) else (1 : Int32) := ⟨_, rfl⟩
   have bz16 : 0 ≤ z16.toInt ∧ z16.toInt ≤ 1 := by rw [hz16]; split <;> decide
   have pre16 : Go p e below s₁ (mkF m 103 #[.val (.int p1), .val (.long q2), .second, .val (.long q3), .second, .val (.long q4), .second, .val (.int 0), .val (.int 0), .val (.int z6), .val (.int z8), .val (.int 0), .val (.int 0), .unset, .unset, .unset, .unset, .unset, .unset, .unset, .unset, .unset, .unset, .unset, .unset, .unset, .unset, .unset, .unset, .unset] [(.int z16)]) E0 := fun t k => by
    by_cases hc16 : (p1 &&& (64 : Int32)) = (0 : Int32)
    ·
     rw [hz16, if_pos hc16] at k
     refine pre15 _ ?_
     refine XS.ifYes X0.here hx rfl (pc0 := 95) (pc' := 102) rfl (hb hby at_95) rfl ((if0 _ _).trans (teq hc16).1) (by decide) (by decide) ?_
     refine yic X0 hx hby at_102 ?_
     exact k
    ·
     rw [hz16, if_neg hc16] at k
     refine pre15 _ ?_
     refine yfn X0 hx hby at_95 ((if0 _ _).trans (feq hc16).1) ?_
     refine yic X0 hx hby at_98 ?_
     refine ygo X0 hx hby 99 103 rfl at_99 (by decide) ?_
     exact k
   have pre17 : Go p e below s₁ (mkF m 105 #[.val (.int p1), .val (.long q2), .second, .val (.long q3), .second, .val (.long q4), .second, .val (.int 0), .val (.int 0), .val (.int z6), .val (.int z8), .val (.int 0), .val (.int 0), .val (.int z16), .unset, .unset, .unset, .unset, .unset, .unset, .unset, .unset, .unset, .unset, .unset, .unset, .unset, .unset, .unset, .unset] []) E0 := fun t k => by
    refine pre16 _ ?_
    refine yis X0 hx hby at_103 (l' := #[.val (.int p1), .val (.long q2), .second, .val (.long q3), .second, .val (.long q4), .second, .val (.int 0), .val (.int 0), .val (.int z6), .val (.int z8), .val (.int 0), .val (.int 0), .val (.int z16), .unset, .unset, .unset, .unset, .unset, .unset, .unset, .unset, .unset, .unset, .unset, .unset, .unset, .unset, .unset, .unset]) rfl ?_
    exact k
   exact ct1 hw w1 kw1 G ((0 : Int32)) ((0 : Int32)) ((0 : Int32)) ((0 : Int32)) z6 z8 z16 p1 q2 q3 q4 p1 h0 n0 O0 hx hby hml hown hret hlk hZ (X0.more (by decide) (by decide)) e0 N0 pre17 (by decide : ¬ ((0 : Int32) < (0 : Int32))) (by decide : ¬ ((0 : Int32) < (0 : Int32))) (by have q0 := (by decide : ((0 : Int32)).toInt = 0); omega) (by have q0 := (by decide : ((0 : Int32)).toInt = 0); omega) (by have q0 := (by decide : ((0 : Int32)).toInt = 0); omega) (by have q0 := (by decide : ((0 : Int32)).toInt = 0); omega) (by have q0 := bz6; omega) (by have q0 := bz8; omega) (by have q0 := bz16; omega)
  ·
   have hq18 : z4 = (1 : Int32) := (own_geq (n := 1) (k := (1 : Int32)) (by decide) (by have q0 := bz4; have q1 := own_neq (n := 0) (k := (0 : Int32)) (by decide) hc13; omega))
   have pre19 : Go p e below s₁ (mkF m 74 #[.val (.int p1), .val (.long q2), .second, .val (.long q3), .second, .val (.long q4), .second, .val (.int 0), .val (.int 1), .val (.int z6), .val (.int z8), .val (.int 0), .unset, .unset, .unset, .unset, .unset, .unset, .unset, .unset, .unset, .unset, .unset, .unset, .unset, .unset, .unset, .unset, .unset, .unset] [(.int 1)]) E0 := fun t k => pre12 t (by rw [hq18]; exact k)
   have pre20 : Go p e below s₁ (mkF m 81 #[.val (.int p1), .val (.long q2), .second, .val (.long q3), .second, .val (.long q4), .second, .val (.int 0), .val (.int 1), .val (.int z6), .val (.int z8), .val (.int 0), .unset, .unset, .unset, .unset, .unset, .unset, .unset, .unset, .unset, .unset, .unset, .unset, .unset, .unset, .unset, .unset, .unset, .unset] [(.int (p1 &&& (32 : Int32)))]) E0 := fun t k => by
    refine pre19 _ ?_
    refine yfn X0 hx hby at_74 ((if0 _ _).trans (feq (by decide : ¬ ((1 : Int32) = (0 : Int32)))).1) ?_
    refine yin X0 hx hby at_77 rfl ?_
    refine XS.bipush X0.here hx rfl (hb hby at_78) ?_
    refine XS.iand X0.here hx rfl (hb hby at_80) rfl ?_
    exact k
   obtain ⟨z21, hz21⟩ : ∃ z : Int32, z = if (p1 &&& (32 : Int32)) = (0 : Int32) then (0 : Int32) else (1 : Int32) := ⟨_, rfl⟩
   have bz21 : 0 ≤ z21.toInt ∧ z21.toInt ≤ 1 := by rw [hz21]; split <;> decide
   have pre21 : Go p e below s₁ (mkF m 89 #[.val (.int p1), .val (.long q2), .second, .val (.long q3), .second, .val (.long q4), .second, .val (.int 0), .val (.int 1), .val (.int z6), .val (.int z8), .val (.int 0), .unset, .unset, .unset, .unset, .unset, .unset, .unset, .unset, .unset, .unset, .unset, .unset, .unset, .unset, .unset, .unset, .unset, .unset] [(.int z21)]) E0 := fun t k => by
    by_cases hc21 : (p1 &&& (32 : Int32)) = (0 : Int32)
    ·
     rw [hz21, if_pos hc21] at k
     refine pre20 _ ?_
     refine XS.ifYes X0.here hx rfl (pc0 := 81) (pc' := 88) rfl (hb hby at_81) rfl ((if0 _ _).trans (teq hc21).1) (by decide) (by decide) ?_
     refine yic X0 hx hby at_88 ?_
     exact k
    ·
     rw [hz21, if_neg hc21] at k
     refine pre20 _ ?_
     refine yfn X0 hx hby at_81 ((if0 _ _).trans (feq hc21).1) ?_
     refine yic X0 hx hby at_84 ?_
     refine ygo X0 hx hby 85 89 rfl at_85 (by decide) ?_
     exact k
   have pre22 : Go p e below s₁ (mkF m 95 #[.val (.int p1), .val (.long q2), .second, .val (.long q3), .second, .val (.long q4), .second, .val (.int 0), .val (.int 1), .val (.int z6), .val (.int z8), .val (.int 0), .val (.int z21), .unset, .unset, .unset, .unset, .unset, .unset, .unset, .unset, .unset, .unset, .unset, .unset, .unset, .unset, .unset, .unset, .unset] [(.int (p1 &&& (64 : Int32)))]) E0 := fun t k => by
    refine pre21 _ ?_
    refine yis X0 hx hby at_89 (l' := #[.val (.int p1), .val (.long q2), .second, .val (.long q3), .second, .val (.long q4), .second, .val (.int 0), .val (.int 1), .val (.int z6), .val (.int z8), .val (.int 0), .val (.int z21), .unset, .unset, .unset, .unset, .unset, .unset, .unset, .unset, .unset, .unset, .unset, .unset, .unset, .unset, .unset, .unset, .unset]) rfl ?_
    refine yin X0 hx hby at_91 rfl ?_
    refine XS.bipush X0.here hx rfl (hb hby at_92) ?_
    refine XS.iand X0.here hx rfl (hb hby at_94) rfl ?_
    exact k
   obtain ⟨z23, hz23⟩ : ∃ z : Int32, z = if (p1 &&& (64 : Int32)) = (0 : Int32) then (0 : Int32) else (1 : Int32) := ⟨_, rfl⟩
   have bz23 : 0 ≤ z23.toInt ∧ z23.toInt ≤ 1 := by rw [hz23]; split <;> decide
   have pre23 : Go p e below s₁ (mkF m 103 #[.val (.int p1), .val (.long q2), .second, .val (.long q3), .second, .val (.long q4), .second, .val (.int 0), .val (.int 1), .val (.int z6), .val (.int z8), .val (.int 0), .val (.int z21), .unset, .unset, .unset, .unset, .unset, .unset, .unset, .unset, .unset, .unset, .unset, .unset, .unset, .unset, .unset, .unset, .unset] [(.int z23)]) E0 := fun t k => by
    by_cases hc23 : (p1 &&& (64 : Int32)) = (0 : Int32)
    ·
     rw [hz23, if_pos hc23] at k
     refine pre22 _ ?_
     refine XS.ifYes X0.here hx rfl (pc0 := 95) (pc' := 102) rfl (hb hby at_95) rfl ((if0 _ _).trans (teq hc23).1) (by decide) (by decide) ?_
     refine yic X0 hx hby at_102 ?_
     exact k
    ·
     rw [hz23, if_neg hc23] at k
     refine pre22 _ ?_
     refine yfn X0 hx hby at_95 ((if0 _ _).trans (feq hc23).1) ?_
     refine yic X0 hx hby at_98 ?_
     refine ygo X0 hx hby 99 103 rfl at_99 (by decide) ?_
     exact k
   have pre24 : Go p e below s₁ (mkF m 105 #[.val (.int p1), .val (.long q2), .second, .val (.long q3), .second, .val (.long q4), .second, .val (.int 0), .val (.int 1), .val (.int z6), .val (.int z8), .val (.int 0), .val (.int z21), .val (.int z23), .unset, .unset, .unset, .unset, .unset, .unset, .unset, .unset, .unset, .unset, .unset, .unset, .unset, .unset, .unset, .unset] []) E0 := fun t k => by
    refine pre23 _ ?_
    refine yis X0 hx hby at_103 (l' := #[.val (.int p1), .val (.long q2), .second, .val (.long q3), .second, .val (.long q4), .second, .val (.int 0), .val (.int 1), .val (.int z6), .val (.int z8), .val (.int 0), .val (.int z21), .val (.int z23), .unset, .unset, .unset, .unset, .unset, .unset, .unset, .unset, .unset, .unset, .unset, .unset, .unset, .unset, .unset, .unset]) rfl ?_
    exact k
   exact ct1 hw w1 kw1 G ((0 : Int32)) ((0 : Int32)) ((1 : Int32)) z21 z6 z8 z23 p1 q2 q3 q4 p1 h0 n0 O0 hx hby hml hown hret hlk hZ (X0.more (by decide) (by decide)) e0 N0 pre24 (by decide : ¬ ((0 : Int32) < (0 : Int32))) (own_gnlt2 (n := 1) (k := (1 : Int32)) (by decide) (by have q0 := bz21; omega)) (by have q0 := (by decide : ((0 : Int32)).toInt = 0); omega) (by have q0 := bz21; omega) (by have q0 := (by decide : ((0 : Int32)).toInt = 0); omega) (by have q0 := (by decide : ((1 : Int32)).toInt = 1); omega) (by have q0 := bz6; omega) (by have q0 := bz8; omega) (by have q0 := bz23; omega)
 ·
  have hq25 : z2 = (1 : Int32) := (own_geq (n := 1) (k := (1 : Int32)) (by decide) (by have q0 := bz2; have q1 := own_neq (n := 0) (k := (0 : Int32)) (by decide) hc10; omega))
  have pre26 : Go p e below s₁ (mkF m 55 #[.val (.int p1), .val (.long q2), .second, .val (.long q3), .second, .val (.long q4), .second, .val (.int 1), .val (.int z4), .val (.int z6), .val (.int z8), .unset, .unset, .unset, .unset, .unset, .unset, .unset, .unset, .unset, .unset, .unset, .unset, .unset, .unset, .unset, .unset, .unset, .unset, .unset] [(.int 1)]) E0 := fun t k => pre9 t (by rw [hq25]; exact k)
  have pre27 : Go p e below s₁ (mkF m 62 #[.val (.int p1), .val (.long q2), .second, .val (.long q3), .second, .val (.long q4), .second, .val (.int 1), .val (.int z4), .val (.int z6), .val (.int z8), .unset, .unset, .unset, .unset, .unset, .unset, .unset, .unset, .unset, .unset, .unset, .unset, .unset, .unset, .unset, .unset, .unset, .unset, .unset] [(.int (p1 &&& (16 : Int32)))]) E0 := fun t k => by
   refine pre26 _ ?_
   refine yfn X0 hx hby at_55 ((if0 _ _).trans (feq (by decide : ¬ ((1 : Int32) = (0 : Int32)))).1) ?_
   refine yin X0 hx hby at_58 rfl ?_
   refine XS.bipush X0.here hx rfl (hb hby at_59) ?_
   refine XS.iand X0.here hx rfl (hb hby at_61) rfl ?_
   exact k
  obtain ⟨z28, hz28⟩ : ∃ z : Int32, z = if (p1 &&& (16 : Int32)) = (0 : Int32) then (0 : Int32) else (1 : Int32) := ⟨_, rfl⟩
  have bz28 : 0 ≤ z28.toInt ∧ z28.toInt ≤ 1 := by rw [hz28]; split <;> decide
  have pre28 : Go p e below s₁ (mkF m 70 #[.val (.int p1), .val (.long q2), .second, .val (.long q3), .second, .val (.long q4), .second, .val (.int 1), .val (.int z4), .val (.int z6), .val (.int z8), .unset, .unset, .unset, .unset, .unset, .unset, .unset, .unset, .unset, .unset, .unset, .unset, .unset, .unset, .unset, .unset, .unset, .unset, .unset] [(.int z28)]) E0 := fun t k => by
   by_cases hc28 : (p1 &&& (16 : Int32)) = (0 : Int32)
   ·
    rw [hz28, if_pos hc28] at k
    refine pre27 _ ?_
    refine XS.ifYes X0.here hx rfl (pc0 := 62) (pc' := 69) rfl (hb hby at_62) rfl ((if0 _ _).trans (teq hc28).1) (by decide) (by decide) ?_
    refine yic X0 hx hby at_69 ?_
    exact k
   ·
    rw [hz28, if_neg hc28] at k
    refine pre27 _ ?_
    refine yfn X0 hx hby at_62 ((if0 _ _).trans (feq hc28).1) ?_
    refine yic X0 hx hby at_65 ?_
    refine ygo X0 hx hby 66 70 rfl at_66 (by decide) ?_
    exact k
  have pre29 : Go p e below s₁ (mkF m 74 #[.val (.int p1), .val (.long q2), .second, .val (.long q3), .second, .val (.long q4), .second, .val (.int 1), .val (.int z4), .val (.int z6), .val (.int z8), .val (.int z28), .unset, .unset, .unset, .unset, .unset, .unset, .unset, .unset, .unset, .unset, .unset, .unset, .unset, .unset, .unset, .unset, .unset, .unset] [(.int z4)]) E0 := fun t k => by
   refine pre28 _ ?_
   refine yis X0 hx hby at_70 (l' := #[.val (.int p1), .val (.long q2), .second, .val (.long q3), .second, .val (.long q4), .second, .val (.int 1), .val (.int z4), .val (.int z6), .val (.int z8), .val (.int z28), .unset, .unset, .unset, .unset, .unset, .unset, .unset, .unset, .unset, .unset, .unset, .unset, .unset, .unset, .unset, .unset, .unset, .unset]) rfl ?_
   refine yil X0 hx hby at_72 rfl ?_
   exact k
  by_cases hc30 : z4 = (0 : Int32)
  ·
   have pre31 : Go p e below s₁ (mkF m 74 #[.val (.int p1), .val (.long q2), .second, .val (.long q3), .second, .val (.long q4), .second, .val (.int 1), .val (.int 0), .val (.int z6), .val (.int z8), .val (.int z28), .unset, .unset, .unset, .unset, .unset, .unset, .unset, .unset, .unset, .unset, .unset, .unset, .unset, .unset, .unset, .unset, .unset, .unset] [(.int 0)]) E0 := fun t k => pre29 t (by rw [hc30]; exact k)
   have pre32 : Go p e below s₁ (mkF m 95 #[.val (.int p1), .val (.long q2), .second, .val (.long q3), .second, .val (.long q4), .second, .val (.int 1), .val (.int 0), .val (.int z6), .val (.int z8), .val (.int z28), .val (.int 0), .unset, .unset, .unset, .unset, .unset, .unset, .unset, .unset, .unset, .unset, .unset, .unset, .unset, .unset, .unset, .unset, .unset] [(.int (p1 &&& (64 : Int32)))]) E0 := fun t k => by
    refine pre31 _ ?_
    refine XS.ifYes X0.here hx rfl (pc0 := 74) (pc' := 88) rfl (hb hby at_74) rfl ((if0 _ _).trans (teq (by decide : (0 : Int32) = (0 : Int32))).1) (by decide) (by decide) ?_
    refine yic X0 hx hby at_88 ?_
    refine yis X0 hx hby at_89 (l' := #[.val (.int p1), .val (.long q2), .second, .val (.long q3), .second, .val (.long q4), .second, .val (.int 1), .val (.int 0), .val (.int z6), .val (.int z8), .val (.int z28), .val (.int 0), .unset, .unset, .unset, .unset, .unset, .unset, .unset, .unset, .unset, .unset, .unset, .unset, .unset, .unset, .unset, .unset, .unset]) rfl ?_
    refine yin X0 hx hby at_91 rfl ?_
    refine XS.bipush X0.here hx rfl (hb hby at_92) ?_
    refine XS.iand X0.here hx rfl (hb hby at_94) rfl ?_
    exact k
   obtain ⟨z33, hz33⟩ : ∃ z : Int32, z = if (p1 &&& (64 : Int32)) = (0 : Int32) then (0 : Int32) else (1 : Int32) := ⟨_, rfl⟩
   have bz33 : 0 ≤ z33.toInt ∧ z33.toInt ≤ 1 := by rw [hz33]; split <;> decide
   have pre33 : Go p e below s₁ (mkF m 103 #[.val (.int p1), .val (.long q2), .second, .val (.long q3), .second, .val (.long q4), .second, .val (.int 1), .val (.int 0), .val (.int z6), .val (.int z8), .val (.int z28), .val (.int 0), .unset, .unset, .unset, .unset, .unset, .unset, .unset, .unset, .unset, .unset, .unset, .unset, .unset, .unset, .unset, .unset, .unset] [(.int z33)]) E0 := fun t k => by
    by_cases hc33 : (p1 &&& (64 : Int32)) = (0 : Int32)
    ·
     rw [hz33, if_pos hc33] at k
     refine pre32 _ ?_
     refine XS.ifYes X0.here hx rfl (pc0 := 95) (pc' := 102) rfl (hb hby at_95) rfl ((if0 _ _).trans (teq hc33).1) (by decide) (by decide) ?_
     refine yic X0 hx hby at_102 ?_
     exact k
    ·
     rw [hz33, if_neg hc33] at k
     refine pre32 _ ?_
     refine yfn X0 hx hby at_95 ((if0 _ _).trans (feq hc33).1) ?_
     refine yic X0 hx hby at_98 ?_
     refine ygo X0 hx hby 99 103 rfl at_99 (by decide) ?_
     exact k
   have pre34 : Go p e below s₁ (mkF m 105 #[.val (.int p1), .val (.long q2), .second, .val (.long q3), .second, .val (.long q4), .second, .val (.int 1), .val (.int 0), .val (.int z6), .val (.int z8), .val (.int z28), .val (.int 0), .val (.int z33), .unset, .unset, .unset, .unset, .unset, .unset, .unset, .unset, .unset, .unset, .unset, .unset, .unset, .unset, .unset, .unset] []) E0 := fun t k => by
    refine pre33 _ ?_
    refine yis X0 hx hby at_103 (l' := #[.val (.int p1), .val (.long q2), .second, .val (.long q3), .second, .val (.long q4), .second, .val (.int 1), .val (.int 0), .val (.int z6), .val (.int z8), .val (.int z28), .val (.int 0), .val (.int z33), .unset, .unset, .unset, .unset, .unset, .unset, .unset, .unset, .unset, .unset, .unset, .unset, .unset, .unset, .unset, .unset]) rfl ?_
    exact k
   exact ct1 hw w1 kw1 G ((1 : Int32)) z28 ((0 : Int32)) ((0 : Int32)) z6 z8 z33 p1 q2 q3 q4 p1 h0 n0 O0 hx hby hml hown hret hlk hZ (X0.more (by decide) (by decide)) e0 N0 pre34 (own_gnlt2 (n := 1) (k := (1 : Int32)) (by decide) (by have q0 := bz28; omega)) (by decide : ¬ ((0 : Int32) < (0 : Int32))) (by have q0 := bz28; omega) (by have q0 := (by decide : ((0 : Int32)).toInt = 0); omega) (by have q0 := (by decide : ((1 : Int32)).toInt = 1); omega) (by have q0 := (by decide : ((0 : Int32)).toInt = 0); omega) (by have q0 := bz6; omega) (by have q0 := bz8; omega) (by have q0 := bz33; omega)
  ·
   have hq35 : z4 = (1 : Int32) := (own_geq (n := 1) (k := (1 : Int32)) (by decide) (by have q0 := bz4; have q1 := own_neq (n := 0) (k := (0 : Int32)) (by decide) hc30; omega))
   have pre36 : Go p e below s₁ (mkF m 74 #[.val (.int p1), .val (.long q2), .second, .val (.long q3), .second, .val (.long q4), .second, .val (.int 1), .val (.int 1), .val (.int z6), .val (.int z8), .val (.int z28), .unset, .unset, .unset, .unset, .unset, .unset, .unset, .unset, .unset, .unset, .unset, .unset, .unset, .unset, .unset, .unset, .unset, .unset] [(.int 1)]) E0 := fun t k => pre29 t (by rw [hq35]; exact k)
   have pre37 : Go p e below s₁ (mkF m 81 #[.val (.int p1), .val (.long q2), .second, .val (.long q3), .second, .val (.long q4), .second, .val (.int 1), .val (.int 1), .val (.int z6), .val (.int z8), .val (.int z28), .unset, .unset, .unset, .unset, .unset, .unset, .unset, .unset, .unset, .unset, .unset, .unset, .unset, .unset, .unset, .unset, .unset, .unset] [(.int (p1 &&& (32 : Int32)))]) E0 := fun t k => by
    refine pre36 _ ?_
    refine yfn X0 hx hby at_74 ((if0 _ _).trans (feq (by decide : ¬ ((1 : Int32) = (0 : Int32)))).1) ?_
    refine yin X0 hx hby at_77 rfl ?_
    refine XS.bipush X0.here hx rfl (hb hby at_78) ?_
    refine XS.iand X0.here hx rfl (hb hby at_80) rfl ?_
    exact k
   obtain ⟨z38, hz38⟩ : ∃ z : Int32, z = if (p1 &&& (32 : Int32)) = (0 : Int32) then (0 : Int32) else (1 : Int32) := ⟨_, rfl⟩
   have bz38 : 0 ≤ z38.toInt ∧ z38.toInt ≤ 1 := by rw [hz38]; split <;> decide
   have pre38 : Go p e below s₁ (mkF m 89 #[.val (.int p1), .val (.long q2), .second, .val (.long q3), .second, .val (.long q4), .second, .val (.int 1), .val (.int 1), .val (.int z6), .val (.int z8), .val (.int z28), .unset, .unset, .unset, .unset, .unset, .unset, .unset, .unset, .unset, .unset, .unset, .unset, .unset, .unset, .unset, .unset, .unset, .unset] [(.int z38)]) E0 := fun t k => by
    by_cases hc38 : (p1 &&& (32 : Int32)) = (0 : Int32)
    ·
     rw [hz38, if_pos hc38] at k
     refine pre37 _ ?_
     refine XS.ifYes X0.here hx rfl (pc0 := 81) (pc' := 88) rfl (hb hby at_81) rfl ((if0 _ _).trans (teq hc38).1) (by decide) (by decide) ?_
     refine yic X0 hx hby at_88 ?_
     exact k
    ·
     rw [hz38, if_neg hc38] at k
     refine pre37 _ ?_
     refine yfn X0 hx hby at_81 ((if0 _ _).trans (feq hc38).1) ?_
     refine yic X0 hx hby at_84 ?_
     refine ygo X0 hx hby 85 89 rfl at_85 (by decide) ?_
     exact k
   have pre39 : Go p e below s₁ (mkF m 95 #[.val (.int p1), .val (.long q2), .second, .val (.long q3), .second, .val (.long q4), .second, .val (.int 1), .val (.int 1), .val (.int z6), .val (.int z8), .val (.int z28), .val (.int z38), .unset, .unset, .unset, .unset, .unset, .unset, .unset, .unset, .unset, .unset, .unset, .unset, .unset, .unset, .unset, .unset, .unset] [(.int (p1 &&& (64 : Int32)))]) E0 := fun t k => by
    refine pre38 _ ?_
    refine yis X0 hx hby at_89 (l' := #[.val (.int p1), .val (.long q2), .second, .val (.long q3), .second, .val (.long q4), .second, .val (.int 1), .val (.int 1), .val (.int z6), .val (.int z8), .val (.int z28), .val (.int z38), .unset, .unset, .unset, .unset, .unset, .unset, .unset, .unset, .unset, .unset, .unset, .unset, .unset, .unset, .unset, .unset, .unset]) rfl ?_
    refine yin X0 hx hby at_91 rfl ?_
    refine XS.bipush X0.here hx rfl (hb hby at_92) ?_
    refine XS.iand X0.here hx rfl (hb hby at_94) rfl ?_
    exact k
   obtain ⟨z40, hz40⟩ : ∃ z : Int32, z = if (p1 &&& (64 : Int32)) = (0 : Int32) then (0 : Int32) else (1 : Int32) := ⟨_, rfl⟩
   have bz40 : 0 ≤ z40.toInt ∧ z40.toInt ≤ 1 := by rw [hz40]; split <;> decide
   have pre40 : Go p e below s₁ (mkF m 103 #[.val (.int p1), .val (.long q2), .second, .val (.long q3), .second, .val (.long q4), .second, .val (.int 1), .val (.int 1), .val (.int z6), .val (.int z8), .val (.int z28), .val (.int z38), .unset, .unset, .unset, .unset, .unset, .unset, .unset, .unset, .unset, .unset, .unset, .unset, .unset, .unset, .unset, .unset, .unset] [(.int z40)]) E0 := fun t k => by
    by_cases hc40 : (p1 &&& (64 : Int32)) = (0 : Int32)
    ·
     rw [hz40, if_pos hc40] at k
     refine pre39 _ ?_
     refine XS.ifYes X0.here hx rfl (pc0 := 95) (pc' := 102) rfl (hb hby at_95) rfl ((if0 _ _).trans (teq hc40).1) (by decide) (by decide) ?_
     refine yic X0 hx hby at_102 ?_
     exact k
    ·
     rw [hz40, if_neg hc40] at k
     refine pre39 _ ?_
     refine yfn X0 hx hby at_95 ((if0 _ _).trans (feq hc40).1) ?_
     refine yic X0 hx hby at_98 ?_
     refine ygo X0 hx hby 99 103 rfl at_99 (by decide) ?_
     exact k
   have pre41 : Go p e below s₁ (mkF m 105 #[.val (.int p1), .val (.long q2), .second, .val (.long q3), .second, .val (.long q4), .second, .val (.int 1), .val (.int 1), .val (.int z6), .val (.int z8), .val (.int z28), .val (.int z38), .val (.int z40), .unset, .unset, .unset, .unset, .unset, .unset, .unset, .unset, .unset, .unset, .unset, .unset, .unset, .unset, .unset, .unset] []) E0 := fun t k => by
    refine pre40 _ ?_
    refine yis X0 hx hby at_103 (l' := #[.val (.int p1), .val (.long q2), .second, .val (.long q3), .second, .val (.long q4), .second, .val (.int 1), .val (.int 1), .val (.int z6), .val (.int z8), .val (.int z28), .val (.int z38), .val (.int z40), .unset, .unset, .unset, .unset, .unset, .unset, .unset, .unset, .unset, .unset, .unset, .unset, .unset, .unset, .unset, .unset]) rfl ?_
    exact k
   exact ct1 hw w1 kw1 G ((1 : Int32)) z28 ((1 : Int32)) z38 z6 z8 z40 p1 q2 q3 q4 p1 h0 n0 O0 hx hby hml hown hret hlk hZ (X0.more (by decide) (by decide)) e0 N0 pre41 (own_gnlt2 (n := 1) (k := (1 : Int32)) (by decide) (by have q0 := bz28; omega)) (own_gnlt2 (n := 1) (k := (1 : Int32)) (by decide) (by have q0 := bz38; omega)) (by have q0 := bz28; omega) (by have q0 := bz38; omega) (by have q0 := (by decide : ((1 : Int32)).toInt = 1); omega) (by have q0 := (by decide : ((1 : Int32)).toInt = 1); omega) (by have q0 := bz6; omega) (by have q0 := bz8; omega) (by have q0 := bz40; omega)
set_option maxRecDepth 65536 in
set_option maxHeartbeats 40000000 in
theorem comes_1 {Post : Tables → Env → Array Value → State → Outcome → State → Prop} (hpost : ∀ tb e args s v u, (limb_1_1.after args s (.returned v) u = true ∧ limb_1_2.after args s (.returned v) u = true ∧ True) → FrameEnd s (.returned v) u (Jvm.fieldLocs frame_1_writes args s ++ Jvm.arrayLocs frame_1_arrays args s ++ Jvm.staticLocs frame_1_statics s) 24 192 → Post tb e args s (.returned v) u) :
    ArmFor flags0 classFile x code maxLocals ret World_1 tables_1 room_1 Calls_1 rest_1 Pre_1 Post := by
  intro l hfl _ _ p e ha hc hk s m args below hf hA hF happ hP
  obtain ⟨hcalls, hrest, hpre⟩ := hP
  obtain ⟨-, -, -, hnamed, -, -, -, hat⟩ := (Spec.applies_iff hf).mp happ
  obtain ⟨hg, hn⟩ := and_e (Cond.before_iff.mp (show (Jvm.Cond.and given_1 narrow_1).before args s = true from hpre))
  obtain ⟨hcount, hk0⟩ := and_e hg
  obtain ⟨hi0, hk1⟩ := and_e hk0
  obtain ⟨hi1, hk2⟩ := and_e hk1
  obtain ⟨hi2, hk3⟩ := and_e hk2
  have hi3 := hk3
  obtain ⟨w_a0, w_a1, w_a2, w_a3, rfl⟩ : ∃ w_a0 w_a1 w_a2 w_a3 : Value, args = #[w_a0, w_a1, w_a2, w_a3] := by
    have hs : args.size = 4 := by simpa [Cond.value, given_1] using hcount
    obtain ⟨L⟩ := args
    match L, hs with
    | [w_a0, w_a1, w_a2, w_a3], _ => exact ⟨w_a0, w_a1, w_a2, w_a3, rfl⟩
  have hw := fun d (hd : d ∈ tables_1) => atoms_spec (ws := Jvm.Cond.code x code maxLocals ret :: tables_1) hat d (List.mem_cons_of_mem _ hd)
  have hfit : Fit s := fun {y c} hc i hi => by
    obtain ⟨ha, rfl⟩ := Array.getElem?_eq_some_iff.mp hc
    have q := List.all_eq_true.mp ((Array.all_eq_true_iff_forall_mem.mp hF) _ (Array.getElem_mem ha)) i (List.mem_range.mpr hi)
    simpa [Array.getElem?_eq_getElem hi] using q
  obtain ⟨i0, ei0⟩ := is_v hi0
  obtain rfl : w_a0 = (.int i0) := Option.some.inj ei0
  obtain ⟨i1, ei1⟩ := isL_v hi1
  obtain rfl : w_a1 = (.long i1) := Option.some.inj ei1
  obtain ⟨i2, ei2⟩ := isL_v hi2
  obtain rfl : w_a2 = (.long i2) := Option.some.inj ei2
  obtain ⟨i3, ei3⟩ := isL_v hi3
  obtain rfl : w_a3 = (.long i3) := Option.some.inj ei3
  obtain ⟨gl0, gr0⟩ := and_e hn
  obtain ⟨w1, ev_w1⟩ := arr_v gl0
  have S_w1 : Sta s s.heap "com/example/horn1/horn1/engine/ClauseList" "NONE" "[Lcom/example/horn1/horn1/engine/Clause;" (.ref w1) := Sta.start ev_w1 (Or.inr ⟨(own_w hw 33 rfl), (own_w hw 39 rfl)⟩)
  obtain ⟨cl_w1, Ar_w1⟩ := Arr.start ev_w1 gl0
  obtain ⟨lz_w1, ln_w1⟩ := own_len Ar_w1 ev_w1 (eqv_i rfl gr0)
  obtain ⟨kw1, hk_w1⟩ : ∃ k, k = cl_w1.cls := ⟨_, rfl⟩
  have A_w1 : Arv s s.heap w1 kw1 (.object "com/example/horn1/horn1/engine/Clause") (0 : Int32) [] .null := hk_w1 ▸ Arv.start hfit Ar_w1 lz_w1 ln_w1 (by decide) rfl trivial
  have G : GW s w1 kw1 := ⟨S_w1, A_w1⟩
  obtain ⟨n, o, h1, h2, h3, _, L, rfl, ⟨rfl, N⟩, hq⟩ := rm0 l s _ hw w1 kw1 G tables_1 i0 i1 i2 i3 s.heap s.heap.size (Old.start s) p e ha hc hk s m _ below hf ((Spec.applies_iff_loose hf).mp happ).1 ⟨rfl, State.Warmed39.refl s, rfl⟩ trivial
  refine ⟨n, _, h1, h2, h3, hpost _ _ _ _ _ _ ⟨Cond.after_iff.mpr rfl, Cond.after_iff.mpr (eq_i res_at (Term.int_eval (1)) rfl), trivial⟩ ⟨hq.1, hq.2.1, (hq.2.2.sift fun y hy => Or.inr (N y hy)).mono (by decide) (by decide)⟩⟩
theorem main_1_1 : Claimed_1_1 := comes_1 fun _ _ _ _ _ _ h hF => ⟨h.1, hF⟩
theorem main_1_2 : Claimed_1_2 := comes_1 fun _ _ _ _ _ _ h hF => ⟨h.2.1, hF⟩
end Jvm.Pilot.@@N@@
namespace Jvm.Pilot.@@N@@
open Jvm Jvm.ClassFile Sem Op Lib Jvm.Free Jvm.Stand Jvm.Pilot.@@N@@.Jvm.D
/-! MADE BY PROGRAM (witnessworld.py) out of the Statement's table words and the real class files: 14 classes; the members and pool entries that the words name. The judged class is class 1, her method 1. -/
namespace start1
open Jvm.ClassFile
def u (s : String) : CpInfo := .utf8 (stringToUtf16 s)
/-- a pool by its gaps: so many unusable entries, then the entry; so many at the end -/
def gap : Nat → List CpInfo → List CpInfo
  | 0, r => r
  | n + 1, r => .unusable :: gap n r
def poolList (es : List (Nat × CpInfo)) (last : Nat) : List CpInfo := es.foldr (fun e r => gap e.1 (e.2 :: r)) (gap last [])
def pool (es : List (Nat × CpInfo)) (last : Nat) : Array CpInfo := ⟨poolList es last⟩
def fileOf (pool : Array CpInfo) (this : Nat) (attrs : Array Attribute := #[]) (ms : Array MethodInfo := #[]) (fl : Nat := 33) (sup : Nat := 0) (ifs : Array Nat := #[]) (fds : Array FieldInfo := #[]) : ClassFile where
  minorVersion := 0
  majorVersion := 65
  constantPool := pool
  accessFlags := fl
  thisClass := this
  superClass := sup
  interfaces := ifs
  fields := fds
  methods := ms
  attributes := attrs
def plain (name : String) (sup : Option ClassId) : Class where
  name := name
  kind := .ordinary
  loader := none
  accessFlags := 33
  super := sup
  interfaces := #[]
  cf := none
  fields := #[]
  methods := #[]
  instanceTypes := #[]
  staticTypes := #[]
  resolved := #[]
  callSites := []
  init := .initialized
  statics := none
  mirror := none

def pool0 : Array CpInfo := pool [(5, u "<init>"), (0, u "()V"), (1, .class_ 10), (1, u "java/lang/Object")] 113

def k0c0 : Code := { maxStack := 0, maxLocals := 1, code := object_method_1_code, exceptionTable := #[], attributes := #[] }
def k0m0 : Method := { name := "<init>", desc := "()V", sig := { parameters := [], returnType := none }, accessFlags := 1, code := some k0c0 }
/-- java/lang/Object -/
def k0 : Class := { plain "java/lang/Object" none with
  accessFlags := 33
  interfaces := #[]
  cf := some (fileOf pool0 8 #[] #[{ accessFlags := 1, nameIndex := 5, descriptorIndex := 6, attributes := #[] }] 33 0 #[] #[])
  fields := #[]
  methods := #[k0m0]
  instanceTypes := #[]
  staticTypes := #[]
  resolved := Array.replicate 124 none
  statics := none }

def pool1 : Array CpInfo := pool [(2, .class_ 4), (0, .nameAndType 5 6), (0, u "java/lang/Object"), (0, u "<init>"), (0, u "()V"), (2, .long 9223372036854775807), (1, .long 9223372036854775806), (1, .class_ 14), (0, u "com/example/horn1/horn1/engine/Template"), (0, .class_ 16), (0, u "com/example/horn1/horn1/engine/Clause"), (0, .methodref 15 18), (0, .nameAndType 5 19), (0, u "([Lcom/example/horn1/horn1/engine/Template;[Lcom/example/horn1/horn1/engine/Template;[Lcom/example/horn1/horn1/engine/Predicate;Lcom/example/horn1/horn1/engine/Template;I)V"), (0, .class_ 21), (0, u "com/example/horn1/horn1/engine/ClauseList"), (0, .methodref 20 3), (0, .methodref 20 24), (0, .nameAndType 25 26), (0, u "addFirst"), (0, u "(Lcom/example/horn1/horn1/engine/Clause;)V"), (0, .methodref 20 28), (0, .nameAndType 29 26), (0, u "addLast"), (0, .methodref 20 31), (0, .nameAndType 32 33), (0, u "remove"), (0, u "(Lcom/example/horn1/horn1/engine/Clause;J)V"), (0, .methodref 20 35), (0, .nameAndType 36 37), (0, u "removeAll"), (0, u "(J)V"), (0, .methodref 20 39), (0, .nameAndType 40 41), (0, u "size"), (0, u "()I"), (0, .methodref 20 43), (0, .nameAndType 44 41), (0, u "first"), (0, .methodref 20 46), (0, .nameAndType 47 41), (0, u "end"), (0, .methodref 20 49), (0, .nameAndType 50 51), (0, u "slots"), (0, u "()[Lcom/example/horn1/horn1/engine/Clause;"), (0, .methodref 53 54), (0, .class_ 55), (0, .nameAndType 56 57), (0, u "com/example/horn1/horn1/engine/ClauseListRemoveAllPinLaw"), (0, u "markedAs"), (0, u "(Lcom/example/horn1/horn1/engine/Clause;JJ)Z"), (0, .methodref 15 59), (0, .nameAndType 60 61), (0, u "isLive"), (0, u "()Z"), (0, .methodref 15 63), (0, .nameAndType 64 65), (0, u "isVisibleAt"), (0, u "(J)Z"), (2, u "law"), (0, u "(IJJJ)Z")] 7

def k1m0 : Method := { name := "<init>", desc := "()V", sig := { parameters := [], returnType := none }, accessFlags := 2, code := none }
def k1c1 : Code := { maxStack := 7, maxLocals := 30, code := code, exceptionTable := #[], attributes := #[] }
def k1m1 : Method := { name := "law", desc := "(IJJJ)Z", sig := { parameters := [.int, .long, .long, .long], returnType := some .boolean }, accessFlags := 9, code := some k1c1 }
def k1c2 : Code := { maxStack := 5, maxLocals := 5, code := method_3_code, exceptionTable := #[], attributes := #[] }
def k1m2 : Method := { name := "markedAs", desc := "(Lcom/example/horn1/horn1/engine/Clause;JJ)Z", sig := { parameters := [(.object "com/example/horn1/horn1/engine/Clause"), .long, .long], returnType := some .boolean }, accessFlags := 10, code := some k1c2 }
/-- com/example/horn1/horn1/engine/ClauseListRemoveAllPinLaw -/
def k1 : Class := { plain "com/example/horn1/horn1/engine/ClauseListRemoveAllPinLaw" (some 0) with
  accessFlags := 49
  interfaces := #[]
  cf := some (fileOf pool1 53 #[] #[{ accessFlags := 2, nameIndex := 5, descriptorIndex := 6, attributes := #[] }, { accessFlags := 9, nameIndex := 68, descriptorIndex := 69, attributes := #[] }, { accessFlags := 10, nameIndex := 56, descriptorIndex := 57, attributes := #[] }] 49 2 #[] #[])
  fields := #[]
  methods := #[k1m0, k1m1, k1m2]
  instanceTypes := #[]
  staticTypes := #[]
  resolved := Array.replicate 77 none
  statics := none }

def pool2 : Array CpInfo := pool [(2, .class_ 4), (1, u "java/lang/Object"), (0, u "<init>"), (0, u "()V"), (0, .class_ 8), (0, u "com/example/horn1/horn1/engine/Template"), (5, .class_ 15), (0, u "com/example/horn1/horn1/engine/Template$Structure"), (0, .class_ 17), (0, u "com/example/horn1/horn1/engine/Template$Slot"), (0, .class_ 19), (0, u "com/example/horn1/horn1/engine/Template$Constant")] 5

def k2m0 : Method := { name := "<init>", desc := "()V", sig := { parameters := [], returnType := none }, accessFlags := 0, code := none }
/-- com/example/horn1/horn1/engine/Template -/
def k2 : Class := { plain "com/example/horn1/horn1/engine/Template" (some 0) with
  accessFlags := 1056
  interfaces := #[]
  cf := some (fileOf pool2 7 #[.nestMembers #[14, 16, 18]] #[{ accessFlags := 0, nameIndex := 5, descriptorIndex := 6, attributes := #[] }] 1056 2 #[] #[])
  fields := #[]
  methods := #[k2m0]
  instanceTypes := #[]
  staticTypes := #[]
  resolved := Array.replicate 25 none
  statics := none }

def pool3 : Array CpInfo := pool [(3, .methodref 4 5), (0, .class_ 6), (0, .nameAndType 7 8), (0, u "java/lang/Object"), (0, u "<init>"), (0, u "()V"), (0, .class_ 10), (0, u "com/example/horn1/horn1/engine/Clause"), (0, .long 9223372036854775807), (1, .fieldref 9 14), (0, .nameAndType 15 16), (0, u "removed"), (0, u "J"), (0, .fieldref 9 18), (0, .nameAndType 19 20), (0, u "head"), (0, u "[Lcom/example/horn1/horn1/engine/Template;"), (0, .fieldref 9 22), (0, .nameAndType 23 20), (0, u "goals"), (0, .fieldref 9 25), (0, .nameAndType 26 27), (0, u "goalPredicates"), (0, u "[Lcom/example/horn1/horn1/engine/Predicate;"), (0, .fieldref 9 29), (0, .nameAndType 30 31), (0, u "body"), (0, u "Lcom/example/horn1/horn1/engine/Template;"), (0, .fieldref 9 33), (0, .nameAndType 34 35), (0, u "variables"), (0, u "I"), (5, u "Lcom/example/horn1/horn1/term/Term;"), (2, .fieldref 9 45), (0, .nameAndType 46 41), (0, u "keyConstant"), (4, .fieldref 9 52), (0, .nameAndType 53 54), (0, u "keyName"), (0, u "Lcom/example/horn1/horn1/term/Atom;"), (4, .fieldref 9 60), (0, .nameAndType 61 35), (0, u "keyArity"), (23, u "LIVE"), (1, u "([Lcom/example/horn1/horn1/engine/Template;[Lcom/example/horn1/horn1/engine/Template;[Lcom/example/horn1/horn1/engine/Predicate;Lcom/example/horn1/horn1/engine/Template;I)V"), (10, u "isLive"), (0, u "()Z"), (0, u "isVisibleAt"), (0, u "(J)Z"), (0, u "remove"), (0, u "(J)V")] 9

def k3c0 : Code := { maxStack := 3, maxLocals := 10, code := prog_40_method_1_code, exceptionTable := #[], attributes := #[] }
def k3m0 : Method := { name := "<init>", desc := "([Lcom/example/horn1/horn1/engine/Template;[Lcom/example/horn1/horn1/engine/Template;[Lcom/example/horn1/horn1/engine/Predicate;Lcom/example/horn1/horn1/engine/Template;I)V", sig := { parameters := [(.array (.object "com/example/horn1/horn1/engine/Template")), (.array (.object "com/example/horn1/horn1/engine/Template")), (.array (.object "com/example/horn1/horn1/engine/Predicate")), (.object "com/example/horn1/horn1/engine/Template"), .int], returnType := none }, accessFlags := 0, code := some k3c0 }
def k3c1 : Code := { maxStack := 4, maxLocals := 1, code := prog_40_method_7_code, exceptionTable := #[], attributes := #[] }
def k3m1 : Method := { name := "isLive", desc := "()Z", sig := { parameters := [], returnType := some .boolean }, accessFlags := 0, code := some k3c1 }
def k3c2 : Code := { maxStack := 4, maxLocals := 3, code := prog_40_method_8_code, exceptionTable := #[], attributes := #[] }
def k3m2 : Method := { name := "isVisibleAt", desc := "(J)Z", sig := { parameters := [.long], returnType := some .boolean }, accessFlags := 0, code := some k3c2 }
def k3c3 : Code := { maxStack := 3, maxLocals := 3, code := prog_40_method_9_code, exceptionTable := #[], attributes := #[] }
def k3m3 : Method := { name := "remove", desc := "(J)V", sig := { parameters := [.long], returnType := none }, accessFlags := 0, code := some k3c3 }
/-- com/example/horn1/horn1/engine/Clause -/
def k3 : Class := { plain "com/example/horn1/horn1/engine/Clause" (some 0) with
  accessFlags := 48
  interfaces := #[]
  cf := some (fileOf pool3 9 #[] #[{ accessFlags := 0, nameIndex := 7, descriptorIndex := 87, attributes := #[] }, { accessFlags := 0, nameIndex := 98, descriptorIndex := 99, attributes := #[] }, { accessFlags := 0, nameIndex := 100, descriptorIndex := 101, attributes := #[] }, { accessFlags := 0, nameIndex := 102, descriptorIndex := 103, attributes := #[] }] 48 4 #[] #[{ accessFlags := 26, nameIndex := 85, descriptorIndex := 16, attributes := #[] }, { accessFlags := 18, nameIndex := 19, descriptorIndex := 20, attributes := #[] }, { accessFlags := 18, nameIndex := 23, descriptorIndex := 20, attributes := #[] }, { accessFlags := 18, nameIndex := 26, descriptorIndex := 27, attributes := #[] }, { accessFlags := 18, nameIndex := 30, descriptorIndex := 31, attributes := #[] }, { accessFlags := 18, nameIndex := 34, descriptorIndex := 35, attributes := #[] }, { accessFlags := 18, nameIndex := 46, descriptorIndex := 41, attributes := #[] }, { accessFlags := 18, nameIndex := 53, descriptorIndex := 54, attributes := #[] }, { accessFlags := 18, nameIndex := 61, descriptorIndex := 35, attributes := #[] }, { accessFlags := 2, nameIndex := 15, descriptorIndex := 16, attributes := #[] }])
  fields := #[{ name := "LIVE", type := .long, accessFlags := 26, slot := 0, constantValue := 0 }, { name := "head", type := (.array (.object "com/example/horn1/horn1/engine/Template")), accessFlags := 18, slot := 0, constantValue := 0 }, { name := "goals", type := (.array (.object "com/example/horn1/horn1/engine/Template")), accessFlags := 18, slot := 1, constantValue := 0 }, { name := "goalPredicates", type := (.array (.object "com/example/horn1/horn1/engine/Predicate")), accessFlags := 18, slot := 2, constantValue := 0 }, { name := "body", type := (.object "com/example/horn1/horn1/engine/Template"), accessFlags := 18, slot := 3, constantValue := 0 }, { name := "variables", type := .int, accessFlags := 18, slot := 4, constantValue := 0 }, { name := "keyConstant", type := (.object "com/example/horn1/horn1/term/Term"), accessFlags := 18, slot := 5, constantValue := 0 }, { name := "keyName", type := (.object "com/example/horn1/horn1/term/Atom"), accessFlags := 18, slot := 6, constantValue := 0 }, { name := "keyArity", type := .int, accessFlags := 18, slot := 7, constantValue := 0 }, { name := "removed", type := .long, accessFlags := 2, slot := 8, constantValue := 0 }]
  methods := #[k3m0, k3m1, k3m2, k3m3]
  instanceTypes := #[(.array (.object "com/example/horn1/horn1/engine/Template")), (.array (.object "com/example/horn1/horn1/engine/Template")), (.array (.object "com/example/horn1/horn1/engine/Predicate")), (.object "com/example/horn1/horn1/engine/Template"), .int, (.object "com/example/horn1/horn1/term/Term"), (.object "com/example/horn1/horn1/term/Atom"), .int, .long]
  staticTypes := #[.long]
  resolved := Array.replicate 113 none
  statics := none }

def pool4 : Array CpInfo := pool [(1, .methodref 2 3), (0, .class_ 4), (0, .nameAndType 5 6), (0, u "java/lang/Object"), (0, u "<init>"), (0, u "()V"), (0, .fieldref 8 9), (0, .class_ 10), (0, .nameAndType 11 12), (0, u "com/example/horn1/horn1/engine/ClauseList"), (0, u "NONE"), (0, u "[Lcom/example/horn1/horn1/engine/Clause;"), (0, .fieldref 8 14), (0, .nameAndType 15 12), (0, u "slots"), (0, .fieldref 8 17), (0, .nameAndType 18 19), (0, u "first"), (0, u "I"), (0, .fieldref 8 21), (0, .nameAndType 22 19), (0, u "end"), (0, .fieldref 8 24), (0, .nameAndType 25 19), (0, u "removed"), (0, .methodref 8 27), (0, .nameAndType 28 6), (0, u "move"), (0, .fieldref 8 30), (0, .nameAndType 31 32), (0, u "addsFirst"), (0, u "Z"), (0, .fieldref 8 34), (0, .nameAndType 35 19), (0, u "low"), (0, .methodref 37 38), (0, .class_ 39), (0, .nameAndType 40 41), (0, u "com/example/horn1/horn1/engine/Clause"), (0, u "remove"), (0, u "(J)V"), (0, .methodref 37 43), (0, .nameAndType 44 45), (0, u "isLive"), (0, u "()Z"), (0, .methodref 8 47), (0, .nameAndType 48 49), (0, u "size"), (0, u "()I"), (0, .methodref 51 52), (0, .class_ 53), (0, .nameAndType 54 55), (0, u "java/lang/Math"), (0, u "max"), (0, u "(II)I"), (0, u "ROOM"), (4, u "()[Lcom/example/horn1/horn1/engine/Clause;"), (0, u "addLast"), (0, u "(Lcom/example/horn1/horn1/engine/Clause;)V"), (1, u "addFirst"), (0, u "(Lcom/example/horn1/horn1/engine/Clause;J)V"), (0, u "removeAll")] 4

def k4c0 : Code := { maxStack := 2, maxLocals := 1, code := prog_41_method_1_code, exceptionTable := #[], attributes := #[] }
def k4m0 : Method := { name := "<init>", desc := "()V", sig := { parameters := [], returnType := none }, accessFlags := 0, code := some k4c0 }
def k4c1 : Code := { maxStack := 1, maxLocals := 1, code := prog_41_method_2_code, exceptionTable := #[], attributes := #[] }
def k4m1 : Method := { name := "slots", desc := "()[Lcom/example/horn1/horn1/engine/Clause;", sig := { parameters := [], returnType := some (.array (.object "com/example/horn1/horn1/engine/Clause")) }, accessFlags := 0, code := some k4c1 }
def k4c2 : Code := { maxStack := 1, maxLocals := 1, code := prog_41_method_3_code, exceptionTable := #[], attributes := #[] }
def k4m2 : Method := { name := "first", desc := "()I", sig := { parameters := [], returnType := some .int }, accessFlags := 0, code := some k4c2 }
def k4c3 : Code := { maxStack := 1, maxLocals := 1, code := prog_41_method_4_code, exceptionTable := #[], attributes := #[] }
def k4m3 : Method := { name := "end", desc := "()I", sig := { parameters := [], returnType := some .int }, accessFlags := 0, code := some k4c3 }
def k4c4 : Code := { maxStack := 2, maxLocals := 1, code := prog_41_method_5_code, exceptionTable := #[], attributes := #[] }
def k4m4 : Method := { name := "size", desc := "()I", sig := { parameters := [], returnType := some .int }, accessFlags := 0, code := some k4c4 }
def k4c5 : Code := { maxStack := 3, maxLocals := 2, code := prog_41_method_6_code, exceptionTable := #[], attributes := #[] }
def k4m5 : Method := { name := "addLast", desc := "(Lcom/example/horn1/horn1/engine/Clause;)V", sig := { parameters := [(.object "com/example/horn1/horn1/engine/Clause")], returnType := none }, accessFlags := 0, code := some k4c5 }
def k4c6 : Code := { maxStack := 4, maxLocals := 2, code := prog_41_method_7_code, exceptionTable := #[], attributes := #[] }
def k4m6 : Method := { name := "addFirst", desc := "(Lcom/example/horn1/horn1/engine/Clause;)V", sig := { parameters := [(.object "com/example/horn1/horn1/engine/Clause")], returnType := none }, accessFlags := 0, code := some k4c6 }
def k4c7 : Code := { maxStack := 3, maxLocals := 4, code := prog_41_method_8_code, exceptionTable := #[], attributes := #[] }
def k4m7 : Method := { name := "remove", desc := "(Lcom/example/horn1/horn1/engine/Clause;J)V", sig := { parameters := [(.object "com/example/horn1/horn1/engine/Clause"), .long], returnType := none }, accessFlags := 0, code := some k4c7 }
def k4c8 : Code := { maxStack := 3, maxLocals := 4, code := prog_41_method_9_code, exceptionTable := #[], attributes := #[] }
def k4m8 : Method := { name := "removeAll", desc := "(J)V", sig := { parameters := [.long], returnType := none }, accessFlags := 0, code := some k4c8 }
def k4c9 : Code := { maxStack := 4, maxLocals := 7, code := prog_41_method_10_code, exceptionTable := #[], attributes := #[] }
def k4m9 : Method := { name := "move", desc := "()V", sig := { parameters := [], returnType := none }, accessFlags := 2, code := some k4c9 }
/-- com/example/horn1/horn1/engine/ClauseList -/
def k4 : Class := { plain "com/example/horn1/horn1/engine/ClauseList" (some 0) with
  accessFlags := 48
  interfaces := #[]
  cf := some (fileOf pool4 8 #[] #[{ accessFlags := 0, nameIndex := 5, descriptorIndex := 6, attributes := #[] }, { accessFlags := 0, nameIndex := 15, descriptorIndex := 61, attributes := #[] }, { accessFlags := 0, nameIndex := 18, descriptorIndex := 49, attributes := #[] }, { accessFlags := 0, nameIndex := 22, descriptorIndex := 49, attributes := #[] }, { accessFlags := 0, nameIndex := 48, descriptorIndex := 49, attributes := #[] }, { accessFlags := 0, nameIndex := 62, descriptorIndex := 63, attributes := #[] }, { accessFlags := 0, nameIndex := 65, descriptorIndex := 63, attributes := #[] }, { accessFlags := 0, nameIndex := 40, descriptorIndex := 66, attributes := #[] }, { accessFlags := 0, nameIndex := 67, descriptorIndex := 41, attributes := #[] }, { accessFlags := 2, nameIndex := 28, descriptorIndex := 6, attributes := #[] }] 48 2 #[] #[{ accessFlags := 26, nameIndex := 11, descriptorIndex := 12, attributes := #[] }, { accessFlags := 26, nameIndex := 56, descriptorIndex := 19, attributes := #[] }, { accessFlags := 2, nameIndex := 15, descriptorIndex := 12, attributes := #[] }, { accessFlags := 2, nameIndex := 35, descriptorIndex := 19, attributes := #[] }, { accessFlags := 2, nameIndex := 18, descriptorIndex := 19, attributes := #[] }, { accessFlags := 2, nameIndex := 22, descriptorIndex := 19, attributes := #[] }, { accessFlags := 2, nameIndex := 25, descriptorIndex := 19, attributes := #[] }, { accessFlags := 2, nameIndex := 31, descriptorIndex := 32, attributes := #[] }])
  fields := #[{ name := "NONE", type := (.array (.object "com/example/horn1/horn1/engine/Clause")), accessFlags := 26, slot := 0, constantValue := 0 }, { name := "ROOM", type := .int, accessFlags := 26, slot := 1, constantValue := 0 }, { name := "slots", type := (.array (.object "com/example/horn1/horn1/engine/Clause")), accessFlags := 2, slot := 0, constantValue := 0 }, { name := "low", type := .int, accessFlags := 2, slot := 1, constantValue := 0 }, { name := "first", type := .int, accessFlags := 2, slot := 2, constantValue := 0 }, { name := "end", type := .int, accessFlags := 2, slot := 3, constantValue := 0 }, { name := "removed", type := .int, accessFlags := 2, slot := 4, constantValue := 0 }, { name := "addsFirst", type := .boolean, accessFlags := 2, slot := 5, constantValue := 0 }]
  methods := #[k4m0, k4m1, k4m2, k4m3, k4m4, k4m5, k4m6, k4m7, k4m8, k4m9]
  instanceTypes := #[(.array (.object "com/example/horn1/horn1/engine/Clause")), .int, .int, .int, .int, .boolean]
  staticTypes := #[(.array (.object "com/example/horn1/horn1/engine/Clause")), .int]
  resolved := Array.replicate 72 none
  statics := some 0 }

def pool5 : Array CpInfo := pool [(1, .class_ 2), (0, u "java/lang/Math"), (1, .class_ 6), (1, u "java/lang/Object"), (0, u "<init>"), (0, u "()V"), (89, .class_ 100), (1, u "java/lang/Math$RandomNumberGeneratorHolder"), (71, u "negativeZeroFloatBits"), (0, u "J"), (2, u "negativeZeroDoubleBits"), (21, u "max"), (46, u "$assertionsDisabled"), (0, u "Z"), (88, u "(II)I"), (2, u "twoToTheDoubleScaleDown"), (0, u "D"), (4, u "twoToTheDoubleScaleUp"), (9, u "E"), (3, u "PI"), (2, u "TAU"), (2, u "DEGREES_TO_RADIANS"), (0, u "RADIANS_TO_DEGREES")] 94

def k5m0 : Method := { name := "<init>", desc := "()V", sig := { parameters := [], returnType := none }, accessFlags := 2, code := none }
def k5c1 : Code := { maxStack := 2, maxLocals := 2, code := jdk_29_method_65_code, exceptionTable := #[], attributes := #[] }
def k5m1 : Method := { name := "max", desc := "(II)I", sig := { parameters := [.int, .int], returnType := some .int }, accessFlags := 9, code := some k5c1 }
/-- java/lang/Math -/
def k5 : Class := { plain "java/lang/Math" (some 0) with
  accessFlags := 49
  interfaces := #[]
  cf := some (fileOf pool5 1 #[.nestMembers #[98]] #[{ accessFlags := 2, nameIndex := 7, descriptorIndex := 8, attributes := #[] }, { accessFlags := 9, nameIndex := 198, descriptorIndex := 335, attributes := #[] }] 49 4 #[] #[{ accessFlags := 25, nameIndex := 354, descriptorIndex := 339, attributes := #[] }, { accessFlags := 25, nameIndex := 358, descriptorIndex := 339, attributes := #[] }, { accessFlags := 25, nameIndex := 361, descriptorIndex := 339, attributes := #[] }, { accessFlags := 26, nameIndex := 364, descriptorIndex := 339, attributes := #[] }, { accessFlags := 26, nameIndex := 365, descriptorIndex := 339, attributes := #[] }, { accessFlags := 26, nameIndex := 172, descriptorIndex := 173, attributes := #[] }, { accessFlags := 26, nameIndex := 176, descriptorIndex := 173, attributes := #[] }, { accessFlags := 8, nameIndex := 344, descriptorIndex := 339, attributes := #[] }, { accessFlags := 8, nameIndex := 338, descriptorIndex := 339, attributes := #[] }, { accessFlags := 4120, nameIndex := 245, descriptorIndex := 246, attributes := #[] }])
  fields := #[{ name := "E", type := .double, accessFlags := 25, slot := 0, constantValue := 0 }, { name := "PI", type := .double, accessFlags := 25, slot := 1, constantValue := 0 }, { name := "TAU", type := .double, accessFlags := 25, slot := 2, constantValue := 0 }, { name := "DEGREES_TO_RADIANS", type := .double, accessFlags := 26, slot := 3, constantValue := 0 }, { name := "RADIANS_TO_DEGREES", type := .double, accessFlags := 26, slot := 4, constantValue := 0 }, { name := "negativeZeroFloatBits", type := .long, accessFlags := 26, slot := 5, constantValue := 0 }, { name := "negativeZeroDoubleBits", type := .long, accessFlags := 26, slot := 6, constantValue := 0 }, { name := "twoToTheDoubleScaleUp", type := .double, accessFlags := 8, slot := 7, constantValue := 0 }, { name := "twoToTheDoubleScaleDown", type := .double, accessFlags := 8, slot := 8, constantValue := 0 }, { name := "$assertionsDisabled", type := .boolean, accessFlags := 4120, slot := 9, constantValue := 0 }]
  methods := #[k5m0, k5m1]
  instanceTypes := #[]
  staticTypes := #[.double, .double, .double, .double, .double, .long, .long, .double, .double, .boolean]
  resolved := Array.replicate 460 none
  statics := none }

def pool6 : Array CpInfo := pool [(1, u "java/lang/Cloneable"), (0, .class_ 1), (0, u "java/lang/Object"), (0, .class_ 3)] 3

/-- java/lang/Cloneable -/
def k6 : Class := { plain "java/lang/Cloneable" (some 0) with
  accessFlags := 1537
  interfaces := #[]
  cf := some (fileOf pool6 2 #[] #[] 1537 4 #[] #[])
  fields := #[]
  methods := #[]
  instanceTypes := #[]
  staticTypes := #[]
  resolved := Array.replicate 8 none
  statics := none }

def pool7 : Array CpInfo := pool [(1, u "java/io/Serializable"), (0, .class_ 1), (0, u "java/lang/Object"), (0, .class_ 3)] 3

/-- java/io/Serializable -/
def k7 : Class := { plain "java/io/Serializable" (some 0) with
  accessFlags := 1537
  interfaces := #[]
  cf := some (fileOf pool7 2 #[] #[] 1537 4 #[] #[])
  fields := #[]
  methods := #[]
  instanceTypes := #[]
  staticTypes := #[]
  resolved := Array.replicate 8 none
  statics := none }

/-- the primitive byte -/
def k8 : Class := { plain "byte" none with kind := .primitive 'B', accessFlags := 0x411 }
/-- [B -/
def k9 : Class := { plain "[B" (some 0) with kind := .array 8 .byte, interfaces := #[6, 7], accessFlags := 1041 }

/-- the primitive int -/
def k10 : Class := { plain "int" none with kind := .primitive 'I', accessFlags := 0x411 }
/-- [I -/
def k11 : Class := { plain "[I" (some 0) with kind := .array 10 .int, interfaces := #[6, 7], accessFlags := 1041 }

/-- [Lcom/example/horn1/horn1/engine/Clause; -/
def k12 : Class := { plain "[Lcom/example/horn1/horn1/engine/Clause;" (some 0) with kind := .array 3 (.object "com/example/horn1/horn1/engine/Clause"), interfaces := #[6, 7], accessFlags := 1041 }

/-- [Lcom/example/horn1/horn1/engine/Template; -/
def k13 : Class := { plain "[Lcom/example/horn1/horn1/engine/Template;" (some 0) with kind := .array 2 (.object "com/example/horn1/horn1/engine/Template"), interfaces := #[6, 7], accessFlags := 1041 }

def heap : Heap := #[{ cls := 4, slots := #[.ref 1, .int 0], vm := .statics 4 },
  { cls := 12, slots := #[], vm := .none }]
def classes : Array Class := #[k0, k1, k2, k3, k4, k5, k6, k7, k8, k9, k10, k11, k12, k13]
def interned : List (Array UInt16 × Addr) := []
def slotsUsed : Nat := 2
def theMethod : MethodId := ⟨1, 1⟩
def args0 : Array Value := #[.int 5, .long 5, .long 5, .long 5]
def aboutOver (below : List Frame) : State where
  vm := { classes := classes, interned := interned.toArray }
  heap := heap
  slotsUsed := slotsUsed
  threads := #[{ frames := .invoking theMethod args0 :: below }]
def below0 : List Frame := [.native { method := ⟨0, 0⟩, args := #[] }]
def about1 : State := aboutOver below0
def p0 : Program := .bare "" "" ""
def e0 : Env := launch0.env 0 0 0
theorem w_frames : about1.frames = Frame.invoking theMethod args0 :: below0 := rfl
set_option maxRecDepth 65536 in
theorem w_args : argsFit about1.vm theMethod args0 = true := by decide +kernel
set_option maxRecDepth 65536 in
theorem w_heap : heapFits about1 = true := by decide +kernel
set_option maxRecDepth 65536 in
theorem w_runnable : about1.curStatus? = some .runnable := by decide +kernel
set_option maxRecDepth 65536 in
theorem w_alone : about1.alone = true := by decide +kernel
set_option maxRecDepth 65536 in
theorem w_named : about1.methodNamed? x = some theMethod := by decide +kernel
set_option maxRecDepth 65536 in
theorem w_hears : about1.hears theMethod below0 = true := by decide +kernel
set_option maxRecDepth 65536 in
theorem w_ripe : about1.ripe theMethod args0 below0 = true := by decide +kernel
theorem w_running : about1.status = .running := rfl
set_option maxRecDepth 65536 in
theorem w_room : about1.hasRoom e0.platform room_1 = true :=
  launch0.hasRoom_least _ room_1 (by decide +kernel) (by decide +kernel) (by decide +kernel) (by decide +kernel) (by decide +kernel) (by decide +kernel)
theorem allAtoms_all (ts : List Jvm.Cond) (a : Array Jvm.Value) (st : Jvm.State) : (allAtoms ts).before a st = ts.all (fun c => c.before a st) := by
  induction ts with
  | nil => rfl
  | cons c t ih =>
    show (Jvm.Cond.and c (allAtoms t)).before a st = _
    rw [Jvm.Cond.before_and, ih, List.all_cons]
def words1 : List Jvm.Cond := Jvm.Cond.code x code maxLocals ret :: tables_1
/-- a 'code' word, met by the world's own term for the bytes: nothing is compared byte by byte -/
theorem code_word {y : MethodName} {bytes : ByteArray} {mx : Nat} {rt : Option FieldType} {a : Array Value} {s : State} {m : MethodId} {meth : Method} {c : Code} (h1 : s.methodNamed? y = some m) (h2 : s.vm.method? m = some meth) (h3 : meth.code = some c) (h4 : c.code = bytes)
    (h5 : (c.maxLocals == mx && c.exceptionTable.isEmpty && decide (c.maxStack ≤ mostOperands) && decide (meth.sig.returnType = rt) && !meth.locks && decide (parseMethodDescriptor y.desc = some meth.sig)) = true) : (Jvm.Cond.code y bytes mx rt).before a s = true := by
  simp only [Bool.and_eq_true, beq_iff_eq, Bool.not_eq_true', decide_eq_true_eq] at h5
  obtain ⟨⟨⟨⟨⟨g1, g2⟩, g3⟩, g4⟩, g5⟩, g6⟩ := h5
  simp [Cond.before, Cond.holds, Cond.value, h1, h2, h3, h4, g1, g2, g3, g4, g5, g6]
def isCode : Jvm.Cond → Bool
  | .code _ _ _ _ => true
  | _ => false
theorem all_split {L : List Jvm.Cond} {P : Jvm.Cond → Bool} (h1 : L.all (fun c => isCode c || P c) = true) (h2 : ∀ c ∈ L.filter isCode, P c = true) : L.all P = true := by
  refine List.all_eq_true.mpr fun c hc => ?_
  have h := List.all_eq_true.mp h1 c hc
  rcases Bool.eq_false_or_eq_true (isCode c) with hi | hi
  · exact h2 c (List.mem_filter.mpr ⟨hc, hi⟩)
  · simpa [hi] using h
set_option maxRecDepth 65536 in
theorem w_c0 : (Jvm.Cond.code x code maxLocals ret).before args0 about1 = true := code_word (m := ⟨1, 1⟩) (meth := k1m1) (c := k1c1) (by decide +kernel) rfl rfl rfl (by decide +kernel)
set_option maxRecDepth 65536 in
theorem w_c1 : (Jvm.Cond.code ({ cls := "com/example/horn1/horn1/engine/Clause", name := "<init>", desc := "([Lcom/example/horn1/horn1/engine/Template;[Lcom/example/horn1/horn1/engine/Template;[Lcom/example/horn1/horn1/engine/Predicate;Lcom/example/horn1/horn1/engine/Template;I)V" } : Jvm.MethodName) prog_40_method_1_code (10 : Nat) (Option.none : Option Jvm.ClassFile.FieldType)).before args0 about1 = true := code_word (m := ⟨3, 0⟩) (meth := k3m0) (c := k3c0) (by decide +kernel) rfl rfl rfl (by decide +kernel)
set_option maxRecDepth 65536 in
theorem w_c2 : (Jvm.Cond.code ({ cls := "java/lang/Object", name := "<init>", desc := "()V" } : Jvm.MethodName) object_method_1_code (1 : Nat) (Option.none : Option Jvm.ClassFile.FieldType)).before args0 about1 = true := code_word (m := ⟨0, 0⟩) (meth := k0m0) (c := k0c0) (by decide +kernel) rfl rfl rfl (by decide +kernel)
set_option maxRecDepth 65536 in
theorem w_c3 : (Jvm.Cond.code ({ cls := "com/example/horn1/horn1/engine/ClauseList", name := "<init>", desc := "()V" } : Jvm.MethodName) prog_41_method_1_code (1 : Nat) (Option.none : Option Jvm.ClassFile.FieldType)).before args0 about1 = true := code_word (m := ⟨4, 0⟩) (meth := k4m0) (c := k4c0) (by decide +kernel) rfl rfl rfl (by decide +kernel)
set_option maxRecDepth 65536 in
theorem w_c4 : (Jvm.Cond.code ({ cls := "com/example/horn1/horn1/engine/ClauseList", name := "removeAll", desc := "(J)V" } : Jvm.MethodName) prog_41_method_9_code (4 : Nat) (Option.none : Option Jvm.ClassFile.FieldType)).before args0 about1 = true := code_word (m := ⟨4, 8⟩) (meth := k4m8) (c := k4c8) (by decide +kernel) rfl rfl rfl (by decide +kernel)
set_option maxRecDepth 65536 in
theorem w_c5 : (Jvm.Cond.code ({ cls := "com/example/horn1/horn1/engine/ClauseList", name := "size", desc := "()I" } : Jvm.MethodName) prog_41_method_5_code (1 : Nat) (Option.some Jvm.ClassFile.FieldType.int)).before args0 about1 = true := code_word (m := ⟨4, 4⟩) (meth := k4m4) (c := k4c4) (by decide +kernel) rfl rfl rfl (by decide +kernel)
set_option maxRecDepth 65536 in
theorem w_c6 : (Jvm.Cond.code ({ cls := "com/example/horn1/horn1/engine/ClauseList", name := "first", desc := "()I" } : Jvm.MethodName) prog_41_method_3_code (1 : Nat) (Option.some Jvm.ClassFile.FieldType.int)).before args0 about1 = true := code_word (m := ⟨4, 2⟩) (meth := k4m2) (c := k4c2) (by decide +kernel) rfl rfl rfl (by decide +kernel)
set_option maxRecDepth 65536 in
theorem w_c7 : (Jvm.Cond.code ({ cls := "com/example/horn1/horn1/engine/ClauseList", name := "end", desc := "()I" } : Jvm.MethodName) prog_41_method_4_code (1 : Nat) (Option.some Jvm.ClassFile.FieldType.int)).before args0 about1 = true := code_word (m := ⟨4, 3⟩) (meth := k4m3) (c := k4c3) (by decide +kernel) rfl rfl rfl (by decide +kernel)
set_option maxRecDepth 65536 in
theorem w_c8 : (Jvm.Cond.code ({ cls := "com/example/horn1/horn1/engine/ClauseList", name := "slots", desc := "()[Lcom/example/horn1/horn1/engine/Clause;" } : Jvm.MethodName) prog_41_method_2_code (1 : Nat) (Option.some (Jvm.ClassFile.FieldType.array (Jvm.ClassFile.FieldType.object "com/example/horn1/horn1/engine/Clause")))).before args0 about1 = true := code_word (m := ⟨4, 1⟩) (meth := k4m1) (c := k4c1) (by decide +kernel) rfl rfl rfl (by decide +kernel)
set_option maxRecDepth 65536 in
theorem w_c9 : (Jvm.Cond.code ({ cls := "com/example/horn1/horn1/engine/ClauseListRemoveAllPinLaw", name := "markedAs", desc := "(Lcom/example/horn1/horn1/engine/Clause;JJ)Z" } : Jvm.MethodName) method_3_code (5 : Nat) (Option.some Jvm.ClassFile.FieldType.boolean)).before args0 about1 = true := code_word (m := ⟨1, 2⟩) (meth := k1m2) (c := k1c2) (by decide +kernel) rfl rfl rfl (by decide +kernel)
set_option maxRecDepth 65536 in
theorem w_c10 : (Jvm.Cond.code ({ cls := "com/example/horn1/horn1/engine/Clause", name := "isLive", desc := "()Z" } : Jvm.MethodName) prog_40_method_7_code (1 : Nat) (Option.some Jvm.ClassFile.FieldType.boolean)).before args0 about1 = true := code_word (m := ⟨3, 1⟩) (meth := k3m1) (c := k3c1) (by decide +kernel) rfl rfl rfl (by decide +kernel)
set_option maxRecDepth 65536 in
theorem w_c11 : (Jvm.Cond.code ({ cls := "com/example/horn1/horn1/engine/Clause", name := "isVisibleAt", desc := "(J)Z" } : Jvm.MethodName) prog_40_method_8_code (3 : Nat) (Option.some Jvm.ClassFile.FieldType.boolean)).before args0 about1 = true := code_word (m := ⟨3, 2⟩) (meth := k3m2) (c := k3c2) (by decide +kernel) rfl rfl rfl (by decide +kernel)
set_option maxRecDepth 65536 in
theorem w_c12 : (Jvm.Cond.code ({ cls := "com/example/horn1/horn1/engine/ClauseList", name := "addLast", desc := "(Lcom/example/horn1/horn1/engine/Clause;)V" } : Jvm.MethodName) prog_41_method_6_code (2 : Nat) (Option.none : Option Jvm.ClassFile.FieldType)).before args0 about1 = true := code_word (m := ⟨4, 5⟩) (meth := k4m5) (c := k4c5) (by decide +kernel) rfl rfl rfl (by decide +kernel)
set_option maxRecDepth 65536 in
theorem w_c13 : (Jvm.Cond.code ({ cls := "com/example/horn1/horn1/engine/ClauseList", name := "move", desc := "()V" } : Jvm.MethodName) prog_41_method_10_code (7 : Nat) (Option.none : Option Jvm.ClassFile.FieldType)).before args0 about1 = true := code_word (m := ⟨4, 9⟩) (meth := k4m9) (c := k4c9) (by decide +kernel) rfl rfl rfl (by decide +kernel)
set_option maxRecDepth 65536 in
theorem w_c14 : (Jvm.Cond.code ({ cls := "java/lang/Math", name := "max", desc := "(II)I" } : Jvm.MethodName) jdk_29_method_65_code (2 : Nat) (Option.some Jvm.ClassFile.FieldType.int)).before args0 about1 = true := code_word (m := ⟨5, 1⟩) (meth := k5m1) (c := k5c1) (by decide +kernel) rfl rfl rfl (by decide +kernel)
set_option maxRecDepth 65536 in
theorem w_c15 : (Jvm.Cond.code ({ cls := "com/example/horn1/horn1/engine/ClauseList", name := "addFirst", desc := "(Lcom/example/horn1/horn1/engine/Clause;)V" } : Jvm.MethodName) prog_41_method_7_code (2 : Nat) (Option.none : Option Jvm.ClassFile.FieldType)).before args0 about1 = true := code_word (m := ⟨4, 6⟩) (meth := k4m6) (c := k4c6) (by decide +kernel) rfl rfl rfl (by decide +kernel)
set_option maxRecDepth 65536 in
theorem w_c16 : (Jvm.Cond.code ({ cls := "com/example/horn1/horn1/engine/Clause", name := "remove", desc := "(J)V" } : Jvm.MethodName) prog_40_method_9_code (3 : Nat) (Option.none : Option Jvm.ClassFile.FieldType)).before args0 about1 = true := code_word (m := ⟨3, 3⟩) (meth := k3m3) (c := k3c3) (by decide +kernel) rfl rfl rfl (by decide +kernel)
set_option maxRecDepth 65536 in
theorem w_c17 : (Jvm.Cond.code ({ cls := "com/example/horn1/horn1/engine/ClauseList", name := "remove", desc := "(Lcom/example/horn1/horn1/engine/Clause;J)V" } : Jvm.MethodName) prog_41_method_8_code (4 : Nat) (Option.none : Option Jvm.ClassFile.FieldType)).before args0 about1 = true := code_word (m := ⟨4, 7⟩) (meth := k4m7) (c := k4c7) (by decide +kernel) rfl rfl rfl (by decide +kernel)
def codes1 : List Jvm.Cond := [Jvm.Cond.code x code maxLocals ret, Jvm.Cond.code ({ cls := "com/example/horn1/horn1/engine/Clause", name := "<init>", desc := "([Lcom/example/horn1/horn1/engine/Template;[Lcom/example/horn1/horn1/engine/Template;[Lcom/example/horn1/horn1/engine/Predicate;Lcom/example/horn1/horn1/engine/Template;I)V" } : Jvm.MethodName) prog_40_method_1_code (10 : Nat) (Option.none : Option Jvm.ClassFile.FieldType), Jvm.Cond.code ({ cls := "java/lang/Object", name := "<init>", desc := "()V" } : Jvm.MethodName) object_method_1_code (1 : Nat) (Option.none : Option Jvm.ClassFile.FieldType), Jvm.Cond.code ({ cls := "com/example/horn1/horn1/engine/ClauseList", name := "<init>", desc := "()V" } : Jvm.MethodName) prog_41_method_1_code (1 : Nat) (Option.none : Option Jvm.ClassFile.FieldType), Jvm.Cond.code ({ cls := "com/example/horn1/horn1/engine/ClauseList", name := "removeAll", desc := "(J)V" } : Jvm.MethodName) prog_41_method_9_code (4 : Nat) (Option.none : Option Jvm.ClassFile.FieldType), Jvm.Cond.code ({ cls := "com/example/horn1/horn1/engine/ClauseList", name := "size", desc := "()I" } : Jvm.MethodName) prog_41_method_5_code (1 : Nat) (Option.some Jvm.ClassFile.FieldType.int), Jvm.Cond.code ({ cls := "com/example/horn1/horn1/engine/ClauseList", name := "first", desc := "()I" } : Jvm.MethodName) prog_41_method_3_code (1 : Nat) (Option.some Jvm.ClassFile.FieldType.int), Jvm.Cond.code ({ cls := "com/example/horn1/horn1/engine/ClauseList", name := "end", desc := "()I" } : Jvm.MethodName) prog_41_method_4_code (1 : Nat) (Option.some Jvm.ClassFile.FieldType.int), Jvm.Cond.code ({ cls := "com/example/horn1/horn1/engine/ClauseList", name := "slots", desc := "()[Lcom/example/horn1/horn1/engine/Clause;" } : Jvm.MethodName) prog_41_method_2_code (1 : Nat) (Option.some (Jvm.ClassFile.FieldType.array (Jvm.ClassFile.FieldType.object "com/example/horn1/horn1/engine/Clause"))), Jvm.Cond.code ({ cls := "com/example/horn1/horn1/engine/ClauseListRemoveAllPinLaw", name := "markedAs", desc := "(Lcom/example/horn1/horn1/engine/Clause;JJ)Z" } : Jvm.MethodName) method_3_code (5 : Nat) (Option.some Jvm.ClassFile.FieldType.boolean), Jvm.Cond.code ({ cls := "com/example/horn1/horn1/engine/Clause", name := "isLive", desc := "()Z" } : Jvm.MethodName) prog_40_method_7_code (1 : Nat) (Option.some Jvm.ClassFile.FieldType.boolean), Jvm.Cond.code ({ cls := "com/example/horn1/horn1/engine/Clause", name := "isVisibleAt", desc := "(J)Z" } : Jvm.MethodName) prog_40_method_8_code (3 : Nat) (Option.some Jvm.ClassFile.FieldType.boolean), Jvm.Cond.code ({ cls := "com/example/horn1/horn1/engine/ClauseList", name := "addLast", desc := "(Lcom/example/horn1/horn1/engine/Clause;)V" } : Jvm.MethodName) prog_41_method_6_code (2 : Nat) (Option.none : Option Jvm.ClassFile.FieldType), Jvm.Cond.code ({ cls := "com/example/horn1/horn1/engine/ClauseList", name := "move", desc := "()V" } : Jvm.MethodName) prog_41_method_10_code (7 : Nat) (Option.none : Option Jvm.ClassFile.FieldType), Jvm.Cond.code ({ cls := "java/lang/Math", name := "max", desc := "(II)I" } : Jvm.MethodName) jdk_29_method_65_code (2 : Nat) (Option.some Jvm.ClassFile.FieldType.int), Jvm.Cond.code ({ cls := "com/example/horn1/horn1/engine/ClauseList", name := "addFirst", desc := "(Lcom/example/horn1/horn1/engine/Clause;)V" } : Jvm.MethodName) prog_41_method_7_code (2 : Nat) (Option.none : Option Jvm.ClassFile.FieldType), Jvm.Cond.code ({ cls := "com/example/horn1/horn1/engine/Clause", name := "remove", desc := "(J)V" } : Jvm.MethodName) prog_40_method_9_code (3 : Nat) (Option.none : Option Jvm.ClassFile.FieldType), Jvm.Cond.code ({ cls := "com/example/horn1/horn1/engine/ClauseList", name := "remove", desc := "(Lcom/example/horn1/horn1/engine/Clause;J)V" } : Jvm.MethodName) prog_41_method_8_code (4 : Nat) (Option.none : Option Jvm.ClassFile.FieldType)]
set_option maxRecDepth 65536 in
theorem codes_eq : words1.filter isCode = codes1 := rfl
theorem w_codes : ∀ c ∈ words1.filter isCode, c.before args0 about1 = true := by
  rw [codes_eq]
  intro c hc
  simp only [codes1, List.mem_cons, List.not_mem_nil, or_false] at hc
  rcases hc with rfl | rfl | rfl | rfl | rfl | rfl | rfl | rfl | rfl | rfl | rfl | rfl | rfl | rfl | rfl | rfl | rfl | rfl
  · exact w_c0
  · exact w_c1
  · exact w_c2
  · exact w_c3
  · exact w_c4
  · exact w_c5
  · exact w_c6
  · exact w_c7
  · exact w_c8
  · exact w_c9
  · exact w_c10
  · exact w_c11
  · exact w_c12
  · exact w_c13
  · exact w_c14
  · exact w_c15
  · exact w_c16
  · exact w_c17
set_option maxRecDepth 65536 in
theorem w_t1 : (words1.take 24).all (fun c => isCode c || c.before args0 about1) = true := by decide +kernel
set_option maxRecDepth 65536 in
theorem w_t2 : ((words1.drop 24).take 24).all (fun c => isCode c || c.before args0 about1) = true := by decide +kernel
set_option maxRecDepth 65536 in
theorem w_t3 : (((words1.drop 24).drop 24).take 24).all (fun c => isCode c || c.before args0 about1) = true := by decide +kernel
set_option maxRecDepth 65536 in
theorem w_t4 : ((((words1.drop 24).drop 24).drop 24).take 24).all (fun c => isCode c || c.before args0 about1) = true := by decide +kernel
set_option maxRecDepth 65536 in
theorem w_t5 : (((((words1.drop 24).drop 24).drop 24).drop 24).take 24).all (fun c => isCode c || c.before args0 about1) = true := by decide +kernel
set_option maxRecDepth 65536 in
theorem w_t6 : (((((words1.drop 24).drop 24).drop 24).drop 24).drop 24).all (fun c => isCode c || c.before args0 about1) = true := by decide +kernel
theorem w_tables : (allAtoms (Jvm.Cond.code x code maxLocals ret :: tables_1)).before args0 about1 = true := by
  rw [allAtoms_all]
  show words1.all (fun c => c.before args0 about1) = true
  refine all_split ?_ w_codes
  rw [← List.take_append_drop 24 words1, List.all_append, w_t1, ← List.take_append_drop 24 (words1.drop 24), List.all_append, w_t2, ← List.take_append_drop 24 ((words1.drop 24).drop 24), List.all_append, w_t3, ← List.take_append_drop 24 (((words1.drop 24).drop 24).drop 24), List.all_append, w_t4, ← List.take_append_drop 24 ((((words1.drop 24).drop 24).drop 24).drop 24), List.all_append, w_t5, w_t6]
  rfl
set_option maxRecDepth 65536 in
theorem w_case : (Jvm.Cond.and given_1 narrow_1).before args0 about1 = true := by decide +kernel
theorem w_applies : (headSpec (Jvm.Cond.code x code maxLocals ret :: tables_1) room_1).applies x e0.platform about1 = true :=
  (Spec.applies_iff w_frames).mpr ⟨w_running, w_runnable, w_alone, w_named, w_hears, w_ripe, w_room, w_tables⟩
theorem atStart : AtStart classFile x code maxLocals ret World_1 tables_1 room_1 Calls_1 rest_1 Pre_1 launch0 p0 e0 about1 theMethod args0 below0 :=
  ⟨lists_1, trivial, launch0.admits_env _ _ _, launch0.least_env, fairChoices_fair.cas, fairChoices_fair.clock, w_frames, w_args, w_heap, w_applies, trivial, trivial, w_case⟩
end start1
theorem witness_1 : WitnessClaimed_1 := ⟨start1.p0, start1.e0, start1.about1, start1.theMethod, start1.args0, start1.below0, start1.atStart⟩
end Jvm.Pilot.@@N@@
