import JvmDerived
import JvmDerived.Pilot.@@N@@Statement
import JvmDerived.Pilot.@@N@@Code
set_option linter.unusedVariables false
set_option linter.unusedSimpArgs false
namespace Jvm.RoadKit
open Sem ClassFile Op Lib Jvm.Stand Jvm.Free Jvm.LawKit
section New
variable {p : Program} {l : Launch} {e : Env} {R : Room} {s : State} {m : MethodId} {args : Array Value} {below : List Frame} {meth : Method} {c : Code} {T : State} {locs : List Loc} {cells slots : Nat}
theorem retI (X : Stand p l e R s m args below meth c T locs cells slots) (hx : p.tables.exec = Jvm.exec) {pc : Nat} {Ls : Array Slot} {z : Int32} {rest : List Value} (hret : meth.sig.returnType = some .int) (hd : decode c.code pc = .ok (.ireturn, 1)) {fs : List Frame}
    (hl : ∀ (f : JFrame) (acts : List Action), f.method = m → f.locked = none → f.entered = [] → (doReturn e (T.setTop f) acts (some (.int z))).1 = T.setFrames fs) : Steps p.tables e below (T.setTop (mkF m pc Ls (.int z :: rest))) (T.setFrames fs) := by
  have hm' : T.vm.method? m = some meth := X.method'
  have hn : narrow .int (.int z) = .int z := rfl
  show Steps p.tables e below (T.setTop { method := m, pc := pc, locals := Ls, stack := _ :: rest, locked := none }) _
  jvm_step X.here [X.here.top, hx, hd, hm', hret, hn]
  first | (intro acts; rw [hl _ acts rfl rfl rfl]) | rw [hl _ _ rfl rfl rfl]
  exact Steps.refl _
end New
end Jvm.RoadKit
namespace Jvm.Pilot.@@N@@
open Jvm Jvm.ClassFile Sem Op Lib Jvm.Free Jvm.Stand Jvm.LawKit Jvm.RoadKit Bundle Jvm.Pilot.@@N@@.Jvm.D
theorem own_bd {p : Program} {l : Launch} {x : MethodName} {cd : List Jvm.Cond} {R : Room} {code : ByteArray} {maxL : Nat} {ret : Option FieldType} {e : Env} {s : State} {m : MethodId} {args : Array Value} {below : List Frame} {meth : Method} {c : Code} {s₁ : State} {h0 : Heap} (Bd : BodyLoose p l x (head1 cd R) code maxL ret e s m args below meth c s₁) (hh : s.heap = h0) (n0 : Nat) :
    p.tables.exec = Jvm.exec ∧ c.code = code ∧ s.vm.findClass x.cls = some m.cls ∧ meth.sig.returnType = ret ∧ meth.locks = false ∧ Stand p l e R s m args below meth c s₁ [] 0 0 ∧ s₁.heap = h0 ∧ Fr n0 [] :=
  ⟨Bd.exec, Bd.bytes, findClass_of_methodNamed Bd.named, Bd.returns, BodyLoose.notSynchronized Bd, Stand.of_body Bd, by rw [← hh, Bd.state]; rfl, Fr.nil n0⟩
theorem own_ct (s₁ : State) {p : Program} {e : Env} {below : List Frame} {f g : JFrame} (h : f = g) : ∀ t, Steps p.tables e below (s₁.setTop g) t → Steps p.tables e below (s₁.setTop f) t := fun t k => castTop h k
theorem own_w {a0 : Array Value} {Z : State} (hw : ∀ d ∈ tables_1, d.before a0 Z = true) {d : Jvm.Cond} (i : Nat) (h : tables_1[i]? = some d) : d.before a0 Z = true := hw d (List.mem_of_getElem? h)
section Calls
variable {p : Program} {l : Launch} {e : Env} {R : Room} {s : State} {m : MethodId} {args : Array Value} {below : List Frame} {meth : Method} {c : Code} {T : State} {locs : List Loc} {cells slots : Nat} {Z : State} {a0 : Array Value} {h : Heap}
variable {own C : String} {index : Nat} {y z : MethodName} {bytes : ByteArray} {maxL : Nat} {ret : Option FieldType} {rm : Room} {a : Addr} {Q : Option Value → Heap → List Loc → Prop} {argsL rest : List Value} {g : JFrame}
theorem own_vb (X : Stand p l e R s m args below meth c T locs cells slots) (hx : p.tables.exec = Jvm.exec) (hZ : Z.Warmed39 s.vm) (hown : s.vm.findClass own = some m.cls)
    (w1 : (Cond.methodLink own index y).before a0 Z = true) (w2 : (Cond.declares y).before a0 Z = true) (w3 : (Cond.selects C y y).before a0 Z = true) (w4 : (Cond.instanceMethod y).before a0 Z = true) (wc : (Cond.code y bytes maxL ret).before a0 Z = true) (wz : (Cond.initialized y.cls).before a0 Z = true)
    (eT : T.heap = h) (E : Exa Z h a C)
    (hM : MetFree l y (head1 [Cond.code y bytes maxL ret] rm) (fun a' U => a' = (Value.ref a :: argsL).toArray ∧ Z.Warmed39 U.vm ∧ U.heap = h) (fun _ _ _ _ _ => True) (fun _ U o U' => ∃ v L, o = .returned v ∧ Q v U'.heap L ∧ FrameEnd U o U' L rm.cells rm.slots))
    (hg : g.method = m) (hml : g.locals.size = c.maxLocals) (hs : g.stack = argsL.reverse ++ .ref a :: rest) (hd : decode c.code g.pc = .ok (.invokevirtual index, 3)) (hlen : ∀ sig, parseMethodDescriptor y.desc = some sig → argsL.length = sig.parameters.length)
    {W : Nat} {c1 s1 : Nat} (h1 : cells + rm.cells = c1 := by rfl) (h2 : slots + rm.slots = s1 := by rfl) (hW : 2 * g.monitorRoom + (rest.map fun v => v.category).sum ≤ W := by show 2 * 0 + _ ≤ _; exact Nat.le_of_eq rfl) (hf : rm.frames + 1 ≤ R.frames := by decide) (hl : W + (maxL + 11) + rm.locals ≤ R.locals := by decide) (hc : c1 ≤ R.cells := by decide) (hsl : s1 ≤ R.slots := by decide) (hy : y.cls ≠ "java/lang/invoke/MethodHandle" ∧ y.cls ≠ "java/lang/invoke/VarHandle" := by decide) :
    ∃ v T' L, Stand p l e R s m args below meth c T' (locs ++ L) c1 s1 ∧ Q v T'.heap L ∧ ∀ target, Steps p.tables e below (T'.setTop { g with pc := g.pc + 3, stack := v.toList ++ rest }) target → Steps p.tables e below (T.setTop g) target := by
  subst h1 h2
  obtain ⟨cB, kB, q1, q2, q3⟩ := isOf hZ eT E
  obtain ⟨v, _, ⟨T', L', k', n'⟩, -, X', ⟨L, hQ, l1, y1, z1⟩, st⟩ := X.virtualBack hx (y := y) (z := y) hown (mvT hZ w1) (mvT hZ w2) (notFace_of_selects (args := #[]) (mvT hZ w3)) (mvT hZ w3) (mvT hZ w4) hy (backOf (W := W) hM hZ wc wz hf hl) q1 q3 hg hml (Steps.refl _) hlen hs hW hd (fun _ _ => ⟨rfl, eT, hc, hsl⟩)
  dsimp only [Pt.U, Pt.locs, Pt.cells, Pt.slots] at X' l1 y1 z1 st hQ
  subst l1 y1 z1
  exact ⟨v, T', L, X', hQ, fun t k => st.trans k⟩
theorem own_vu {owner : String} (X : Stand p l e R s m args below meth c T locs cells slots) (hx : p.tables.exec = Jvm.exec) (hZ : Z.Warmed39 s.vm) (hown : s.vm.findClass own = some m.cls)
    (w1 : (Cond.methodLink own index z).before a0 Z = true) (w2 : (Cond.sameMethod z.cls owner z.name z.desc).before a0 Z = true) (w2' : (Cond.declares ⟨owner, z.name, z.desc⟩).before a0 Z = true) (w3 : (Cond.selects C z y).before a0 Z = true) (w4 : (Cond.instanceMethod y).before a0 Z = true) (wc : (Cond.code y bytes maxL ret).before a0 Z = true) (wz : (Cond.initialized y.cls).before a0 Z = true)
    (eT : T.heap = h) (E : Exa Z h a C)
    (hM : MetFree l y (head1 [Cond.code y bytes maxL ret] rm) (fun a' U => a' = (Value.ref a :: argsL).toArray ∧ Z.Warmed39 U.vm ∧ U.heap = h) (fun _ _ _ _ _ => True) (fun _ U o U' => ∃ v L, o = .returned v ∧ Q v U'.heap L ∧ FrameEnd U o U' L rm.cells rm.slots))
    (hg : g.method = m) (hml : g.locals.size = c.maxLocals) (hs : g.stack = argsL.reverse ++ .ref a :: rest) (hd : decode c.code g.pc = .ok (.invokevirtual index, 3)) (hlen : ∀ sig, parseMethodDescriptor z.desc = some sig → argsL.length = sig.parameters.length)
    {W : Nat} {c1 s1 : Nat} (h1 : cells + rm.cells = c1 := by rfl) (h2 : slots + rm.slots = s1 := by rfl) (hW : 2 * g.monitorRoom + (rest.map fun v => v.category).sum ≤ W := by show 2 * 0 + _ ≤ _; exact Nat.le_of_eq rfl) (hf : rm.frames + 1 ≤ R.frames := by decide) (hl : W + (maxL + 11) + rm.locals ≤ R.locals := by decide) (hc : c1 ≤ R.cells := by decide) (hsl : s1 ≤ R.slots := by decide) (hy : owner ≠ "java/lang/invoke/MethodHandle" ∧ owner ≠ "java/lang/invoke/VarHandle" := by decide) :
    ∃ v T' L, Stand p l e R s m args below meth c T' (locs ++ L) c1 s1 ∧ Q v T'.heap L ∧ ∀ target, Steps p.tables e below (T'.setTop { g with pc := g.pc + 3, stack := v.toList ++ rest }) target → Steps p.tables e below (T.setTop g) target := by
  subst h1 h2
  obtain ⟨cB, kB, q1, q2, q3⟩ := isOf hZ eT E
  obtain ⟨v, _, ⟨T', L', k', n'⟩, -, X', ⟨L, hQ, l1, y1, z1⟩, st⟩ := X.virtualBackUp hx (x := z) (y := y) (owner := owner) hown (mvT hZ w1) (mvT hZ w2) (mvT hZ w2') hy (mvT hZ w3) (mvT hZ w4) (backOf (W := W) hM hZ wc wz hf hl) q1 q3 hg hml (Steps.refl _) hlen hs hW hd (fun _ _ => ⟨rfl, eT, hc, hsl⟩)
  dsimp only [Pt.U, Pt.locs, Pt.cells, Pt.slots] at X' l1 y1 z1 st hQ
  subst l1 y1 z1
  exact ⟨v, T', L, X', hQ, fun t k => st.trans k⟩
theorem own_sb (X : Stand p l e R s m args below meth c T locs cells slots) (hx : p.tables.exec = Jvm.exec) (hZ : Z.Warmed39 s.vm) (hown : s.vm.findClass own = some m.cls)
    (w1 : (Cond.methodLink own index y).before a0 Z = true) (w4 : (Cond.instanceMethod y).before a0 Z = true) (wc : (Cond.code y bytes maxL none).before a0 Z = true) (wz : (Cond.initialized y.cls).before a0 Z = true)
    (eT : T.heap = h)
    (hM : MetFree l y (head1 [Cond.code y bytes maxL none] rm) (fun a' U => a' = (Value.ref a :: argsL).toArray ∧ Z.Warmed39 U.vm ∧ U.heap = h) (fun _ _ _ _ _ => True) (fun _ U o U' => ∃ v L, o = .returned v ∧ Q v U'.heap L ∧ FrameEnd U o U' L rm.cells rm.slots))
    (hg : g.method = m) (hml : g.locals.size = c.maxLocals) (hs : g.stack = argsL.reverse ++ .ref a :: rest) (hd : decode c.code g.pc = .ok (.invokespecial index, 3)) (hlen : ∀ sig, parseMethodDescriptor y.desc = some sig → argsL.length = sig.parameters.length)
    {W : Nat} {c1 s1 : Nat} (hn : y.name = "<init>" := by rfl) (h1 : cells + rm.cells = c1 := by rfl) (h2 : slots + rm.slots = s1 := by rfl) (hW : 2 * g.monitorRoom + (rest.map fun v => v.category).sum ≤ W := by show 2 * 0 + _ ≤ _; exact Nat.le_of_eq rfl) (hf : rm.frames + 1 ≤ R.frames := by decide) (hl : W + (maxL + 11) + rm.locals ≤ R.locals := by decide) (hc : c1 ≤ R.cells := by decide) (hsl : s1 ≤ R.slots := by decide) (hy : y.cls ≠ "java/lang/invoke/MethodHandle" ∧ y.cls ≠ "java/lang/invoke/VarHandle" := by decide) :
    ∃ v T' L, Stand p l e R s m args below meth c T' (locs ++ L) c1 s1 ∧ Q v T'.heap L ∧ ∀ target, Steps p.tables e below (T'.setTop { g with pc := g.pc + 3, stack := v.toList ++ rest }) target → Steps p.tables e below (T.setTop g) target := by
  subst h1 h2
  obtain ⟨v, _, ⟨T', L', k', n'⟩, -, X', ⟨L, hQ, l1, y1, z1⟩, st⟩ := X.specialBack hx (y := y) hn hown (mvT hZ w1) (mvT hZ w4) (mvT hZ wc) hy (backOf (W := W) hM hZ wc wz hf hl) hg hml (Steps.refl _) hlen hs hW hd (fun _ _ => ⟨rfl, eT, hc, hsl⟩)
  dsimp only [Pt.U, Pt.locs, Pt.cells, Pt.slots] at X' l1 y1 z1 st hQ
  subst l1 y1 z1
  exact ⟨v, T', L, X', hQ, fun t k => st.trans k⟩
theorem own_cs (X : Stand p l e R s m args below meth c T locs cells slots) (hx : p.tables.exec = Jvm.exec) (hZ : Z.Warmed39 s.vm) (hown : s.vm.findClass own = some m.cls)
    (w1 : (Cond.methodLink own index y).before a0 Z = true) (w4 : (Cond.static y).before a0 Z = true) (wc : (Cond.code y bytes maxL ret).before a0 Z = true) (wz : (Cond.initialized y.cls).before a0 Z = true)
    (eT : T.heap = h)
    (hM : MetFree l y (head1 [Cond.code y bytes maxL ret] rm) (fun a' U => a' = argsL.toArray ∧ Z.Warmed39 U.vm ∧ U.heap = h) (fun _ _ _ _ _ => True) (fun _ U o U' => ∃ v L, o = .returned v ∧ Q v U'.heap L ∧ FrameEnd U o U' L rm.cells rm.slots))
    (hg : g.method = m) (hml : g.locals.size = c.maxLocals) (hs : g.stack = argsL.reverse ++ rest) (hd : decode c.code g.pc = .ok (.invokestatic index, 3)) (hlen : ∀ sig, parseMethodDescriptor y.desc = some sig → argsL.length = sig.parameters.length)
    {W : Nat} {c1 s1 : Nat} (h1 : cells + rm.cells = c1 := by rfl) (h2 : slots + rm.slots = s1 := by rfl) (hW : 2 * g.monitorRoom + (rest.map fun v => v.category).sum ≤ W := by show 2 * 0 + _ ≤ _; exact Nat.le_of_eq rfl) (hf : rm.frames + 1 ≤ R.frames := by decide) (hl : W + (maxL + 11) + rm.locals ≤ R.locals := by decide) (hc : c1 ≤ R.cells := by decide) (hsl : s1 ≤ R.slots := by decide) (hy : y.cls ≠ "java/lang/invoke/MethodHandle" ∧ y.cls ≠ "java/lang/invoke/VarHandle" := by decide) :
    ∃ v T' L, Stand p l e R s m args below meth c T' (locs ++ L) c1 s1 ∧ Q v T'.heap L ∧ ∀ target, Steps p.tables e below (T'.setTop { g with pc := g.pc + 3, stack := v.toList ++ rest }) target → Steps p.tables e below (T.setTop g) target := by
  subst h1 h2
  obtain ⟨v, _, ⟨T', L', k', n'⟩, -, X', ⟨L, hQ, l1, y1, z1⟩, st⟩ := Jvm.LawKit.callS X hx (y := y) hown (mvT hZ w1) (mvT hZ w4) (mvT hZ wz) (mvT hZ wc) hy (backOf (W := W) hM hZ wc wz hf hl) hg hml hlen hs hW hd (fun _ _ => ⟨rfl, eT, hc, hsl⟩)
  dsimp only [Pt.U, Pt.locs, Pt.cells, Pt.slots] at X' l1 y1 z1 st hQ
  subst l1 y1 z1
  exact ⟨v, T', L, X', hQ, st⟩
theorem own_pb (X : Stand p l e R s m args below meth c T locs cells slots) (hx : p.tables.exec = Jvm.exec) (hZ : Z.Warmed39 s.vm) (hown : s.vm.findClass own = some m.cls)
    (w1 : (Cond.methodLink own index y).before a0 Z = true) (w4 : (Cond.instanceMethod y).before a0 Z = true) (w3 : (Cond.selects y.cls y y).before args s = true) (wp : (Cond.privateMethod y).before a0 Z = true) (wc : (Cond.code y bytes maxL ret).before a0 Z = true) (wz : (Cond.initialized y.cls).before a0 Z = true)
    (eT : T.heap = h) (E : Exa Z h a C)
    (hM : MetFree l y (head1 [Cond.code y bytes maxL ret] rm) (fun a' U => a' = (Value.ref a :: argsL).toArray ∧ Z.Warmed39 U.vm ∧ U.heap = h) (fun _ _ _ _ _ => True) (fun _ U o U' => ∃ v L, o = .returned v ∧ Q v U'.heap L ∧ FrameEnd U o U' L rm.cells rm.slots))
    (hg : g.method = m) (hml : g.locals.size = c.maxLocals) (hs : g.stack = argsL.reverse ++ .ref a :: rest) (hd : decode c.code g.pc = .ok (.invokevirtual index, 3)) (hlen : ∀ sig, parseMethodDescriptor y.desc = some sig → argsL.length = sig.parameters.length)
    {W : Nat} {c1 s1 : Nat} (h1 : cells + rm.cells = c1 := by rfl) (h2 : slots + rm.slots = s1 := by rfl) (hW : 2 * g.monitorRoom + (rest.map fun v => v.category).sum ≤ W := by show 2 * 0 + _ ≤ _; exact Nat.le_of_eq rfl) (hf : rm.frames + 1 ≤ R.frames := by decide) (hl : W + (maxL + 11) + rm.locals ≤ R.locals := by decide) (hc : c1 ≤ R.cells := by decide) (hsl : s1 ≤ R.slots := by decide) (hy : y.cls ≠ "java/lang/invoke/MethodHandle" ∧ y.cls ≠ "java/lang/invoke/VarHandle" := by decide) :
    ∃ v T' L, Stand p l e R s m args below meth c T' (locs ++ L) c1 s1 ∧ Q v T'.heap L ∧ ∀ target, Steps p.tables e below (T'.setTop { g with pc := g.pc + 3, stack := v.toList ++ rest }) target → Steps p.tables e below (T.setTop g) target := by
  subst h1 h2
  obtain ⟨cq, q1, q2⟩ := E.cell
  obtain ⟨v, _, ⟨T', L', k', n'⟩, -, X', ⟨L, hQ, l1, y1, z1⟩, st⟩ := X.privateBack hx (y := y) hown (mvT hZ w1) (mvT hZ w4) w3 (Cond.privateMethod_at (mvP hZ wp (args := #[]))) (mvT hZ wc) hy (backOf (W := W) hM hZ wc wz hf hl) hg hml (Steps.refl _) (a := a) (by rw [eT]; exact q1) q2 hlen hs hW hd (fun _ _ => ⟨rfl, eT, hc, hsl⟩)
  dsimp only [Pt.U, Pt.locs, Pt.cells, Pt.slots] at X' l1 y1 z1 st hQ
  subst l1 y1 z1
  exact ⟨v, T', L, X', hQ, fun t k => st.trans k⟩
theorem own_sr (X : Stand p l e R s m args below meth c T locs cells slots) (hx : p.tables.exec = Jvm.exec) (hZ : Z.Warmed39 s.vm) (hown : s.vm.findClass own = some m.cls)
    (w1 : (Cond.methodRef own index y).before a0 Z = true) (w4 : (Cond.instanceMethod y).before a0 Z = true) (wc : (Cond.code y bytes maxL none).before a0 Z = true) (wz : (Cond.initialized y.cls).before a0 Z = true)
    (eT : T.heap = h)
    (hM : MetFree l y (head1 [Cond.code y bytes maxL none] rm) (fun a' U => a' = (Value.ref a :: argsL).toArray ∧ Z.Warmed39 U.vm ∧ U.heap = h) (fun _ _ _ _ _ => True) (fun _ U o U' => ∃ v L, o = .returned v ∧ Q v U'.heap L ∧ FrameEnd U o U' L rm.cells rm.slots))
    (hg : g.method = m) (hml : g.locals.size = c.maxLocals) (hs : g.stack = argsL.reverse ++ .ref a :: rest) (hd : decode c.code g.pc = .ok (.invokespecial index, 3)) (hlen : ∀ sig, parseMethodDescriptor y.desc = some sig → argsL.length = sig.parameters.length)
    {W : Nat} {c1 s1 : Nat} (hn : y.name = "<init>" := by rfl) (h1 : cells + rm.cells = c1 := by rfl) (h2 : slots + rm.slots = s1 := by rfl) (hW : 2 * g.monitorRoom + (rest.map fun v => v.category).sum ≤ W := by show 2 * 0 + _ ≤ _; exact Nat.le_of_eq rfl) (hf : rm.frames + 1 ≤ R.frames := by decide) (hl : W + (maxL + 11) + rm.locals ≤ R.locals := by decide) (hc : c1 ≤ R.cells := by decide) (hsl : s1 ≤ R.slots := by decide) (hy : y.cls ≠ "java/lang/invoke/MethodHandle" ∧ y.cls ≠ "java/lang/invoke/VarHandle" := by decide) :
    ∃ v T' L, Stand p l e R s m args below meth c T' (locs ++ L) c1 s1 ∧ Q v T'.heap L ∧ ∀ target, Steps p.tables e below (T'.setTop { g with pc := g.pc + 3, stack := v.toList ++ rest }) target → Steps p.tables e below (T.setTop g) target := by
  subst h1 h2
  have hZT : Z.Warmed39 T.vm := wtrans hZ X.warmed
  obtain ⟨oz, mz, nz, -⟩ := Cond.instanceMethod_spec w4
  have r1 : (Cond.methodRef own index y).before a0 (Z.setVm T.vm) = true := Cond.methodRef_warmed39 hZT nz hy w1
  have fT : (Z.setVm T.vm).vm.findClass own = some m.cls := by show T.vm.findClass own = _; rw [X.warmed.alike.findClass]; exact hown
  obtain ⟨m1, c', hm1, hready, hfind, hnames⟩ := Cond.methodRef_named e fT r1
  obtain ⟨obj, methO, hnO, hmO, hstO, habO⟩ := Cond.instanceMethod_spec (mvT (args := args) hZ w4)
  obtain ⟨methO', cO, hmO', hcO, hbO, hlO, -, hlockO, -, hsigO⟩ := Cond.code_spec hnO (mvT (args := args) hZ wc)
  cases hmO.symm.trans hmO'
  have nT : (Z.setVm T.vm).methodNamed? y = some obj := X.named hnO
  obtain rfl : m1 = obj := (Option.some.inj ((State.methodFound?_of_named nT hy).symm.trans hm1)).symm
  have cT : (Z.setVm T.vm).vm.findClass y.cls = some m1.cls := findClass_of_methodNamed nT
  obtain rfl : c' = m1.cls := (Option.some.inj (cT.symm.trans hfind)).symm
  obtain ⟨kO, hkO, hnameO⟩ := className_of_methodNamed nT
  obtain ⟨hnameMO, hdescO⟩ := name_of_methodNamed hnO hmO
  have hmT : T.vm.method? m1 = some methO := by rw [X.warmed.alike.method?]; exact hmO
  have hfound : lookupSpecial T.vm m1.cls "<init>" methO.desc = .method m1 := by
    rw [X.warmed.alike.lookupSpecial, hdescO, ← hn]; exact lookupSpecial_of_named hnO hmO hstO
  have hstep : ∀ target, (∀ acts, Steps p.tables e below (doInvoke e (T.setTop { g with stack := rest }) acts m1 (.ref a :: argsL).toArray).1 target) → Steps p.tables e below (T.setTop g) target := by
    intro target hrest
    subst hg
    jvm_step X.here [hx, hd, invokespecial.wp_init (e := e) (s := T) (k := kO) (meth := methO) (m := m1) (a := a) (args := argsL) (rest := rest) (f := g) X.here.top hnames hready hkO hmT (by rw [hnameMO]; exact hn) hstO habO hfound (hlen _ hsigO) hs]
    exact hrest
  obtain ⟨v, ⟨T', L', k', n'⟩, X', ⟨L, hQ, l1, y1, z1⟩, st⟩ := backOf (len := 3) (W := W) (p := p) (e := e) (below := below) (args := args) (R := R) hM hZ wc wz hf hl m meth c ⟨T, locs, cells, slots⟩ { g with stack := rest } (.invokespecial index) m1 (.ref a :: argsL).toArray X hg hml hd hW (X.named hnO) ⟨rfl, eT, hc, hsl⟩
  dsimp only [Pt.U, Pt.locs, Pt.cells, Pt.slots] at X' l1 y1 z1 st hQ
  subst l1 y1 z1
  exact ⟨v, T', L, X', hQ, fun t k => (hstep _ fun acts => by rw [doInvoke_state]; exact Steps.refl _).trans (st.trans k)⟩
theorem own_ib {count : Nat} (X : Stand p l e R s m args below meth c T locs cells slots) (hx : p.tables.exec = Jvm.exec) (hZ : Z.Warmed39 s.vm) (hown : s.vm.findClass own = some m.cls)
    (w1 : (Cond.methodLink own index z).before a0 Z = true) (w2 : (Cond.declares z).before a0 Z = true) (w5 : (Cond.interfaceMethod z.cls z.cls z.name z.desc).before args s = true) (w3 : (Cond.selects C z y).before a0 Z = true) (w4 : (Cond.instanceMethod y).before a0 Z = true) (w6 : (Cond.publicMethod y).before a0 Z = true) (w7 : (Cond.unhidden C z.name z.desc).before args s = true) (w8 : (Cond.castable C z.cls).before a0 Z = true) (wc : (Cond.code y bytes maxL ret).before a0 Z = true) (wz : (Cond.initialized y.cls).before a0 Z = true)
    (eT : T.heap = h) (E : Exa Z h a C)
    (hM : MetFree l y (head1 [Cond.code y bytes maxL ret] rm) (fun a' U => a' = (Value.ref a :: argsL).toArray ∧ Z.Warmed39 U.vm ∧ U.heap = h) (fun _ _ _ _ _ => True) (fun _ U o U' => ∃ v L, o = .returned v ∧ Q v U'.heap L ∧ FrameEnd U o U' L rm.cells rm.slots))
    (hg : g.method = m) (hml : g.locals.size = c.maxLocals) (hs : g.stack = argsL.reverse ++ .ref a :: rest) (hd : decode c.code g.pc = .ok (.invokeinterface index count, 5)) (hlen : ∀ sig, parseMethodDescriptor z.desc = some sig → argsL.length = sig.parameters.length)
    {W : Nat} {c1 s1 : Nat} (h1 : cells + rm.cells = c1 := by rfl) (h2 : slots + rm.slots = s1 := by rfl) (hW : 2 * g.monitorRoom + (rest.map fun v => v.category).sum ≤ W := by show 2 * 0 + _ ≤ _; exact Nat.le_of_eq rfl) (hf : rm.frames + 1 ≤ R.frames := by decide) (hl : W + (maxL + 11) + rm.locals ≤ R.locals := by decide) (hc : c1 ≤ R.cells := by decide) (hsl : s1 ≤ R.slots := by decide) (hy : z.cls ≠ "java/lang/invoke/MethodHandle" ∧ z.cls ≠ "java/lang/invoke/VarHandle" := by decide) :
    ∃ v T' L, Stand p l e R s m args below meth c T' (locs ++ L) c1 s1 ∧ Q v T'.heap L ∧ ∀ target, Steps p.tables e below (T'.setTop { g with pc := g.pc + 5, stack := v.toList ++ rest }) target → Steps p.tables e below (T.setTop g) target := by
  subst h1 h2
  obtain ⟨cB, kB, q1, q2, q3⟩ := isOf hZ eT E
  obtain ⟨v, _, ⟨T', L', k', n'⟩, -, X', ⟨L, hQ, l1, y1, z1⟩, st⟩ := X.interfaceBack hx (xi := z) (y := y) hown (mvT hZ w1) (mvT hZ w2) w5 (mvT hZ w3) (mvT hZ w4) (mvT hZ w6) w7 (mvT hZ w8) hy (backOf (W := W) hM hZ wc wz hf hl) q1 q2 q3 hg hml (Steps.refl _) hlen hs hW hd (fun _ _ => ⟨rfl, eT, hc, hsl⟩)
  dsimp only [Pt.U, Pt.locs, Pt.cells, Pt.slots] at X' l1 y1 z1 st hQ
  subst l1 y1 z1
  exact ⟨v, T', L, X', hQ, fun t k => st.trans k⟩
end Calls
theorem own_oz {Z : State} {n0 : Nat} {h : Heap} (O : Old Z n0 h) : n0 ≤ h.size := by
  rw [← O.1]; exact O.2.1
theorem own_lsw {tb : Tables} [Ours tb] {e : Env} {below : List Frame} {T target : State} {m : MethodId} {c : Code} {g : JFrame} (h : At T m c below) (hx : tb.exec = Jvm.exec) (hg : g.method = m) {dflt : Int} {prs : Array (Int × Int)} {len : Nat} {o : Int} {pc0 pc' : Nat} (hpc : g.pc = pc0) (hd : decode c.code g.pc = .ok (.lookupswitch dflt prs, len)) {i : Int32} {rest : List Value} (hs : g.stack = .int i :: rest)
    (hsort : (prs.toList.zip (prs.toList.drop 1)).all (fun (a, next) => a.1 < next.1) = true) (hoff : lookupswitch.offset prs.toList dflt i.toInt = o) (ho : 0 ≤ (pc0 : Int) + o) (hp : ((pc0 : Int) + o).toNat = pc')
    (hr : Steps tb e below (T.setTop { g with pc := pc', stack := rest }) target) : Steps tb e below (T.setTop g) target := by
  subst hg hpc hp
  jvm_step h [h.top, hx, hd, hs, hoff, ho, lookupswitch.wp_chain]
  exact ⟨by simpa using hsort, hr⟩
section Nums
variable {x k : Int32} {n : Int}
theorem own_lt1 (hk : k.toInt = n) (h : x < k) : x.toInt < n := by rw [← hk]; exact Int32.lt_iff_toInt_lt.mp h
theorem own_lt2 (hk : k.toInt = n) (h : k < x) : n < x.toInt := by rw [← hk]; exact Int32.lt_iff_toInt_lt.mp h
theorem own_nlt1 (hk : k.toInt = n) (h : ¬ x < k) : n ≤ x.toInt := by rw [Int32.lt_iff_toInt_lt, hk] at h; omega
theorem own_nlt2 (hk : k.toInt = n) (h : ¬ k < x) : x.toInt ≤ n := by rw [Int32.lt_iff_toInt_lt, hk] at h; omega
theorem own_eq (hk : k.toInt = n) (h : x = k) : x.toInt = n := by rw [← hk, h]
theorem own_neq (hk : k.toInt = n) (h : ¬ x = k) : x.toInt ≠ n := fun q => h (Int32.toInt_inj.mp (by rw [hk, q]))
theorem own_glt1 (hk : k.toInt = n) (h : x.toInt < n) : x < k := Int32.lt_iff_toInt_lt.mpr (by rw [hk]; exact h)
theorem own_glt2 (hk : k.toInt = n) (h : n < x.toInt) : k < x := Int32.lt_iff_toInt_lt.mpr (by rw [hk]; exact h)
theorem own_gnlt1 (hk : k.toInt = n) (h : n ≤ x.toInt) : ¬ x < k := fun q => by have := own_lt1 hk q; omega
theorem own_gnlt2 (hk : k.toInt = n) (h : x.toInt ≤ n) : ¬ k < x := fun q => by have := own_lt2 hk q; omega
theorem own_geq (hk : k.toInt = n) (h : x.toInt = n) : x = k := Int32.toInt_inj.mp (by rw [hk, h])
theorem own_gneq (hk : k.toInt = n) (h : x.toInt ≠ n) : ¬ x = k := fun q => h (own_eq hk q)
theorem own_and (hk : k.toInt = n) (h0 : 0 ≤ n) : 0 ≤ (x &&& k).toInt ∧ (x &&& k).toInt ≤ n := by have := c_and x k (by rw [hk]; exact h0); rw [hk] at this; exact this
theorem own_and2 (hk : k.toInt = n) (h0 : 0 ≤ n) : 0 ≤ (k &&& x).toInt ∧ (k &&& x).toInt ≤ n := by have := c_and' k x (by rw [hk]; exact h0); rw [hk] at this; exact this
theorem own_rem (hk : k.toInt = n) (h0 : 0 < n) (hx : 0 ≤ x.toInt) : 0 ≤ (x % k).toInt ∧ (x % k).toInt < n ∧ (x % k).toInt ≤ x.toInt := by
  have := (c_iremV x k).1 hx (by rw [hk]; exact h0); rw [hk] at this; exact ⟨this.1, this.2.1, this.2.2.1⟩
theorem own_add {lo hi : Int} (hk : k.toInt = n) (hx : lo ≤ x.toInt ∧ x.toInt ≤ hi) (h1 : -2147483648 ≤ lo + n) (h2 : hi + n < 2147483648) : lo + n ≤ (x + k).toInt ∧ (x + k).toInt ≤ hi + n := by
  have := c_iadd x k; have := rng32 (x + k); rw [hk] at *; omega
theorem own_add2 {lo hi : Int} (hk : k.toInt = n) (hx : lo ≤ x.toInt ∧ x.toInt ≤ hi) (h1 : -2147483648 ≤ lo + n) (h2 : hi + n < 2147483648) : lo + n ≤ (k + x).toInt ∧ (k + x).toInt ≤ hi + n := by
  have := c_iadd k x; have := rng32 (k + x); rw [hk] at *; omega
end Nums
theorem own_len {Z : State} {args : Array Value} {t : Term} {a : Addr} {c : Cell} {ty : FieldType} {n : Int32} (A : Arr Z Z.heap a c ty) (ev : t.eval args Z none [] Z = some (.ref a)) (h : (Term.length t).eval args Z none [] Z = some (.int n)) : c.slots.size < 2 ^ 31 ∧ c.slots.size.toInt32 = n := by
  have q := A.fin (Vm.Alike.refl _)
  by_cases z : c.slots.size < 2 ^ 31
  · rw [len_f ev q z] at h; exact ⟨z, Value.int.inj (Option.some.inj h)⟩
  · simp [Term.eval, ev, q, z] at h
theorem own_selp {s : State} {args : Array Value} {y z : MethodName} {C : String} (w : (Cond.selects C z z).before args s = true) (hc : z.cls = y.cls) (hp : s.PrivateAt y) (hi : (Cond.instanceMethod y).before args s = true) (hy : y.cls ≠ "java/lang/invoke/MethodHandle" ∧ y.cls ≠ "java/lang/invoke/VarHandle") : (Cond.selects y.cls y y).before args s = true := by
  obtain ⟨c2, r2, m2, -, -, q3, -, kP, hkP, hkPi⟩ := Cond.selects_spec w
  exact selects_self_of_private (by rw [← hc]; exact findClass_of_methodNamed q3) hkP hkPi hp hi hy
theorem own_max64 (x : Int64) : ¬ (9223372036854775807 : Int64) < x := fun h => by have := rng64 x; rw [Int64.lt_iff_toInt_lt, show (9223372036854775807 : Int64).toInt = 9223372036854775807 by decide] at h; omega
theorem own_min64 (x : Int64) : ¬ x < (-9223372036854775808 : Int64) := fun h => by have := rng64 x; rw [Int64.lt_iff_toInt_lt, show (-9223372036854775808 : Int64).toInt = -9223372036854775808 by decide] at h; omega
theorem own_root {Z : State} {a0 : Array Value} {O K : String} {n : Nat} (w : (Cond.noSuperclass O).before a0 Z = true) (wk : (Cond.instantiable K n).before a0 Z = true) (hn : O ≠ K) : NS Z O K := by
  obtain ⟨c, k, h1, h2, h3, -, -⟩ := Cond.noSuperclass_spec w
  obtain ⟨t, kt, g1, -⟩ := Cond.instantiable_spec wk
  have ne := ids_ne h1 g1 hn
  refine ⟨c, t, h1, g1, fun fuel => ?_⟩
  cases fuel with
  | zero => rfl
  | succ f => simp [Vm.isSubclassAux, ne, h2, h3]
theorem own_no {Z : State} {a0 : Array Value} {C S K : String} {n : Nat} (w : (Cond.superclass C S).before a0 Z = true) (wk : (Cond.instantiable K n).before a0 Z = true) (q : NS Z C K) (hn : C ≠ K) : ∃ c t, Z.vm.findClass C = some c ∧ Z.vm.findClass K = some t ∧ Z.vm.assignable c t = false := by
  obtain ⟨c, t, h0, g0, n3⟩ := q
  obtain ⟨p, k, kp, h1, h2, h3, h4, h5, -, h7⟩ := Cond.superclass_spec h0 w
  obtain ⟨t', k', g1, g2, g3, g4, -⟩ := Cond.instantiable_spec wk
  cases g0.symm.trans g1
  have ne := ids_ne h0 g0 hn
  have g5 : k'.isInterface = false := by simp only [Bool.or_eq_false_iff] at g4; exact g4.1
  refine ⟨c, t, h0, g0, ?_⟩
  show Z.vm.assignableAux (255 + 1) c t = false
  simp [Vm.assignableAux, ne, h2, g2, h5, g3, g5, Vm.isSubclass, n3]
theorem own_sub {x k : Int32} {n lo hi : Int} (hk : k.toInt = n) (hx : lo ≤ x.toInt ∧ x.toInt ≤ hi) (h1 : -2147483648 ≤ lo - n) (h2 : hi - n < 2147483648) : lo - n ≤ (x - k).toInt ∧ (x - k).toInt ≤ hi - n := by
  have := c_isub x k; have := rng32 (x - k); rw [hk] at *; omega
theorem own_dbl {x : Int32} {lo hi : Int} (hx : lo ≤ x.toInt ∧ x.toInt ≤ hi) (h1 : -1073741824 ≤ lo) (h2 : hi < 1073741824) : 2 * lo ≤ ((2 : Int32) * x).toInt ∧ ((2 : Int32) * x).toInt ≤ 2 * hi := by
  have := c_imul 2 x; have := rng32 (2 * x); rw [show (2 : Int32).toInt = 2 by decide] at *; omega
theorem own_nz {x : Int32} (h : 0 ≤ x.toInt ∧ x.toInt ≤ 1) : nar .boolean x = x := by
  have q : x = 0 ∨ x = 1 := by
    rcases (by omega : x.toInt = 0 ∨ x.toInt = 1) with q | q
    · exact Or.inl (own_geq (by decide) q)
    · exact Or.inr (own_geq (by decide) q)
  rcases q with rfl | rfl <;> decide
theorem own_fz {x : Int32} (h : 0 ≤ x.toInt ∧ x.toInt ≤ 1) : fits .boolean (.int x) = true := by
  have q : x = 0 ∨ x = 1 := by
    rcases (by omega : x.toInt = 0 ∨ x.toInt = 1) with q | q
    · exact Or.inl (own_geq (by decide) q)
    · exact Or.inr (own_geq (by decide) q)
  rcases q with rfl | rfl <;> decide
theorem own_nb8 (x : Int32) : nar .byte (x.toInt8.toInt32) = x.toInt8.toInt32 := by
  show (x.toInt8.toInt32).toInt8.toInt32 = x.toInt8.toInt32
  simp
theorem own_ldcF {p : Program} {l : Launch} {e : Env} {R : Room} {s : State} {m : MethodId} {args : Array Value} {below : List Frame} {meth : Method} {c : Code} {T : State} {locs : List Loc} {cells slots : Nat} {Z : State} {a0 : Array Value} {own : String} {index : Nat} {b : UInt32} {g : JFrame}
    (X : Stand p l e R s m args below meth c T locs cells slots) (hx : p.tables.exec = Jvm.exec) (hZ : Z.Warmed39 s.vm) (hown : s.vm.findClass own = some m.cls) (w : (Cond.constantFloat own index b).before a0 Z = true) (hg : g.method = m) (hd : decode c.code g.pc = .ok (.ldc index, 2)) :
    ∀ target, Steps p.tables e below (T.setTop { g with pc := g.pc + 2, stack := .float b :: g.stack }) target → Steps p.tables e below (T.setTop g) target := by
  obtain ⟨k, cf, h1, h2, h3⟩ := Cond.constantFloat_spec hown (mvT (args := args) hZ w)
  exact X.ldcFloat hx h1 h2 h3 hg hd
theorem own_eqR {Z : State} {args : Array Value} {a b : Term} {idx : List Nat} {w : Addr} (hb : b.eval args Z none idx Z = some (.ref w)) (h : (Cond.eq a b).value args Z none Z idx = some true) : a.eval args Z none idx Z = some (.ref w) := by
  simp only [Cond.value, hb] at h
  cases ht : a.eval args Z none idx Z with
  | none => simp [ht] at h
  | some x => cases x <;> simp [ht] at h ⊢; exact h
theorem own_ub (x : Int32) : ((x.toInt8.toInt32) &&& (255 : Int32)).toInt = x.toInt % 256 := by
  rw [c_mask (x.toInt8.toInt32) 255 8 (by decide) (by decide)]
  have := c_i2b x
  rw [show ((2 ^ 8 : Nat) : Int) = 256 by decide]; omega
theorem own_r8 {x : Int32} (h : 0 ≤ x.toInt) : ((x.toUInt32 >>> ((8 : Int32) &&& 31).toUInt32).toInt32).toInt = x.toInt / 256 := by
  rw [c_iushr x 8 8 (by decide) (by decide)]; have := rng32 x
  rw [show ((2 ^ 8 : Nat) : Int) = 256 by decide]; omega
theorem own_nat {x : Int32} (h : 0 ≤ x.toInt) : (x.toBitVec.toNat : Int) = x.toInt := by
  have e : x.toInt = x.toBitVec.toInt := rfl
  rw [e] at h ⊢
  rw [BitVec.toInt_eq_toNat_cond] at h ⊢
  split at h <;> rename_i q
  · rw [if_pos q]
  · have := x.toBitVec.isLt; omega
theorem own_shor {a b : Int32} (ha : 0 ≤ a.toInt ∧ a.toInt < 8388608) (hb : 0 ≤ b.toInt ∧ b.toInt ≤ 255) : ((a <<< ((8 : Int32) &&& 31)) ||| b).toInt = a.toInt * 256 + b.toInt := by
  have s := c_ishl a 8 8 (by decide)
  rw [show ((2 ^ 8 : Nat) : Int) = 256 by decide] at s
  have r := rng32 (a <<< ((8 : Int32) &&& 31))
  have e1 : (a <<< ((8 : Int32) &&& 31)).toInt = a.toInt * 256 := by omega
  generalize hy : a <<< ((8 : Int32) &&& 31) = y at *
  have n1 := own_nat (x := y) (by omega)
  have n2 := own_nat hb.1
  have n3 := own_nat ha.1
  have ey : y.toBitVec.toNat = a.toBitVec.toNat <<< 8 := by rw [Nat.shiftLeft_eq]; omega
  have eo : (y ||| b).toBitVec.toNat = y.toBitVec.toNat + b.toBitVec.toNat := by
    rw [Int32.toBitVec_or, BitVec.toNat_or, ey, ← Nat.shiftLeft_add_eq_or_of_lt (by omega)]
  have lt : (y ||| b).toBitVec.toNat < 2147483648 := by omega
  have ei : (y ||| b).toInt = ((y ||| b).toBitVec.toNat : Int) := by
    show (y ||| b).toBitVec.toInt = _
    rw [BitVec.toInt_eq_toNat_cond, if_pos (by omega)]
  rw [ei, eo]; omega
theorem own_g1 {x : Int32} (h : 0 ≤ x.toInt ∧ x.toInt ≤ 255) : ((x.toInt8.toInt32) &&& (255 : Int32)) = x :=
  Int32.toInt_inj.mp (by rw [own_ub]; omega)
theorem own_g2 {x : Int32} (h : 0 ≤ x.toInt ∧ x.toInt ≤ 65535) : ((((((x.toUInt32 >>> ((8 : Int32) &&& 31).toUInt32).toInt32).toInt8.toInt32) &&& (255 : Int32)) <<< ((8 : Int32) &&& 31)) ||| ((x.toInt8.toInt32) &&& (255 : Int32))) = x := by
  have a := own_ub ((x.toUInt32 >>> ((8 : Int32) &&& 31).toUInt32).toInt32)
  have b := own_ub x
  have r := own_r8 h.1
  exact Int32.toInt_inj.mp (by rw [own_shor (by omega) (by omega), a, b, r]; omega)
theorem own_g3 {x : Int32} (h : 0 ≤ x.toInt ∧ x.toInt ≤ 16777215) : ((((((((((x.toUInt32 >>> ((8 : Int32) &&& 31).toUInt32).toInt32).toUInt32 >>> ((8 : Int32) &&& 31).toUInt32).toInt32).toInt8.toInt32) &&& (255 : Int32)) <<< ((8 : Int32) &&& 31)) ||| ((((x.toUInt32 >>> ((8 : Int32) &&& 31).toUInt32).toInt32).toInt8.toInt32) &&& (255 : Int32))) <<< ((8 : Int32) &&& 31)) ||| ((x.toInt8.toInt32) &&& (255 : Int32))) = x := by
  have r := own_r8 h.1
  rw [own_g2 (x := (x.toUInt32 >>> ((8 : Int32) &&& 31).toUInt32).toInt32) (by omega)]
  have b := own_ub x
  exact Int32.toInt_inj.mp (by rw [own_shor (by omega) (by omega), b, r]; omega)
section Y
variable {p : Program} {l : Launch} {e : Env} {R : Room} {s : State} {m : MethodId} {args : Array Value} {below : List Frame} {meth : Method} {c : Code} {T : State} {locs : List Loc} {cells slots : Nat} {Z : State} {a0 : Array Value} {h : Heap} {code : ByteArray} {pc : Nat} {L : Array Slot} {S : List Value} {t : State}
theorem yg (X : Stand p l e R s m args below meth c T locs cells slots) (hx : p.tables.exec = Jvm.exec) (hZ : Z.Warmed39 s.vm) {own R0 n d : String} {index : Nat} (hown : s.vm.findClass own = some m.cls) (hby : c.code = code) (w : (Cond.fieldLink own index R0 n d).before a0 Z = true) (eT : T.heap = h) {a : Addr} {v : Value} (F : Fld Z h a R0 n d v) (pc : Nat) (L : Array Slot) (rest : List Value) (hd : decode code pc = .ok (.getfield index, 3)) :
    ∃ T', Stand p l e R s m args below meth c T' locs cells slots ∧ T'.heap = h ∧ ∀ t, Steps p.tables e below (T'.setTop (mkF m (pc + 3) L (v :: rest))) t → Steps p.tables e below (T.setTop (mkF m pc L (.ref a :: rest))) t :=
  getF X hx hZ hown (host := "") (Or.inl w) Via.refl eT F (g := mkF m pc L (.ref a :: rest)) rfl rfl (hb hby hd)
theorem yag (X : Stand p l e R s m args below meth c T locs cells slots) (hx : p.tables.exec = Jvm.exec) (hZ : Z.Warmed39 s.vm) {own R0 n d : String} {index : Nat} (hown : s.vm.findClass own = some m.cls) (hby : c.code = code) (w : (Cond.fieldLink own index R0 n d).before a0 Z = true) (eT : T.heap = h) {a : Addr} {v : Value} (F : Fld Z h a R0 n d v) (pc : Nat) (L : Array Slot) (rest : List Value) {k : Fin 4} (hd0 : decode code pc = .ok (.aload_n k, 1)) (hd : decode code (pc + 1) = .ok (.getfield index, 3)) (hl : L[k.val]? = some (.val (.ref a))) :
    ∃ T', Stand p l e R s m args below meth c T' locs cells slots ∧ T'.heap = h ∧ ∀ t, Steps p.tables e below (T'.setTop (mkF m (pc + 1 + 3) L (v :: rest))) t → Steps p.tables e below (T.setTop (mkF m pc L rest)) t := by
  obtain ⟨T', X', e', st⟩ := yg X hx hZ hown hby w eT F (pc + 1) L rest hd
  exact ⟨T', X', e', fun t k => XS.aloadN X.here hx rfl (hb hby hd0) hl rfl (st t k)⟩
theorem yan (X : Stand p l e R s m args below meth c T locs cells slots) (hx : p.tables.exec = Jvm.exec) (hby : c.code = code) {k : Fin 4} {v : Value} (hd : decode code pc = .ok (.aload_n k, 1)) (hl : L[k.val]? = some (.val v)) (hv : v.isRef = true) (hr : Steps p.tables e below (T.setTop (mkF m (pc + 1) L (v :: S))) t) : Steps p.tables e below (T.setTop (mkF m pc L S)) t := XS.aloadN X.here hx rfl (hb hby hd) hl hv hr
theorem yal (X : Stand p l e R s m args below meth c T locs cells slots) (hx : p.tables.exec = Jvm.exec) (hby : c.code = code) {k : Nat} {v : Value} (hd : decode code pc = .ok (.aload k, 2)) (hl : L[k]? = some (.val v)) (hv : v.isRef = true) (hr : Steps p.tables e below (T.setTop (mkF m (pc + 2) L (v :: S))) t) : Steps p.tables e below (T.setTop (mkF m pc L S)) t := XS.aload X.here hx rfl (hb hby hd) hl hv hr
theorem yin (X : Stand p l e R s m args below meth c T locs cells slots) (hx : p.tables.exec = Jvm.exec) (hby : c.code = code) {k : Fin 4} {v : Int32} (hd : decode code pc = .ok (.iload_n k, 1)) (hl : L[k.val]? = some (.val (.int v))) (hr : Steps p.tables e below (T.setTop (mkF m (pc + 1) L (.int v :: S))) t) : Steps p.tables e below (T.setTop (mkF m pc L S)) t := XS.iloadN X.here hx rfl (hb hby hd) hl hr
theorem yil (X : Stand p l e R s m args below meth c T locs cells slots) (hx : p.tables.exec = Jvm.exec) (hby : c.code = code) {k : Nat} {v : Int32} (hd : decode code pc = .ok (.iload k, 2)) (hl : L[k]? = some (.val (.int v))) (hr : Steps p.tables e below (T.setTop (mkF m (pc + 2) L (.int v :: S))) t) : Steps p.tables e below (T.setTop (mkF m pc L S)) t := XS.iload X.here hx rfl (hb hby hd) hl hr
theorem yad (X : Stand p l e R s m args below meth c T locs cells slots) (hx : p.tables.exec = Jvm.exec) (hby : c.code = code) {x y : Int32} (hd : decode code pc = .ok (.iadd, 1)) (hr : Steps p.tables e below (T.setTop (mkF m (pc + 1) L (.int (x + y) :: S))) t) : Steps p.tables e below (T.setTop (mkF m pc L (.int y :: .int x :: S))) t := XS.iadd X.here hx rfl (hb hby hd) rfl hr
theorem ysu (X : Stand p l e R s m args below meth c T locs cells slots) (hx : p.tables.exec = Jvm.exec) (hby : c.code = code) {x y : Int32} (hd : decode code pc = .ok (.isub, 1)) (hr : Steps p.tables e below (T.setTop (mkF m (pc + 1) L (.int (x - y) :: S))) t) : Steps p.tables e below (T.setTop (mkF m pc L (.int y :: .int x :: S))) t := XS.isub X.here hx rfl (hb hby hd) rfl hr
theorem yis (X : Stand p l e R s m args below meth c T locs cells slots) (hx : p.tables.exec = Jvm.exec) (hby : c.code = code) {k : Nat} {x : Int32} {l' : Array Slot} (hd : decode code pc = .ok (.istore k, 2)) (hl : storeLocals L k (.int x) = some l') (hr : Steps p.tables e below (T.setTop (mkF m (pc + 2) l' S)) t) : Steps p.tables e below (T.setTop (mkF m pc L (.int x :: S))) t := XS.istore X.here hx rfl (hb hby hd) rfl hl hr
theorem yit (X : Stand p l e R s m args below meth c T locs cells slots) (hx : p.tables.exec = Jvm.exec) (hby : c.code = code) {k : Fin 4} {x : Int32} {l' : Array Slot} (hd : decode code pc = .ok (.istore_n k, 1)) (hl : storeLocals L k.val (.int x) = some l') (hr : Steps p.tables e below (T.setTop (mkF m (pc + 1) l' S)) t) : Steps p.tables e below (T.setTop (mkF m pc L (.int x :: S))) t := XS.istoreN X.here hx rfl (hb hby hd) rfl hl hr
theorem ygo (X : Stand p l e R s m args below meth c T locs cells slots) (hx : p.tables.exec = Jvm.exec) (hby : c.code = code) {o : Int} (pc0 pc' : Nat) (hpc : pc = pc0) (hd : decode code pc = .ok (.goto o, 3)) (ho : 0 ≤ (pc0 : Int) + o ∧ ((pc0 : Int) + o).toNat = pc') (hr : Steps p.tables e below (T.setTop (mkF m pc' L S)) t) : Steps p.tables e below (T.setTop (mkF m pc L S)) t := XS.goto X.here hx rfl (pc0 := pc0) (pc' := pc') hpc (hb hby hd) ho.1 ho.2 hr
theorem yye (X : Stand p l e R s m args below meth c T locs cells slots) (hx : p.tables.exec = Jvm.exec) (hby : c.code = code) {cd : ClassFile.Cond} {x y : Int32} {o : Int} (pc0 pc' : Nat) (hpc : pc = pc0) (hd : decode code pc = .ok (.if_icmp cd o, 3)) (hc : if_icmp.holds cd x y = true) (ho : 0 ≤ (pc0 : Int) + o ∧ ((pc0 : Int) + o).toNat = pc') (hr : Steps p.tables e below (T.setTop (mkF m pc' L S)) t) : Steps p.tables e below (T.setTop (mkF m pc L (.int y :: .int x :: S))) t := XS.icmpYes X.here hx rfl (pc0 := pc0) (pc' := pc') hpc (hb hby hd) rfl hc ho.1 ho.2 hr
theorem yno (X : Stand p l e R s m args below meth c T locs cells slots) (hx : p.tables.exec = Jvm.exec) (hby : c.code = code) {cd : ClassFile.Cond} {o : Int} {x y : Int32} (hd : decode code pc = .ok (.if_icmp cd o, 3)) (hc : if_icmp.holds cd x y = false) (hr : Steps p.tables e below (T.setTop (mkF m (pc + 3) L S)) t) : Steps p.tables e below (T.setTop (mkF m pc L (.int y :: .int x :: S))) t := XS.icmpNo X.here hx rfl (hb hby hd) rfl hc hr
end Y
abbrev Go (p : Program) (e : Env) (below : List Frame) (T : State) (f : JFrame) (E : State) : Prop := ∀ t, Steps p.tables e below (T.setTop f) t → Steps p.tables e below E t
abbrev MF (l : Launch) (x : MethodName) (code : ByteArray) (n : Nat) (r : Option FieldType) (ws : List Jvm.Cond) (R : Room) (A : Array Value) (Z : State) (h0 : Heap) (Q : Option Value → Heap → List Loc → Prop) : Prop :=
  MetFree l x (head1 (Jvm.Cond.code x code n r :: ws) R) (fun a U => a = A ∧ Z.Warmed39 U.vm ∧ U.heap = h0) (fun _ _ _ _ _ => True) (fun _ U o U' => ∃ v L, o = .returned v ∧ Q v U'.heap L ∧ FrameEnd U o U' L R.cells R.slots)
abbrev HW (a0 : Array Value) (Z : State) : Prop := ∀ d ∈ tables_1, d.before a0 Z = true

abbrev yn0 : MethodName := ⟨"com/example/driftless/driftless/CodePointsGetPinLaw", "cp", "(II)I"⟩
abbrev yn1 : MethodName := ⟨"com/example/driftless/driftless/CodePoints", "<init>", "()V"⟩
abbrev yn2 : MethodName := ⟨"com/example/driftless/driftless/CodePoints", "widthOf", "(I)I"⟩
abbrev yn3 : MethodName := ⟨"java/lang/Math", "max", "(II)I"⟩
abbrev yn4 : MethodName := ⟨"java/lang/Math", "min", "(II)I"⟩
abbrev yn5 : MethodName := ⟨"java/util/Arrays", "copyOf", "([BI)[B"⟩
abbrev yn6 : MethodName := ⟨"com/example/driftless/driftless/CodePoints", "set", "(II)V"⟩
abbrev yn7 : MethodName := ⟨"com/example/driftless/driftless/CodePoints", "widen", "(I)V"⟩
abbrev yn8 : MethodName := ⟨"com/example/driftless/driftless/CodePoints", "insert", "(I[III)V"⟩
abbrev yn9 : MethodName := ⟨"com/example/driftless/driftless/CodePoints", "get", "(I)I"⟩
abbrev yn10 : MethodName := ⟨"com/example/driftless/driftless/CodePoints", "length", "()I"⟩
def GW (Z : State) (w1 : Addr) (kw1 : ClassId) : Prop :=
  (Sta Z Z.heap "com/example/driftless/driftless/CodePoints" "NONE" "[B" (.ref w1))
  ∧ (Exa Z Z.heap w1 "[B")
  ∧ (Arv Z Z.heap w1 kw1 .byte (0 : Int32) [] (.int 0))
def Q0 (n0 : Nat) (v : Option Value) (h : Heap) (L : List Loc) : Prop := v = some (.int (1 : Int32)) ∧ Fr n0 L
theorem w_8 {a0 : Array Value} {Z : State} (hw : ∀ d ∈ tables_1, d.before a0 Z = true) : (Jvm.Cond.instantiable "com/example/driftless/driftless/CodePoints" (3 : Nat)).before a0 Z = true := own_w hw 8 rfl
theorem w_9 {a0 : Array Value} {Z : State} (hw : ∀ d ∈ tables_1, d.before a0 Z = true) : (Jvm.Cond.initialized "com/example/driftless/driftless/CodePoints").before a0 Z = true := own_w hw 9 rfl
theorem w_18 {a0 : Array Value} {Z : State} (hw : ∀ d ∈ tables_1, d.before a0 Z = true) : (Jvm.Cond.fieldLink "com/example/driftless/driftless/CodePoints" (13 : Nat) "com/example/driftless/driftless/CodePoints" "bytes" "[B").before a0 Z = true := own_w hw 18 rfl
theorem w_19 {a0 : Array Value} {Z : State} (hw : ∀ d ∈ tables_1, d.before a0 Z = true) : (Jvm.Cond.lays "com/example/driftless/driftless/CodePoints" "com/example/driftless/driftless/CodePoints" "bytes" "[B").before a0 Z = true := own_w hw 19 rfl
theorem w_20 {a0 : Array Value} {Z : State} (hw : ∀ d ∈ tables_1, d.before a0 Z = true) : (Jvm.Cond.fieldLink "com/example/driftless/driftless/CodePoints" (16 : Nat) "com/example/driftless/driftless/CodePoints" "width" "I").before a0 Z = true := own_w hw 20 rfl
theorem w_21 {a0 : Array Value} {Z : State} (hw : ∀ d ∈ tables_1, d.before a0 Z = true) : (Jvm.Cond.lays "com/example/driftless/driftless/CodePoints" "com/example/driftless/driftless/CodePoints" "width" "I").before a0 Z = true := own_w hw 21 rfl
theorem w_25 {a0 : Array Value} {Z : State} (hw : ∀ d ∈ tables_1, d.before a0 Z = true) : (Jvm.Cond.selects "com/example/driftless/driftless/CodePoints" ({ cls := "com/example/driftless/driftless/CodePoints", name := "insert", desc := "(I[III)V" } : Jvm.MethodName) ({ cls := "com/example/driftless/driftless/CodePoints", name := "insert", desc := "(I[III)V" } : Jvm.MethodName)).before a0 Z = true := own_w hw 25 rfl
theorem w_30 {a0 : Array Value} {Z : State} (hw : ∀ d ∈ tables_1, d.before a0 Z = true) : (Jvm.Cond.methodLink "com/example/driftless/driftless/CodePoints" (32 : Nat) ({ cls := "java/lang/Math", name := "max", desc := "(II)I" } : Jvm.MethodName)).before a0 Z = true := own_w hw 30 rfl
theorem w_31 {a0 : Array Value} {Z : State} (hw : ∀ d ∈ tables_1, d.before a0 Z = true) : (Jvm.Cond.static ({ cls := "java/lang/Math", name := "max", desc := "(II)I" } : Jvm.MethodName)).before a0 Z = true := own_w hw 31 rfl
theorem w_32 {a0 : Array Value} {Z : State} (hw : ∀ d ∈ tables_1, d.before a0 Z = true) : (Jvm.Cond.initialized "java/lang/Math").before a0 Z = true := own_w hw 32 rfl
theorem w_33 {a0 : Array Value} {Z : State} (hw : ∀ d ∈ tables_1, d.before a0 Z = true) : (Jvm.Cond.code ({ cls := "java/lang/Math", name := "max", desc := "(II)I" } : Jvm.MethodName) jdk_29_method_65_code (2 : Nat) (Option.some Jvm.ClassFile.FieldType.int)).before a0 Z = true := own_w hw 33 rfl
theorem w_34 {a0 : Array Value} {Z : State} (hw : ∀ d ∈ tables_1, d.before a0 Z = true) : (Jvm.Cond.fieldLink "com/example/driftless/driftless/CodePoints" (25 : Nat) "com/example/driftless/driftless/CodePoints" "length" "I").before a0 Z = true := own_w hw 34 rfl
theorem w_35 {a0 : Array Value} {Z : State} (hw : ∀ d ∈ tables_1, d.before a0 Z = true) : (Jvm.Cond.lays "com/example/driftless/driftless/CodePoints" "com/example/driftless/driftless/CodePoints" "length" "I").before a0 Z = true := own_w hw 35 rfl
theorem w_37 {a0 : Array Value} {Z : State} (hw : ∀ d ∈ tables_1, d.before a0 Z = true) : (Jvm.Cond.static ({ cls := "java/util/Arrays", name := "copyOf", desc := "([BI)[B" } : Jvm.MethodName)).before a0 Z = true := own_w hw 37 rfl
theorem w_38 {a0 : Array Value} {Z : State} (hw : ∀ d ∈ tables_1, d.before a0 Z = true) : (Jvm.Cond.initialized "java/util/Arrays").before a0 Z = true := own_w hw 38 rfl
theorem w_45 {a0 : Array Value} {Z : State} (hw : ∀ d ∈ tables_1, d.before a0 Z = true) : (Jvm.Cond.static ({ cls := "java/lang/System", name := "arraycopy", desc := "(Ljava/lang/Object;ILjava/lang/Object;II)V" } : Jvm.MethodName)).before a0 Z = true := own_w hw 45 rfl
theorem w_46 {a0 : Array Value} {Z : State} (hw : ∀ d ∈ tables_1, d.before a0 Z = true) : (Jvm.Cond.initialized "java/lang/System").before a0 Z = true := own_w hw 46 rfl
theorem w_47 {a0 : Array Value} {Z : State} (hw : ∀ d ∈ tables_1, d.before a0 Z = true) : (Jvm.Cond.native ({ cls := "java/lang/System", name := "arraycopy", desc := "(Ljava/lang/Object;ILjava/lang/Object;II)V" } : Jvm.MethodName)).before a0 Z = true := own_w hw 47 rfl
theorem w_49 {a0 : Array Value} {Z : State} (hw : ∀ d ∈ tables_1, d.before a0 Z = true) : (Jvm.Cond.methodLink "com/example/driftless/driftless/CodePoints" (28 : Nat) ({ cls := "com/example/driftless/driftless/CodePoints", name := "set", desc := "(II)V" } : Jvm.MethodName)).before a0 Z = true := own_w hw 49 rfl
theorem w_50 {a0 : Array Value} {Z : State} (hw : ∀ d ∈ tables_1, d.before a0 Z = true) : (Jvm.Cond.instanceMethod ({ cls := "com/example/driftless/driftless/CodePoints", name := "set", desc := "(II)V" } : Jvm.MethodName)).before a0 Z = true := own_w hw 50 rfl
theorem w_51 {a0 : Array Value} {Z : State} (hw : ∀ d ∈ tables_1, d.before a0 Z = true) : (Jvm.Cond.privateMethod ({ cls := "com/example/driftless/driftless/CodePoints", name := "set", desc := "(II)V" } : Jvm.MethodName)).before a0 Z = true := own_w hw 51 rfl
theorem d0_0 : decode method_2_code 0 = .ok (.iload_n 1, 1) := by decide +kernel
theorem d0_1 : decode method_2_code 1 = .ok (.ifCond .ne 9, 3) := by decide +kernel
theorem d0_4 : decode method_2_code 4 = .ok (.iload_n 0, 1) := by decide +kernel
theorem d0_5 : decode method_2_code 5 = .ok (.sipush 255, 3) := by decide +kernel
theorem d0_8 : decode method_2_code 8 = .ok (.iand, 1) := by decide +kernel
theorem d0_9 : decode method_2_code 9 = .ok (.ireturn, 1) := by decide +kernel
theorem d0_10 : decode method_2_code 10 = .ok (.iload_n 1, 1) := by decide +kernel
theorem d0_11 : decode method_2_code 11 = .ok (.iconst 1, 1) := by decide +kernel
theorem d0_12 : decode method_2_code 12 = .ok (.if_icmp .ne 8, 3) := by decide +kernel
theorem d0_15 : decode method_2_code 15 = .ok (.iload_n 0, 1) := by decide +kernel
theorem d0_16 : decode method_2_code 16 = .ok (.ldc 7, 2) := by decide +kernel
theorem d0_18 : decode method_2_code 18 = .ok (.iand, 1) := by decide +kernel
theorem d0_19 : decode method_2_code 19 = .ok (.ireturn, 1) := by decide +kernel
theorem d0_20 : decode method_2_code 20 = .ok (.iload_n 0, 1) := by decide +kernel
theorem d0_21 : decode method_2_code 21 = .ok (.ldc 8, 2) := by decide +kernel
theorem d0_23 : decode method_2_code 23 = .ok (.iand, 1) := by decide +kernel
theorem d0_24 : decode method_2_code 24 = .ok (.ldc 9, 2) := by decide +kernel
theorem d0_26 : decode method_2_code 26 = .ok (.irem, 1) := by decide +kernel
theorem d0_27 : decode method_2_code 27 = .ok (.ireturn, 1) := by decide +kernel
theorem pn0 : plainName "com/example/driftless/driftless/CodePointsGetPinLaw" = true := by first | (simp [plainName, overriddenIn]; done) | decide +kernel
def l20_0 (p1 p2 : Int32) : Array Slot := #[.val (.int p1), .val (.int p2)]
theorem ef1 (m : MethodId) (x0 x1 : Int32) : entryFrame m #[(.int x0), (.int x1)] 2 = mkF m 0 #[.val (.int x0), .val (.int x1)] [] := by first | (simp [entryFrame, mkF, argsToLocals, Value.category]; done) | rfl
def Q1 (Z : State) (p1 p2 : Int32) (h0 : Heap) (n0 : Nat) (v : Option Value) (h : Heap) (L : List Loc) : Prop :=
  (∃ r1 : Int32, (0 ≤ r1.toInt ∧ r1.toInt ≤ 1114111) ∧ v = some (.int r1) ∧ Fr n0 L ∧ h = h0)
set_option maxRecDepth 65536 in
set_option maxHeartbeats 40000000 in
theorem rm1 (l : Launch) (Z : State) (a0 : Array Value) (hw : HW a0 Z) (ws : List Jvm.Cond) (p1 p2 : Int32) (h0 : Heap) (n0 : Nat) (O0 : Old Z n0 h0) :
    MF l yn0 method_2_code 2 (some .int) ws ({ frames := 0, cells := 0, slots := 0, locals := 0 } : Room) #[(.int p1), (.int p2)] Z h0 (Q1 Z p1 p2 h0 n0) := by
 refine MetFree.of_bodySF (plainFor_of_name pn0) hisR ?_
 intro p e s m args below meth c s₁ Bd hml hP hK
 obtain ⟨rfl, hZ, hh⟩ := hP
 obtain ⟨hx, hby, hown, hret, hlk, X0, e0, N0⟩ := own_bd Bd hh n0
 have pre0 := own_ct s₁ (p := p) (e := e) (below := below) (ef1 m p1 p2)
 revert pre0
 generalize s₁.setTop (entryFrame m #[(.int p1), (.int p2)] 2) = E0
 intro pre0
 have pre1 : Go p e below s₁ (mkF m 1 (l20_0 p1 p2) [(.int p2)]) E0 := fun t k => by
  refine pre0 _ ?_
  refine yin X0 hx hby d0_0 rfl ?_
  exact k
 by_cases hc2 : p2 = (0 : Int32)
 ·
  have pre3 : Go p e below s₁ (mkF m 1 #[.val (.int p1), .val (.int 0)] [(.int 0)]) E0 := fun t k => pre1 t (by rw [hc2]; exact k)
  obtain ⟨fs, hr, hrun, hended, hW, hsame⟩ := X0.leave (v := some (.int (p1 &&& (255 : Int32)))) (fun h => by rw [hret] at h; cases h)
  refine ⟨_, _, pre3 _ ?_, hrun, hended, _, _, rfl, ?_, ⟨_, rfl⟩, hW, hsame.mono (by decide) (by decide)⟩
  ·
   refine XS.ifNo X0.here hx rfl (hb hby d0_1) rfl ((if0 _ _).trans (teq (by decide : (0 : Int32) = (0 : Int32))).2) ?_
   refine yin X0 hx hby d0_4 rfl ?_
   refine XS.sipush X0.here hx rfl (hb hby d0_5) ?_
   refine XS.iand X0.here hx rfl (hb hby d0_8) rfl ?_
   show Steps p.tables e below (s₁.setTop (mkF m 9 #[.val (.int p1), .val (.int 0)] [(.int (p1 &&& (255 : Int32)))])) _
   exact retI X0 hx hret (hb hby d0_9) hr
  ·
   show Q1 Z p1 p2 h0 n0 _ s₁.heap _
   rw [e0]
   exact ⟨(p1 &&& (255 : Int32)), (by have q0 := own_and (x := p1) (k := (255 : Int32)) (n := 255) (by decide) (by decide); omega), rfl, N0, rfl⟩
 ·
  have pre4 : Go p e below s₁ (mkF m 12 (l20_0 p1 p2) [(.int 1), (.int p2)]) E0 := fun t k => by
   refine pre1 _ ?_
   refine XS.ifYes X0.here hx rfl (pc0 := 1) (pc' := 10) rfl (hb hby d0_1) rfl ((if0 _ _).trans (feq hc2).2) (by decide) (by decide) ?_
   refine yin X0 hx hby d0_10 rfl ?_
   refine XS.iconst X0.here hx rfl (hb hby d0_11) ?_
   exact k
  by_cases hc5 : p2 = (1 : Int32)
  ·
   have pre6 : Go p e below s₁ (mkF m 12 #[.val (.int p1), .val (.int 1)] [(.int 1), (.int 1)]) E0 := fun t k => pre4 t (by rw [hc5]; exact k)
   obtain ⟨fs, hr, hrun, hended, hW, hsame⟩ := X0.leave (v := some (.int (p1 &&& (65535 : Int32)))) (fun h => by rw [hret] at h; cases h)
   refine ⟨_, _, pre6 _ ?_, hrun, hended, _, _, rfl, ?_, ⟨_, rfl⟩, hW, hsame.mono (by decide) (by decide)⟩
   ·
    refine yno X0 hx hby d0_12 (teq (by decide : (1 : Int32) = (1 : Int32))).2 ?_
    refine yin X0 hx hby d0_15 rfl ?_
    refine X0.ldcInt hx hown (mvT hZ (own_w hw 4 rfl)) (g := (mkF m 16 #[.val (.int p1), .val (.int 1)] [(.int p1)])) rfl (hb hby d0_16) _ ?_
    refine XS.iand X0.here hx rfl (hb hby d0_18) rfl ?_
    show Steps p.tables e below (s₁.setTop (mkF m 19 #[.val (.int p1), .val (.int 1)] [(.int (p1 &&& (65535 : Int32)))])) _
    exact retI X0 hx hret (hb hby d0_19) hr
   ·
    show Q1 Z p1 p2 h0 n0 _ s₁.heap _
    rw [e0]
    exact ⟨(p1 &&& (65535 : Int32)), (by have q0 := own_and (x := p1) (k := (65535 : Int32)) (n := 65535) (by decide) (by decide); omega), rfl, N0, rfl⟩
  ·
   obtain ⟨fs, hr, hrun, hended, hW, hsame⟩ := X0.leave (v := some (.int ((p1 &&& (2147483647 : Int32)) % (1114112 : Int32)))) (fun h => by rw [hret] at h; cases h)
   refine ⟨_, _, pre4 _ ?_, hrun, hended, _, _, rfl, ?_, ⟨_, rfl⟩, hW, hsame.mono (by decide) (by decide)⟩
   ·
    refine yye X0 hx hby 12 20 rfl d0_12 (feq hc5).2 (by decide) ?_
    refine yin X0 hx hby d0_20 rfl ?_
    refine X0.ldcInt hx hown (mvT hZ (own_w hw 5 rfl)) (g := (mkF m 21 (l20_0 p1 p2) [(.int p1)])) rfl (hb hby d0_21) _ ?_
    refine XS.iand X0.here hx rfl (hb hby d0_23) rfl ?_
    refine X0.ldcInt hx hown (mvT hZ (own_w hw 63 rfl)) (g := (mkF m 24 (l20_0 p1 p2) [(.int (p1 &&& (2147483647 : Int32)))])) rfl (hb hby d0_24) _ ?_
    refine iremM X0 hx rfl (hb hby d0_26) rfl (by decide : ¬ ((1114112 : Int32) = (0 : Int32))) ?_
    show Steps p.tables e below (s₁.setTop (mkF m 27 (l20_0 p1 p2) [(.int ((p1 &&& (2147483647 : Int32)) % (1114112 : Int32)))])) _
    exact retI X0 hx hret (hb hby d0_27) hr
   ·
    show Q1 Z p1 p2 h0 n0 _ s₁.heap _
    rw [e0]
    exact ⟨((p1 &&& (2147483647 : Int32)) % (1114112 : Int32)), (by have q0 := own_rem (x := (p1 &&& (2147483647 : Int32))) (k := (1114112 : Int32)) (n := 1114112) (by decide) (by decide) (by have q0 := own_and (x := p1) (k := (2147483647 : Int32)) (n := 2147483647) (by decide) (by decide); omega); omega), rfl, N0, rfl⟩
theorem pd0 : parseMethodDescriptor "(II)I" = some ⟨[.int, .int], some .int⟩ := by decide +kernel
theorem d1_0 : decode prog_6_method_1_code 0 = .ok (.aload_n 0, 1) := by decide +kernel
theorem d1_1 : decode prog_6_method_1_code 1 = .ok (.invokespecial 1, 3) := by decide +kernel
theorem d1_4 : decode prog_6_method_1_code 4 = .ok (.aload_n 0, 1) := by decide +kernel
theorem d1_5 : decode prog_6_method_1_code 5 = .ok (.getstatic 7, 3) := by decide +kernel
theorem d1_8 : decode prog_6_method_1_code 8 = .ok (.putfield 13, 3) := by decide +kernel
theorem d1_11 : decode prog_6_method_1_code 11 = .ok (.aload_n 0, 1) := by decide +kernel
theorem d1_12 : decode prog_6_method_1_code 12 = .ok (.iconst 1, 1) := by decide +kernel
theorem d1_13 : decode prog_6_method_1_code 13 = .ok (.putfield 16, 3) := by decide +kernel
theorem d1_16 : decode prog_6_method_1_code 16 = .ok (.return_, 1) := by decide +kernel
theorem pn1 : plainName "com/example/driftless/driftless/CodePoints" = true := by first | (simp [plainName, overriddenIn]; done) | decide +kernel
theorem ef2 (m : MethodId) (x0 : Addr) : entryFrame m #[(.ref x0)] 1 = mkF m 0 #[.val (.ref x0)] [] := by first | (simp [entryFrame, mkF, argsToLocals, Value.category]; done) | rfl
def Q2 (Z : State) (w1 : Addr) (kw1 : ClassId) (o1 : Addr) (h0 : Heap) (n0 : Nat) (v : Option Value) (h : Heap) (L : List Loc) : Prop :=
  (v = none ∧ Fr n0 L ∧ Keep h0 h [o1] ∧ (Exa Z h o1 "com/example/driftless/driftless/CodePoints") ∧ (Fld Z h o1 "com/example/driftless/driftless/CodePoints" "bytes" "[B" (.ref w1)) ∧ (Fld Z h o1 "com/example/driftless/driftless/CodePoints" "length" "I" (.int 0)) ∧ (Fld Z h o1 "com/example/driftless/driftless/CodePoints" "width" "I" (.int 1)))
set_option maxRecDepth 65536 in
set_option maxHeartbeats 40000000 in
theorem rm2 (l : Launch) (Z : State) (a0 : Array Value) (hw : HW a0 Z) (w1 : Addr) (kw1 : ClassId) (G : GW Z w1 kw1) (ws : List Jvm.Cond) (o1 : Addr) (h0 : Heap) (n0 : Nat) (O0 : Old Z n0 h0) (g_o1 : n0 ≤ o1) (P0 : Exa Z h0 o1 "com/example/driftless/driftless/CodePoints") (P1 : Fld Z h0 o1 "com/example/driftless/driftless/CodePoints" "bytes" "[B" .null) (P2 : Fld Z h0 o1 "com/example/driftless/driftless/CodePoints" "length" "I" (.int 0)) (P3 : Fld Z h0 o1 "com/example/driftless/driftless/CodePoints" "width" "I" (.int 0)) :
    MF l yn1 prog_6_method_1_code 1 none ws ({ frames := 1, cells := 0, slots := 0, locals := 12 } : Room) #[(.ref o1)] Z h0 (Q2 Z w1 kw1 o1 h0 n0) := by
 obtain ⟨S_w1, E_w1, A_w1⟩ := id G
 refine MetFree.of_bodySF (plainFor_of_name pn1) hisR ?_
 intro p e s m args below meth c s₁ Bd hml hP hK
 obtain ⟨rfl, hZ, hh⟩ := hP
 obtain ⟨hx, hby, hown, hret, hlk, X0, e0, N0⟩ := own_bd Bd hh n0
 have pre0 := own_ct s₁ (p := p) (e := e) (below := below) (ef2 m o1)
 obtain ⟨T1, X1, e1, st1⟩ := initO X0 hx hZ hown (own_w hw 13 rfl) (own_w hw 14 rfl) (own_w hw 15 rfl) e0 (g := (mkF m 1 #[.val (.ref o1)] [(.ref o1)])) rfl (by rw [hml]; rfl) rfl (hb hby d1_1) (by decide) (W := 0) (by show 2 * 0 + _ ≤ _; exact Nat.le_of_eq rfl) (by decide)
 obtain ⟨T2, X2, e2, st2⟩ := getS2 X1 hx hZ hown (host := "") (Or.inl (own_w hw 16 rfl)) Via.refl e1 (S_w1.ext O0.2) (g := (mkF m 5 #[.val (.ref o1)] [(.ref o1)])) rfl (hb hby d1_5)
 obtain ⟨T3, h3, X3, e3, W3, st3⟩ := putF X2 hx hZ hown (host := "") (Or.inl (w_18 hw)) Via.refl e2 P1 P0 (Or.inl (w_19 hw)) (w_8 hw) (ty := (.array .byte)) (by decide) rfl rfl (g := (mkF m 8 #[.val (.ref o1)] [(.ref w1), (.ref o1)])) rfl rfl (hb hby d1_8)
 have N3 := Fr.snoc X3 N0 g_o1
 have Fw3 := P1.same W3
 have f4 := (P3.other W3 (Or.inr (slot_ne (Or.inl (w_21 hw)) (Or.inl (w_19 hw)) (by decide) (t := .int) (t' := (.array .byte)) (by decide) (by decide))))
 have f5 := (P0.wr W3)
 obtain ⟨T6, h6, X6, e6, W6, st6⟩ := putF X3 hx hZ hown (host := "") (Or.inl (w_20 hw)) Via.refl e3 f4 f5 (Or.inl (w_21 hw)) (w_8 hw) (ty := .int) (by decide) rfl rfl (g := (mkF m 13 #[.val (.ref o1)] [(.int 1), (.ref o1)])) rfl rfl (hb hby d1_13)
 have N6 := Fr.snoc X6 N3 g_o1
 have Fw6 := f4.same W6
 obtain ⟨fs, hr, hrun, hended, hW, hsame⟩ := X6.leave (v := none) (fun _ => rfl)
 have KL : Keep h0 h6 [o1] := (((Keep.refl h0 [o1]).wr W3 (Or.inl (List.mem_of_getElem? (i := 0) rfl))).wr W6 (Or.inl (List.mem_of_getElem? (i := 0) rfl)))
 have f7 := (f5.wr W6)
 have f8 := (Fw3.other W6 (Or.inr (slot_ne (Or.inl (w_19 hw)) (Or.inl (w_21 hw)) (by decide) (t := (.array .byte)) (t' := .int) (by decide) (by decide))))
 have f9 := ((P2.other W3 (Or.inr (slot_ne (Or.inl (w_35 hw)) (Or.inl (w_19 hw)) (by decide) (t := .int) (t' := (.array .byte)) (by decide) (by decide)))).other W6 (Or.inr (slot_ne (Or.inl (w_35 hw)) (Or.inl (w_21 hw)) (by decide) (t := .int) (t' := .int) (by decide) (by decide))))
 refine ⟨_, _, pre0 _ ?_, hrun, hended, _, _, rfl, ?_, ⟨_, rfl⟩, hW, hsame.mono (by decide) (by decide)⟩
 ·
  refine yan X0 hx hby d1_0 rfl rfl ?_
  refine st1 _ ?_
  refine yan X1 hx hby d1_4 rfl rfl ?_
  refine st2 _ ?_
  refine st3 _ ?_
  refine yan X3 hx hby d1_11 rfl rfl ?_
  refine XS.iconst X3.here hx rfl (hb hby d1_12) ?_
  refine st6 _ ?_
  show Steps p.tables e below (T6.setTop (mkF m 16 #[.val (.ref o1)] [])) _
  exact X6.returnOut hx hret (hb hby d1_16) hr
 ·
  show Q2 Z w1 kw1 o1 h0 n0 _ T6.heap _
  rw [e6]
  exact ⟨rfl, N6, KL, f7, f8, f9, Fw6⟩
theorem pd1 : parseMethodDescriptor "()V" = some ⟨[], none⟩ := by decide +kernel
theorem d2_0 : decode prog_6_method_5_code 0 = .ok (.aload_n 0, 1) := by decide +kernel
theorem d2_1 : decode prog_6_method_5_code 1 = .ok (.getfield 16, 3) := by decide +kernel
theorem d2_4 : decode prog_6_method_5_code 4 = .ok (.istore 5, 2) := by decide +kernel
theorem d2_6 : decode prog_6_method_5_code 6 = .ok (.iload_n 3, 1) := by decide +kernel
theorem d2_7 : decode prog_6_method_5_code 7 = .ok (.istore 6, 2) := by decide +kernel
theorem d2_9 : decode prog_6_method_5_code 9 = .ok (.iload 6, 2) := by decide +kernel
theorem d2_11 : decode prog_6_method_5_code 11 = .ok (.iload_n 3, 1) := by decide +kernel
theorem d2_12 : decode prog_6_method_5_code 12 = .ok (.iload 4, 2) := by decide +kernel
theorem d2_14 : decode prog_6_method_5_code 14 = .ok (.iadd, 1) := by decide +kernel
theorem d2_15 : decode prog_6_method_5_code 15 = .ok (.if_icmp .ge 23, 3) := by decide +kernel
theorem d2_18 : decode prog_6_method_5_code 18 = .ok (.iload 5, 2) := by decide +kernel
theorem d2_20 : decode prog_6_method_5_code 20 = .ok (.aload_n 2, 1) := by decide +kernel
theorem d2_21 : decode prog_6_method_5_code 21 = .ok (.iload 6, 2) := by decide +kernel
theorem d2_23 : decode prog_6_method_5_code 23 = .ok (.iaload, 1) := by decide +kernel
theorem d2_24 : decode prog_6_method_5_code 24 = .ok (.invokestatic 21, 3) := by decide +kernel
theorem d3_0 : decode prog_6_method_11_code 0 = .ok (.iload_n 0, 1) := by decide +kernel
theorem d3_1 : decode prog_6_method_11_code 1 = .ok (.sipush 256, 3) := by decide +kernel
theorem d3_4 : decode prog_6_method_11_code 4 = .ok (.if_icmp .ge 8, 3) := by decide +kernel
theorem d3_7 : decode prog_6_method_11_code 7 = .ok (.iconst 1, 1) := by decide +kernel
theorem d3_8 : decode prog_6_method_11_code 8 = .ok (.istore_n 1, 1) := by decide +kernel
theorem d3_9 : decode prog_6_method_11_code 9 = .ok (.goto 16, 3) := by decide +kernel
theorem d3_25 : decode prog_6_method_11_code 25 = .ok (.iload_n 1, 1) := by decide +kernel
theorem d3_26 : decode prog_6_method_11_code 26 = .ok (.ireturn, 1) := by decide +kernel
theorem d3_12 : decode prog_6_method_11_code 12 = .ok (.iload_n 0, 1) := by decide +kernel
theorem d3_13 : decode prog_6_method_11_code 13 = .ok (.ldc 63, 2) := by decide +kernel
theorem d3_15 : decode prog_6_method_11_code 15 = .ok (.if_icmp .ge 8, 3) := by decide +kernel
theorem d3_18 : decode prog_6_method_11_code 18 = .ok (.iconst 2, 1) := by decide +kernel
theorem d3_19 : decode prog_6_method_11_code 19 = .ok (.istore_n 1, 1) := by decide +kernel
theorem d3_20 : decode prog_6_method_11_code 20 = .ok (.goto 5, 3) := by decide +kernel
theorem d3_23 : decode prog_6_method_11_code 23 = .ok (.iconst 3, 1) := by decide +kernel
theorem d3_24 : decode prog_6_method_11_code 24 = .ok (.istore_n 1, 1) := by decide +kernel
theorem ef3 (m : MethodId) (x0 : Int32) : entryFrame m #[(.int x0)] 2 = mkF m 0 #[.val (.int x0), .unset] [] := by first | (simp [entryFrame, mkF, argsToLocals, Value.category]; done) | rfl
def Q3 (Z : State) (p1 : Int32) (h0 : Heap) (n0 : Nat) (v : Option Value) (h : Heap) (L : List Loc) : Prop :=
  ((p1 < (256 : Int32)) ∧ v = some (.int 1) ∧ Fr n0 L ∧ h = h0)
  ∨ ((¬ (p1 < (256 : Int32))) ∧ (p1 < (65536 : Int32)) ∧ v = some (.int 2) ∧ Fr n0 L ∧ h = h0)
  ∨ ((¬ (p1 < (256 : Int32))) ∧ (¬ (p1 < (65536 : Int32))) ∧ v = some (.int 3) ∧ Fr n0 L ∧ h = h0)
set_option maxRecDepth 65536 in
set_option maxHeartbeats 40000000 in
theorem rm3 (l : Launch) (Z : State) (a0 : Array Value) (hw : HW a0 Z) (ws : List Jvm.Cond) (p1 : Int32) (h0 : Heap) (n0 : Nat) (O0 : Old Z n0 h0) :
    MF l yn2 prog_6_method_11_code 2 (some .int) ws ({ frames := 0, cells := 0, slots := 0, locals := 0 } : Room) #[(.int p1)] Z h0 (Q3 Z p1 h0 n0) := by
 refine MetFree.of_bodySF (plainFor_of_name pn1) hisR ?_
 intro p e s m args below meth c s₁ Bd hml hP hK
 obtain ⟨rfl, hZ, hh⟩ := hP
 obtain ⟨hx, hby, hown, hret, hlk, X0, e0, N0⟩ := own_bd Bd hh n0
 have pre0 := own_ct s₁ (p := p) (e := e) (below := below) (ef3 m p1)
 revert pre0
 generalize s₁.setTop (entryFrame m #[(.int p1)] 2) = E0
 intro pre0
 have pre1 : Go p e below s₁ (mkF m 4 #[.val (.int p1), .unset] [(.int 256), (.int p1)]) E0 := fun t k => by
  refine pre0 _ ?_
  refine yin X0 hx hby d3_0 rfl ?_
  refine XS.sipush X0.here hx rfl (hb hby d3_1) ?_
  exact k
 by_cases hc2 : p1 < (256 : Int32)
 ·
  obtain ⟨fs, hr, hrun, hended, hW, hsame⟩ := X0.leave (v := some (.int 1)) (fun h => by rw [hret] at h; cases h)
  refine ⟨_, _, pre1 _ ?_, hrun, hended, _, _, rfl, ?_, ⟨_, rfl⟩, hW, hsame.mono (by decide) (by decide)⟩
  ·
   refine yno X0 hx hby d3_4 (tlt hc2).2.1 ?_
   refine XS.iconst X0.here hx rfl (hb hby d3_7) ?_
   refine yit X0 hx hby d3_8 (l' := #[.val (.int p1), .val (.int 1)]) rfl ?_
   refine ygo X0 hx hby 9 25 rfl d3_9 (by decide) ?_
   refine yin X0 hx hby d3_25 rfl ?_
   show Steps p.tables e below (s₁.setTop (mkF m 26 #[.val (.int p1), .val (.int 1)] [(.int 1)])) _
   exact retI X0 hx hret (hb hby d3_26) hr
  ·
   show Q3 Z p1 h0 n0 _ s₁.heap _
   rw [e0]
   exact (Or.inl ⟨hc2, rfl, N0, rfl⟩)
 ·
  have pre3 : Go p e below s₁ (mkF m 15 #[.val (.int p1), .unset] [(.int 65536), (.int p1)]) E0 := fun t k => by
   refine pre1 _ ?_
   refine yye X0 hx hby 4 12 rfl d3_4 (flt hc2).2.1 (by decide) ?_
   refine yin X0 hx hby d3_12 rfl ?_
   refine X0.ldcInt hx hown (mvT hZ (own_w hw 64 rfl)) (g := (mkF m 13 #[.val (.int p1), .unset] [(.int p1)])) rfl (hb hby d3_13) _ ?_
   exact k
  by_cases hc4 : p1 < (65536 : Int32)
  ·
   obtain ⟨fs, hr, hrun, hended, hW, hsame⟩ := X0.leave (v := some (.int 2)) (fun h => by rw [hret] at h; cases h)
   refine ⟨_, _, pre3 _ ?_, hrun, hended, _, _, rfl, ?_, ⟨_, rfl⟩, hW, hsame.mono (by decide) (by decide)⟩
   ·
    refine yno X0 hx hby d3_15 (tlt hc4).2.1 ?_
    refine XS.iconst X0.here hx rfl (hb hby d3_18) ?_
    refine yit X0 hx hby d3_19 (l' := #[.val (.int p1), .val (.int 2)]) rfl ?_
    refine ygo X0 hx hby 20 25 rfl d3_20 (by decide) ?_
    refine yin X0 hx hby d3_25 rfl ?_
    show Steps p.tables e below (s₁.setTop (mkF m 26 #[.val (.int p1), .val (.int 2)] [(.int 2)])) _
    exact retI X0 hx hret (hb hby d3_26) hr
   ·
    show Q3 Z p1 h0 n0 _ s₁.heap _
    rw [e0]
    exact (Or.inr (Or.inl ⟨hc2, hc4, rfl, N0, rfl⟩))
  ·
   obtain ⟨fs, hr, hrun, hended, hW, hsame⟩ := X0.leave (v := some (.int 3)) (fun h => by rw [hret] at h; cases h)
   refine ⟨_, _, pre3 _ ?_, hrun, hended, _, _, rfl, ?_, ⟨_, rfl⟩, hW, hsame.mono (by decide) (by decide)⟩
   ·
    refine yye X0 hx hby 15 23 rfl d3_15 (flt hc4).2.1 (by decide) ?_
    refine XS.iconst X0.here hx rfl (hb hby d3_23) ?_
    refine yit X0 hx hby d3_24 (l' := #[.val (.int p1), .val (.int 3)]) rfl ?_
    refine yin X0 hx hby d3_25 rfl ?_
    show Steps p.tables e below (s₁.setTop (mkF m 26 #[.val (.int p1), .val (.int 3)] [(.int 3)])) _
    exact retI X0 hx hret (hb hby d3_26) hr
   ·
    show Q3 Z p1 h0 n0 _ s₁.heap _
    rw [e0]
    exact (Or.inr (Or.inr ⟨hc2, hc4, rfl, N0, rfl⟩))
theorem pd2 : parseMethodDescriptor "(I)I" = some ⟨[.int], some .int⟩ := by decide +kernel
theorem d2_27 : decode prog_6_method_5_code 27 = .ok (.invokestatic 32, 3) := by decide +kernel
theorem d4_0 : decode jdk_29_method_65_code 0 = .ok (.iload_n 0, 1) := by decide +kernel
theorem d4_1 : decode jdk_29_method_65_code 1 = .ok (.iload_n 1, 1) := by decide +kernel
theorem d4_2 : decode jdk_29_method_65_code 2 = .ok (.if_icmp .lt 7, 3) := by decide +kernel
theorem d4_9 : decode jdk_29_method_65_code 9 = .ok (.iload_n 1, 1) := by decide +kernel
theorem d4_10 : decode jdk_29_method_65_code 10 = .ok (.ireturn, 1) := by decide +kernel
theorem d4_5 : decode jdk_29_method_65_code 5 = .ok (.iload_n 0, 1) := by decide +kernel
theorem d4_6 : decode jdk_29_method_65_code 6 = .ok (.goto 4, 3) := by decide +kernel
theorem ef4 (m : MethodId) (x0 x1 : Int32) : entryFrame m #[(.int x0), (.int x1)] 2 = mkF m 0 #[.val (.int x0), .val (.int x1)] [] := by first | (simp [entryFrame, mkF, argsToLocals, Value.category]; done) | rfl
def Q4 (Z : State) (p1 p2 : Int32) (h0 : Heap) (n0 : Nat) (v : Option Value) (h : Heap) (L : List Loc) : Prop :=
  ((p1 < p2) ∧ v = some (.int p2) ∧ Fr n0 L ∧ h = h0)
  ∨ ((¬ (p1 < p2)) ∧ v = some (.int p1) ∧ Fr n0 L ∧ h = h0)
set_option maxRecDepth 65536 in
set_option maxHeartbeats 40000000 in
theorem rm4 (l : Launch) (Z : State) (a0 : Array Value) (hw : HW a0 Z) (ws : List Jvm.Cond) (p1 p2 : Int32) (h0 : Heap) (n0 : Nat) (O0 : Old Z n0 h0) :
    MF l yn3 jdk_29_method_65_code 2 (some .int) ws ({ frames := 0, cells := 0, slots := 0, locals := 0 } : Room) #[(.int p1), (.int p2)] Z h0 (Q4 Z p1 p2 h0 n0) := by
 refine MetFree.of_bodySF (Jvm.Free.JP.mathPlain rfl (by decide +kernel)) hisR ?_
 intro p e s m args below meth c s₁ Bd hml hP hK
 obtain ⟨rfl, hZ, hh⟩ := hP
 obtain ⟨hx, hby, hown, hret, hlk, X0, e0, N0⟩ := own_bd Bd hh n0
 have pre0 := own_ct s₁ (p := p) (e := e) (below := below) (ef4 m p1 p2)
 revert pre0
 generalize s₁.setTop (entryFrame m #[(.int p1), (.int p2)] 2) = E0
 intro pre0
 have pre1 : Go p e below s₁ (mkF m 2 #[.val (.int p1), .val (.int p2)] [(.int p2), (.int p1)]) E0 := fun t k => by
  refine pre0 _ ?_
  refine yin X0 hx hby d4_0 rfl ?_
  refine yin X0 hx hby d4_1 rfl ?_
  exact k
 by_cases hc2 : p1 < p2
 ·
  obtain ⟨fs, hr, hrun, hended, hW, hsame⟩ := X0.leave (v := some (.int p2)) (fun h => by rw [hret] at h; cases h)
  refine ⟨_, _, pre1 _ ?_, hrun, hended, _, _, rfl, ?_, ⟨_, rfl⟩, hW, hsame.mono (by decide) (by decide)⟩
  ·
   refine yye X0 hx hby 2 9 rfl d4_2 (tlt hc2).1 (by decide) ?_
   refine yin X0 hx hby d4_9 rfl ?_
   show Steps p.tables e below (s₁.setTop (mkF m 10 #[.val (.int p1), .val (.int p2)] [(.int p2)])) _
   exact retI X0 hx hret (hb hby d4_10) hr
  ·
   show Q4 Z p1 p2 h0 n0 _ s₁.heap _
   rw [e0]
   exact (Or.inl ⟨hc2, rfl, N0, rfl⟩)
 ·
  obtain ⟨fs, hr, hrun, hended, hW, hsame⟩ := X0.leave (v := some (.int p1)) (fun h => by rw [hret] at h; cases h)
  refine ⟨_, _, pre1 _ ?_, hrun, hended, _, _, rfl, ?_, ⟨_, rfl⟩, hW, hsame.mono (by decide) (by decide)⟩
  ·
   refine yno X0 hx hby d4_2 (flt hc2).1 ?_
   refine yin X0 hx hby d4_5 rfl ?_
   refine ygo X0 hx hby 6 10 rfl d4_6 (by decide) ?_
   show Steps p.tables e below (s₁.setTop (mkF m 10 #[.val (.int p1), .val (.int p2)] [(.int p1)])) _
   exact retI X0 hx hret (hb hby d4_10) hr
  ·
   show Q4 Z p1 p2 h0 n0 _ s₁.heap _
   rw [e0]
   exact (Or.inr ⟨hc2, rfl, N0, rfl⟩)
theorem d2_30 : decode prog_6_method_5_code 30 = .ok (.istore 5, 2) := by decide +kernel
theorem d2_32 : decode prog_6_method_5_code 32 = .ok (.iinc 6 1, 3) := by decide +kernel
theorem d2_35 : decode prog_6_method_5_code 35 = .ok (.goto (-26), 3) := by decide +kernel
theorem d2_38 : decode prog_6_method_5_code 38 = .ok (.iload 5, 2) := by decide +kernel
theorem d2_40 : decode prog_6_method_5_code 40 = .ok (.aload_n 0, 1) := by decide +kernel
theorem d2_41 : decode prog_6_method_5_code 41 = .ok (.getfield 16, 3) := by decide +kernel
theorem d2_44 : decode prog_6_method_5_code 44 = .ok (.if_icmp .le 9, 3) := by decide +kernel
theorem d2_53 : decode prog_6_method_5_code 53 = .ok (.aload_n 0, 1) := by decide +kernel
theorem d2_54 : decode prog_6_method_5_code 54 = .ok (.getfield 25, 3) := by decide +kernel
theorem d2_57 : decode prog_6_method_5_code 57 = .ok (.iload 4, 2) := by decide +kernel
theorem d2_59 : decode prog_6_method_5_code 59 = .ok (.iadd, 1) := by decide +kernel
theorem d2_60 : decode prog_6_method_5_code 60 = .ok (.aload_n 0, 1) := by decide +kernel
theorem d2_61 : decode prog_6_method_5_code 61 = .ok (.getfield 16, 3) := by decide +kernel
theorem d2_64 : decode prog_6_method_5_code 64 = .ok (.imul, 1) := by decide +kernel
theorem d2_65 : decode prog_6_method_5_code 65 = .ok (.istore 6, 2) := by decide +kernel
theorem d2_67 : decode prog_6_method_5_code 67 = .ok (.iload 6, 2) := by decide +kernel
theorem d2_69 : decode prog_6_method_5_code 69 = .ok (.aload_n 0, 1) := by decide +kernel
theorem d2_70 : decode prog_6_method_5_code 70 = .ok (.getfield 13, 3) := by decide +kernel
theorem d2_73 : decode prog_6_method_5_code 73 = .ok (.arraylength, 1) := by decide +kernel
theorem d2_74 : decode prog_6_method_5_code 74 = .ok (.if_icmp .le 32, 3) := by decide +kernel
theorem d2_77 : decode prog_6_method_5_code 77 = .ok (.aload_n 0, 1) := by decide +kernel
theorem d2_78 : decode prog_6_method_5_code 78 = .ok (.aload_n 0, 1) := by decide +kernel
theorem d2_79 : decode prog_6_method_5_code 79 = .ok (.getfield 13, 3) := by decide +kernel
theorem d2_82 : decode prog_6_method_5_code 82 = .ok (.iload 6, 2) := by decide +kernel
theorem d2_84 : decode prog_6_method_5_code 84 = .ok (.aload_n 0, 1) := by decide +kernel
theorem d2_85 : decode prog_6_method_5_code 85 = .ok (.getfield 13, 3) := by decide +kernel
theorem d2_88 : decode prog_6_method_5_code 88 = .ok (.arraylength, 1) := by decide +kernel
theorem d2_89 : decode prog_6_method_5_code 89 = .ok (.aload_n 0, 1) := by decide +kernel
theorem d2_90 : decode prog_6_method_5_code 90 = .ok (.getfield 13, 3) := by decide +kernel
theorem d2_93 : decode prog_6_method_5_code 93 = .ok (.arraylength, 1) := by decide +kernel
theorem d2_94 : decode prog_6_method_5_code 94 = .ok (.iconst 2, 1) := by decide +kernel
theorem d2_95 : decode prog_6_method_5_code 95 = .ok (.idiv, 1) := by decide +kernel
theorem d2_96 : decode prog_6_method_5_code 96 = .ok (.iadd, 1) := by decide +kernel
theorem d2_97 : decode prog_6_method_5_code 97 = .ok (.invokestatic 32, 3) := by decide +kernel
theorem d2_100 : decode prog_6_method_5_code 100 = .ok (.invokestatic 42, 3) := by decide +kernel
theorem d5_0 : decode jdk_65_method_121_code 0 = .ok (.iload_n 1, 1) := by decide +kernel
theorem d5_1 : decode jdk_65_method_121_code 1 = .ok (.aload_n 0, 1) := by decide +kernel
theorem d5_2 : decode jdk_65_method_121_code 2 = .ok (.arraylength, 1) := by decide +kernel
theorem d5_3 : decode jdk_65_method_121_code 3 = .ok (.if_icmp .ne 11, 3) := by decide +kernel
theorem d5_14 : decode jdk_65_method_121_code 14 = .ok (.iload_n 1, 1) := by decide +kernel
theorem d5_15 : decode jdk_65_method_121_code 15 = .ok (.newarray .byte, 2) := by decide +kernel
theorem d5_17 : decode jdk_65_method_121_code 17 = .ok (.astore_n 2, 1) := by decide +kernel
theorem d5_18 : decode jdk_65_method_121_code 18 = .ok (.aload_n 0, 1) := by decide +kernel
theorem d5_19 : decode jdk_65_method_121_code 19 = .ok (.iconst 0, 1) := by decide +kernel
theorem d5_20 : decode jdk_65_method_121_code 20 = .ok (.aload_n 2, 1) := by decide +kernel
theorem d5_21 : decode jdk_65_method_121_code 21 = .ok (.iconst 0, 1) := by decide +kernel
theorem d5_22 : decode jdk_65_method_121_code 22 = .ok (.aload_n 0, 1) := by decide +kernel
theorem d5_23 : decode jdk_65_method_121_code 23 = .ok (.arraylength, 1) := by decide +kernel
theorem d5_24 : decode jdk_65_method_121_code 24 = .ok (.iload_n 1, 1) := by decide +kernel
theorem d5_25 : decode jdk_65_method_121_code 25 = .ok (.invokestatic 304, 3) := by decide +kernel
theorem d6_0 : decode jdk_29_method_69_code 0 = .ok (.iload_n 0, 1) := by decide +kernel
theorem d6_1 : decode jdk_29_method_69_code 1 = .ok (.iload_n 1, 1) := by decide +kernel
theorem d6_2 : decode jdk_29_method_69_code 2 = .ok (.if_icmp .gt 7, 3) := by decide +kernel
theorem d6_9 : decode jdk_29_method_69_code 9 = .ok (.iload_n 1, 1) := by decide +kernel
theorem d6_10 : decode jdk_29_method_69_code 10 = .ok (.ireturn, 1) := by decide +kernel
theorem d6_5 : decode jdk_29_method_69_code 5 = .ok (.iload_n 0, 1) := by decide +kernel
theorem d6_6 : decode jdk_29_method_69_code 6 = .ok (.goto 4, 3) := by decide +kernel
theorem ef5 (m : MethodId) (x0 x1 : Int32) : entryFrame m #[(.int x0), (.int x1)] 2 = mkF m 0 #[.val (.int x0), .val (.int x1)] [] := by first | (simp [entryFrame, mkF, argsToLocals, Value.category]; done) | rfl
def Q5 (Z : State) (p1 p2 : Int32) (h0 : Heap) (n0 : Nat) (v : Option Value) (h : Heap) (L : List Loc) : Prop :=
  ((p2 < p1) ∧ v = some (.int p2) ∧ Fr n0 L ∧ h = h0)
  ∨ ((¬ (p2 < p1)) ∧ v = some (.int p1) ∧ Fr n0 L ∧ h = h0)
set_option maxRecDepth 65536 in
set_option maxHeartbeats 40000000 in
theorem rm5 (l : Launch) (Z : State) (a0 : Array Value) (hw : HW a0 Z) (ws : List Jvm.Cond) (p1 p2 : Int32) (h0 : Heap) (n0 : Nat) (O0 : Old Z n0 h0) :
    MF l yn4 jdk_29_method_69_code 2 (some .int) ws ({ frames := 0, cells := 0, slots := 0, locals := 0 } : Room) #[(.int p1), (.int p2)] Z h0 (Q5 Z p1 p2 h0 n0) := by
 refine MetFree.of_bodySF (Jvm.Free.JP.mathPlain rfl (by decide +kernel)) hisR ?_
 intro p e s m args below meth c s₁ Bd hml hP hK
 obtain ⟨rfl, hZ, hh⟩ := hP
 obtain ⟨hx, hby, hown, hret, hlk, X0, e0, N0⟩ := own_bd Bd hh n0
 have pre0 := own_ct s₁ (p := p) (e := e) (below := below) (ef5 m p1 p2)
 revert pre0
 generalize s₁.setTop (entryFrame m #[(.int p1), (.int p2)] 2) = E0
 intro pre0
 have pre1 : Go p e below s₁ (mkF m 2 #[.val (.int p1), .val (.int p2)] [(.int p2), (.int p1)]) E0 := fun t k => by
  refine pre0 _ ?_
  refine yin X0 hx hby d6_0 rfl ?_
  refine yin X0 hx hby d6_1 rfl ?_
  exact k
 by_cases hc2 : p2 < p1
 ·
  obtain ⟨fs, hr, hrun, hended, hW, hsame⟩ := X0.leave (v := some (.int p2)) (fun h => by rw [hret] at h; cases h)
  refine ⟨_, _, pre1 _ ?_, hrun, hended, _, _, rfl, ?_, ⟨_, rfl⟩, hW, hsame.mono (by decide) (by decide)⟩
  ·
   refine yye X0 hx hby 2 9 rfl d6_2 (tlt hc2).2.2.1 (by decide) ?_
   refine yin X0 hx hby d6_9 rfl ?_
   show Steps p.tables e below (s₁.setTop (mkF m 10 #[.val (.int p1), .val (.int p2)] [(.int p2)])) _
   exact retI X0 hx hret (hb hby d6_10) hr
  ·
   show Q5 Z p1 p2 h0 n0 _ s₁.heap _
   rw [e0]
   exact (Or.inl ⟨hc2, rfl, N0, rfl⟩)
 ·
  obtain ⟨fs, hr, hrun, hended, hW, hsame⟩ := X0.leave (v := some (.int p1)) (fun h => by rw [hret] at h; cases h)
  refine ⟨_, _, pre1 _ ?_, hrun, hended, _, _, rfl, ?_, ⟨_, rfl⟩, hW, hsame.mono (by decide) (by decide)⟩
  ·
   refine yno X0 hx hby d6_2 (flt hc2).2.2.1 ?_
   refine yin X0 hx hby d6_5 rfl ?_
   refine ygo X0 hx hby 6 10 rfl d6_6 (by decide) ?_
   show Steps p.tables e below (s₁.setTop (mkF m 10 #[.val (.int p1), .val (.int p2)] [(.int p1)])) _
   exact retI X0 hx hret (hb hby d6_10) hr
  ·
   show Q5 Z p1 p2 h0 n0 _ s₁.heap _
   rw [e0]
   exact (Or.inr ⟨hc2, rfl, N0, rfl⟩)
theorem d5_28 : decode jdk_65_method_121_code 28 = .ok (.invokestatic 150, 3) := by decide +kernel
theorem d5_31 : decode jdk_65_method_121_code 31 = .ok (.aload_n 2, 1) := by decide +kernel
theorem d5_32 : decode jdk_65_method_121_code 32 = .ok (.areturn, 1) := by decide +kernel
theorem pn2 : plainName "java/util/Arrays" = true := by first | (simp [plainName, overriddenIn]; done) | decide +kernel
def l138_0 (w1 b2 : Addr) : Array Slot := #[.val (.ref w1), .val (.int 2), .val (.ref b2)]
theorem ef6 (m : MethodId) (x0 : Addr) (x1 : Int32) : entryFrame m #[(.ref x0), (.int x1)] 3 = mkF m 0 #[.val (.ref x0), .val (.int x1), .unset] [] := by first | (simp [entryFrame, mkF, argsToLocals, Value.category]; done) | rfl
def Q6 (Z : State) (w1 : Addr) (kw1 : ClassId) (h0 : Heap) (n0 : Nat) (v : Option Value) (h : Heap) (L : List Loc) : Prop :=
  (∃ b2 : Addr, ∃ k2 : ClassId, v = some (.ref b2) ∧ Fr n0 L ∧ Keep h0 h [] ∧ h0.size ≤ b2 ∧ (Arv Z h b2 k2 .byte (2 : Int32) [(.int 0), (.int 0)] (.int 0)) ∧ (Exa Z h b2 "[B"))
set_option maxRecDepth 65536 in
set_option maxHeartbeats 40000000 in
theorem rm6 (l : Launch) (Z : State) (a0 : Array Value) (hw : HW a0 Z) (w1 : Addr) (kw1 : ClassId) (G : GW Z w1 kw1) (ws : List Jvm.Cond) (h0 : Heap) (n0 : Nat) (O0 : Old Z n0 h0) :
    MF l yn5 jdk_65_method_121_code 3 (some (.array .byte)) ws ({ frames := 1, cells := 1, slots := 2, locals := 21 } : Room) #[(.ref w1), (.int 2)] Z h0 (Q6 Z w1 kw1 h0 n0) := by
 obtain ⟨S_w1, E_w1, A_w1⟩ := id G
 refine MetFree.of_bodySF (plainFor_of_name pn2) hisR ?_
 intro p e s m args below meth c s₁ Bd hml hP hK
 obtain ⟨rfl, hZ, hh⟩ := hP
 obtain ⟨hx, hby, hown, hret, hlk, X0, e0, N0⟩ := own_bd Bd hh n0
 have pre0 := own_ct s₁ (p := p) (e := e) (below := below) (ef6 m w1 (2 : Int32))
 revert pre0
 generalize s₁.setTop (entryFrame m #[(.ref w1), (.int 2)] 3) = E0
 intro pre0
 obtain ⟨cl1, Ar1, qa1, Sa1, Na1, Ha1, Ga1⟩ := id ((A_w1.ext O0.2))
 obtain ⟨T2, h2, k2, X2, e2, E2, A2, EX2, st2⟩ := newPE X0 hx hZ (own_w hw 40 rfl) e0 (g := (mkF m 15 #[.val (.ref w1), .val (.int 2), .unset] [(.int 2)])) rfl (hb hby d5_15) rfl (by decide) (cap := 2) (by decide) (by decide) (by decide) (by decide) (ad := "[B") (by decide)
 obtain ⟨b2, g2⟩ : ∃ z, z = h0.size := ⟨_, rfl⟩
 rw [← g2] at A2 EX2 st2
 have O2 := Old.ext O0 E2
 have sz_b2 : h0.size ≤ b2 := Nat.le_of_eq g2.symm
 have g_b2 : n0 ≤ b2 := Nat.le_trans (own_oz O0) (Nat.le_trans (Nat.le_refl _) sz_b2)
 have V2_0 := Arv.new A2 (by decide)
 have V2 : Arv Z h2 b2 k2 .byte (2 : Int32) [(.int 0), (.int 0)] (.int 0) := V2_0.pad (pad_rep [] (.int 0) 2)
 obtain ⟨cl3, Ar3, qa3, Sa3, Na3, Ha3, Ga3⟩ := id ((A_w1.ext O2.2))
 obtain ⟨_, T4, L4, X4, hQ4, st4⟩ := own_cs X2 hx hZ hown (y := yn4) (own_w hw 41 rfl) (own_w hw 42 rfl) (own_w hw 43 rfl) (w_32 hw) e2 (argsL := [(.int 0), (.int 2)]) (rest := [(.int 0), (.ref b2), (.int 0), (.ref w1)]) (rm5 l Z a0 hw [] ((0 : Int32)) ((2 : Int32)) h2 n0 O2 ) (g := (mkF m 25 (l138_0 w1 b2) [(.int 2), (.int 0), (.int 0), (.ref b2), (.int 0), (.ref w1)])) rfl (by rw [hml]; rfl) rfl (hb hby d5_25) (lenOf pd0 rfl) (W := 4) (c1 := 1) (s1 := 2)
 have pre5 : Go p e below T2 (mkF m 25 (l138_0 w1 b2) [(.int 2), (.int 0), (.int 0), (.ref b2), (.int 0), (.ref w1)]) E0 := fun t k => by
  refine pre0 _ ?_
  refine yin X0 hx hby d5_0 rfl ?_
  refine yan X0 hx hby d5_1 rfl rfl ?_
  refine X0.arraylength hx (by rw [e0]; exact Ar1.1) (State.isArrayOf_alike hZ.alike Ar1.2.1) (g := (mkF m 2 #[.val (.ref w1), .val (.int 2), .unset] [(.ref w1), (.int 2)])) rfl rfl (hb hby d5_2) _ ?_
  rw [len_of Sa1 Na1]
  refine yye X0 hx hby 3 14 rfl d5_3 (feq (by decide : ¬ ((2 : Int32) = (0 : Int32)))).2 (by decide) ?_
  refine yin X0 hx hby d5_14 rfl ?_
  refine st2 _ ?_
  refine XS.astoreN X2.here hx rfl (hb hby d5_17) rfl rfl (l' := (l138_0 w1 b2)) rfl ?_
  refine yan X2 hx hby d5_18 rfl rfl ?_
  refine XS.iconst X2.here hx rfl (hb hby d5_19) ?_
  refine yan X2 hx hby d5_20 rfl rfl ?_
  refine XS.iconst X2.here hx rfl (hb hby d5_21) ?_
  refine yan X2 hx hby d5_22 rfl rfl ?_
  refine X2.arraylength hx (by rw [e2]; exact Ar3.1) (State.isArrayOf_alike hZ.alike Ar3.2.1) (g := (mkF m 23 (l138_0 w1 b2) [(.ref w1), (.int 0), (.ref b2), (.int 0), (.ref w1)])) rfl rfl (hb hby d5_23) _ ?_
  rw [len_of Sa3 Na3]
  refine yin X2 hx hby d5_24 rfl ?_
  exact k
 rcases hQ4 with ⟨hc6, rfl, Nq7, e8⟩ | ⟨hc9, rfl, Nq10, e11⟩
 ·
  exact absurd hc6 (by decide : ¬ ((2 : Int32) < (0 : Int32)))
 ·
  have N4 := Fr.app N0 Nq10
  obtain ⟨T12, h12, L12, X12, e12, N12, K12, VV12, st12⟩ := cpA X4 hx hZ hown (own_w hw 44 rfl) (w_47 hw) (w_45 hw) (w_46 hw) e11 (us := []) (A_w1.ext O2.2) V2 (Or.inl ⟨rfl, rfl⟩) (by decide) (by decide) (by decide) (by decide) (by decide) rfl (by first | decide | exact (by decide : 0 + 0 ≤ 2)) N4 g_b2 (g := (mkF m 28 (l138_0 w1 b2) [(.int 0), (.int 0), (.ref b2), (.int 0), (.ref w1)])) rfl (by rw [hml]; rfl) rfl (hb hby d5_28) (by decide) (W := 0) (by show 2 * 0 + _ ≤ _; exact Nat.le_of_eq rfl) (by decide)
  have V12 : Arv Z h12 b2 k2 .byte (2 : Int32) [(.int 0), (.int 0)] (.int 0) := VV12
  obtain ⟨fs, hr, hrun, hended, hW, hsame⟩ := X12.leave (v := some (.ref b2)) (fun h => by rw [hret] at h; cases h)
  have KL : Keep h0 h12 [] := (((Keep.refl h0 []).ext E2).trans K12 (allS (Or.inr (Nat.le_trans (Nat.le_refl _) sz_b2)) all0))
  have f13 := (EX2.keep K12)
  refine ⟨_, _, pre5 _ ?_, hrun, hended, _, _, rfl, ?_, ⟨_, rfl⟩, hW, hsame.mono (by decide) (by decide)⟩
  ·
   refine st4 _ ?_
   refine st12 _ ?_
   refine yan X12 hx hby d5_31 rfl rfl ?_
   show Steps p.tables e below (T12.setTop (mkF m 32 (l138_0 w1 b2) [(.ref b2)])) _
   exact retOut X12 hx hret rfl (Or.inr (Or.inr (Or.inr (Or.inr ⟨rfl, rfl, rfl⟩)))) (hb hby d5_32) hr
  ·
   show Q6 Z w1 kw1 h0 n0 _ T12.heap _
   rw [e12]
   exact ⟨b2, k2, rfl, N12, KL, (Nat.le_trans (Nat.le_refl _) sz_b2), V12, f13⟩
theorem pd3 : parseMethodDescriptor "([BI)[B" = some ⟨[(.array .byte), .int], some (.array .byte)⟩ := by decide +kernel
theorem d2_103 : decode prog_6_method_5_code 103 = .ok (.putfield 13, 3) := by decide +kernel
theorem d2_106 : decode prog_6_method_5_code 106 = .ok (.aload_n 0, 1) := by decide +kernel
theorem d2_107 : decode prog_6_method_5_code 107 = .ok (.getfield 13, 3) := by decide +kernel
theorem d2_110 : decode prog_6_method_5_code 110 = .ok (.iload_n 1, 1) := by decide +kernel
theorem d2_111 : decode prog_6_method_5_code 111 = .ok (.aload_n 0, 1) := by decide +kernel
theorem d2_112 : decode prog_6_method_5_code 112 = .ok (.getfield 16, 3) := by decide +kernel
theorem d2_115 : decode prog_6_method_5_code 115 = .ok (.imul, 1) := by decide +kernel
theorem d2_116 : decode prog_6_method_5_code 116 = .ok (.aload_n 0, 1) := by decide +kernel
theorem d2_117 : decode prog_6_method_5_code 117 = .ok (.getfield 13, 3) := by decide +kernel
theorem d2_120 : decode prog_6_method_5_code 120 = .ok (.iload_n 1, 1) := by decide +kernel
theorem d2_121 : decode prog_6_method_5_code 121 = .ok (.iload 4, 2) := by decide +kernel
theorem d2_123 : decode prog_6_method_5_code 123 = .ok (.iadd, 1) := by decide +kernel
theorem d2_124 : decode prog_6_method_5_code 124 = .ok (.aload_n 0, 1) := by decide +kernel
theorem d2_125 : decode prog_6_method_5_code 125 = .ok (.getfield 16, 3) := by decide +kernel
theorem d2_128 : decode prog_6_method_5_code 128 = .ok (.imul, 1) := by decide +kernel
theorem d2_129 : decode prog_6_method_5_code 129 = .ok (.aload_n 0, 1) := by decide +kernel
theorem d2_130 : decode prog_6_method_5_code 130 = .ok (.getfield 25, 3) := by decide +kernel
theorem d2_133 : decode prog_6_method_5_code 133 = .ok (.iload_n 1, 1) := by decide +kernel
theorem d2_134 : decode prog_6_method_5_code 134 = .ok (.isub, 1) := by decide +kernel
theorem d2_135 : decode prog_6_method_5_code 135 = .ok (.aload_n 0, 1) := by decide +kernel
theorem d2_136 : decode prog_6_method_5_code 136 = .ok (.getfield 16, 3) := by decide +kernel
theorem d2_139 : decode prog_6_method_5_code 139 = .ok (.imul, 1) := by decide +kernel
theorem d2_140 : decode prog_6_method_5_code 140 = .ok (.invokestatic 48, 3) := by decide +kernel
theorem d2_143 : decode prog_6_method_5_code 143 = .ok (.aload_n 0, 1) := by decide +kernel
theorem d2_144 : decode prog_6_method_5_code 144 = .ok (.dup, 1) := by decide +kernel
theorem d2_145 : decode prog_6_method_5_code 145 = .ok (.getfield 25, 3) := by decide +kernel
theorem d2_148 : decode prog_6_method_5_code 148 = .ok (.iload 4, 2) := by decide +kernel
theorem d2_150 : decode prog_6_method_5_code 150 = .ok (.iadd, 1) := by decide +kernel
theorem d2_151 : decode prog_6_method_5_code 151 = .ok (.putfield 25, 3) := by decide +kernel
theorem d2_154 : decode prog_6_method_5_code 154 = .ok (.iconst 0, 1) := by decide +kernel
theorem d2_155 : decode prog_6_method_5_code 155 = .ok (.istore 7, 2) := by decide +kernel
theorem d2_157 : decode prog_6_method_5_code 157 = .ok (.iload 7, 2) := by decide +kernel
theorem d2_159 : decode prog_6_method_5_code 159 = .ok (.iload 4, 2) := by decide +kernel
theorem d2_161 : decode prog_6_method_5_code 161 = .ok (.if_icmp .ge 23, 3) := by decide +kernel
theorem d2_164 : decode prog_6_method_5_code 164 = .ok (.aload_n 0, 1) := by decide +kernel
theorem d2_165 : decode prog_6_method_5_code 165 = .ok (.iload_n 1, 1) := by decide +kernel
theorem d2_166 : decode prog_6_method_5_code 166 = .ok (.iload 7, 2) := by decide +kernel
theorem d2_168 : decode prog_6_method_5_code 168 = .ok (.iadd, 1) := by decide +kernel
theorem d2_169 : decode prog_6_method_5_code 169 = .ok (.aload_n 2, 1) := by decide +kernel
theorem d2_170 : decode prog_6_method_5_code 170 = .ok (.iload_n 3, 1) := by decide +kernel
theorem d2_171 : decode prog_6_method_5_code 171 = .ok (.iload 7, 2) := by decide +kernel
theorem d2_173 : decode prog_6_method_5_code 173 = .ok (.iadd, 1) := by decide +kernel
theorem d2_174 : decode prog_6_method_5_code 174 = .ok (.iaload, 1) := by decide +kernel
theorem d2_175 : decode prog_6_method_5_code 175 = .ok (.invokevirtual 28, 3) := by decide +kernel
theorem d7_0 : decode prog_6_method_9_code 0 = .ok (.iload_n 1, 1) := by decide +kernel
theorem d7_1 : decode prog_6_method_9_code 1 = .ok (.aload_n 0, 1) := by decide +kernel
theorem d7_2 : decode prog_6_method_9_code 2 = .ok (.getfield 16, 3) := by decide +kernel
theorem d7_5 : decode prog_6_method_9_code 5 = .ok (.imul, 1) := by decide +kernel
theorem d7_6 : decode prog_6_method_9_code 6 = .ok (.istore_n 3, 1) := by decide +kernel
theorem d7_7 : decode prog_6_method_9_code 7 = .ok (.aload_n 0, 1) := by decide +kernel
theorem d7_8 : decode prog_6_method_9_code 8 = .ok (.getfield 16, 3) := by decide +kernel
theorem d7_11 : decode prog_6_method_9_code 11 = .ok (.iconst 1, 1) := by decide +kernel
theorem d7_12 : decode prog_6_method_9_code 12 = .ok (.isub, 1) := by decide +kernel
theorem d7_13 : decode prog_6_method_9_code 13 = .ok (.istore 4, 2) := by decide +kernel
theorem d7_15 : decode prog_6_method_9_code 15 = .ok (.iload 4, 2) := by decide +kernel
theorem d7_17 : decode prog_6_method_9_code 17 = .ok (.ifCond .lt 25, 3) := by decide +kernel
theorem d7_20 : decode prog_6_method_9_code 20 = .ok (.aload_n 0, 1) := by decide +kernel
theorem d7_21 : decode prog_6_method_9_code 21 = .ok (.getfield 13, 3) := by decide +kernel
theorem d7_24 : decode prog_6_method_9_code 24 = .ok (.iload_n 3, 1) := by decide +kernel
theorem d7_25 : decode prog_6_method_9_code 25 = .ok (.iload 4, 2) := by decide +kernel
theorem d7_27 : decode prog_6_method_9_code 27 = .ok (.iadd, 1) := by decide +kernel
theorem d7_28 : decode prog_6_method_9_code 28 = .ok (.iload_n 2, 1) := by decide +kernel
theorem d7_29 : decode prog_6_method_9_code 29 = .ok (.i2b, 1) := by decide +kernel
theorem d7_30 : decode prog_6_method_9_code 30 = .ok (.bastore, 1) := by decide +kernel
theorem d7_31 : decode prog_6_method_9_code 31 = .ok (.iload_n 2, 1) := by decide +kernel
theorem d7_32 : decode prog_6_method_9_code 32 = .ok (.bipush 8, 2) := by decide +kernel
theorem d7_34 : decode prog_6_method_9_code 34 = .ok (.iushr, 1) := by decide +kernel
theorem d7_35 : decode prog_6_method_9_code 35 = .ok (.istore_n 2, 1) := by decide +kernel
theorem d7_36 : decode prog_6_method_9_code 36 = .ok (.iinc 4 (-1), 3) := by decide +kernel
theorem d7_39 : decode prog_6_method_9_code 39 = .ok (.goto (-24), 3) := by decide +kernel
theorem d7_42 : decode prog_6_method_9_code 42 = .ok (.return_, 1) := by decide +kernel
def l211_0 (o1 : Addr) (p2 : Int32) : Array Slot := #[.val (.ref o1), .val (.int 0), .val (.int ((p2.toUInt32 >>> ((8 : Int32) &&& 31).toUInt32).toInt32)), .val (.int 0), .val (.int (-1))]
def l211_1 (o1 : Addr) (p2 : Int32) : Array Slot := #[.val (.ref o1), .val (.int 0), .val (.int p2), .val (.int 0), .val (.int 0)]
theorem ef7 (m : MethodId) (x0 : Addr) (x1 x2 : Int32) : entryFrame m #[(.ref x0), (.int x1), (.int x2)] 5 = mkF m 0 #[.val (.ref x0), .val (.int x1), .val (.int x2), .unset, .unset] [] := by first | (simp [entryFrame, mkF, argsToLocals, Value.category]; done) | rfl
def Q7 (Z : State) (o1 o3 : Addr) (kc4 : ClassId) (p2 : Int32) (h0 : Heap) (n0 : Nat) (v : Option Value) (h : Heap) (L : List Loc) : Prop :=
  (v = none ∧ Fr n0 L ∧ Keep h0 h [o3] ∧ (Arv Z h o3 kc4 .byte (2 : Int32) [(.int (p2.toInt8.toInt32)), (.int 0)] (.int 0)) ∧ (Exa Z h o3 "[B"))
set_option maxRecDepth 65536 in
set_option maxHeartbeats 40000000 in
theorem rm7 (l : Launch) (Z : State) (a0 : Array Value) (hw : HW a0 Z) (ws : List Jvm.Cond) (o1 o3 : Addr) (kc4 : ClassId) (p2 : Int32) (h0 : Heap) (n0 : Nat) (O0 : Old Z n0 h0) (g_o1 : n0 ≤ o1) (g_o3 : n0 ≤ o3) (P1 : Fld Z h0 o1 "com/example/driftless/driftless/CodePoints" "bytes" "[B" (.ref o3)) (P3 : Fld Z h0 o1 "com/example/driftless/driftless/CodePoints" "width" "I" (.int 1)) (P4 : Arv Z h0 o3 kc4 .byte (2 : Int32) [(.int 0), (.int 0)] (.int 0)) (P5 : Exa Z h0 o3 "[B") :
    MF l yn6 prog_6_method_9_code 5 none ws ({ frames := 0, cells := 0, slots := 0, locals := 0 } : Room) #[(.ref o1), (.int 0), (.int p2)] Z h0 (Q7 Z o1 o3 kc4 p2 h0 n0) := by
 refine MetFree.of_bodySF (plainFor_of_name pn1) hisR ?_
 intro p e s m args below meth c s₁ Bd hml hP hK
 obtain ⟨rfl, hZ, hh⟩ := hP
 obtain ⟨hx, hby, hown, hret, hlk, X0, e0, N0⟩ := own_bd Bd hh n0
 have pre0 := own_ct s₁ (p := p) (e := e) (below := below) (ef7 m o1 (0 : Int32) p2)
 obtain ⟨T1, X1, e1, st1⟩ := yag X0 hx hZ hown hby (w_20 hw) e0 P3 1 #[.val (.ref o1), .val (.int 0), .val (.int p2), .unset, .unset] [(.int 0)] d7_1 d7_2 rfl
 obtain ⟨T2, X2, e2, st2⟩ := yag X1 hx hZ hown hby (w_20 hw) e1 P3 7 #[.val (.ref o1), .val (.int 0), .val (.int p2), .val (.int 0), .unset] [] d7_7 d7_8 rfl
 obtain ⟨T3, X3, e3, st3⟩ := yag X2 hx hZ hown hby (w_18 hw) e2 P1 20 (l211_1 o1 p2) [] d7_20 d7_21 rfl
 obtain ⟨cl4, Ar4, qa4, Sa4, Na4, Ha4, Ga4⟩ := id (P4)
 have hin4 := inb_of (j := (0 : Int32)) Sa4 ⟨by decide, by decide⟩
 obtain ⟨T5, h5, X5, e5, W5, st5⟩ := stB X3 hx hZ e3 Ar4 (j := (0 : Int32)) hin4 (g := (mkF m 30 (l211_1 o1 p2) [(.int (p2.toInt8.toInt32)), (.int 0), (.ref o3)])) rfl rfl (hb hby d7_30)
 rw [own_nb8] at W5
 have V5 : Arv Z h5 o3 kc4 .byte (2 : Int32) [(.int (p2.toInt8.toInt32)), (.int 0)] (.int 0) := Arv.set Ar4 qa4 Sa4 Na4 Ha4 Ga4 (fits_nar_byte _) W5 0 rfl (Nat.le_of_ble_eq_true rfl)
 have N5 := Fr.snoc X5 N0 g_o3
 obtain ⟨fs, hr, hrun, hended, hW, hsame⟩ := X5.leave (v := none) (fun _ => rfl)
 have KL : Keep h0 h5 [o3] := ((Keep.refl h0 [o3]).wr W5 (Or.inl (List.mem_of_getElem? (i := 0) rfl)))
 have f6 := (P5.wr W5)
 refine ⟨_, _, pre0 _ ?_, hrun, hended, _, _, rfl, ?_, ⟨_, rfl⟩, hW, hsame.mono (by decide) (by decide)⟩
 ·
  refine yin X0 hx hby d7_0 rfl ?_
  refine st1 _ ?_
  refine XS.imul X1.here hx rfl (hb hby d7_5) rfl ?_
  refine yit X1 hx hby d7_6 (l' := #[.val (.ref o1), .val (.int 0), .val (.int p2), .val (.int 0), .unset]) rfl ?_
  refine st2 _ ?_
  refine XS.iconst X2.here hx rfl (hb hby d7_11) ?_
  refine ysu X2 hx hby d7_12 ?_
  refine yis X2 hx hby d7_13 (l' := (l211_1 o1 p2)) rfl ?_
  refine yil X2 hx hby d7_15 rfl ?_
  refine XS.ifNo X2.here hx rfl (hb hby d7_17) rfl ((if0 _ _).trans (flt (by decide : ¬ ((0 : Int32) < (0 : Int32)))).1) ?_
  refine st3 _ ?_
  refine yin X3 hx hby d7_24 rfl ?_
  refine yil X3 hx hby d7_25 rfl ?_
  refine yad X3 hx hby d7_27 ?_
  refine yin X3 hx hby d7_28 rfl ?_
  refine XS.i2b X3.here hx rfl (hb hby d7_29) rfl ?_
  refine st5 _ ?_
  refine yin X5 hx hby d7_31 rfl ?_
  refine XS.bipush X5.here hx rfl (hb hby d7_32) ?_
  refine XS.iushr X5.here hx rfl (hb hby d7_34) rfl ?_
  refine yit X5 hx hby d7_35 (l' := #[.val (.ref o1), .val (.int 0), .val (.int ((p2.toUInt32 >>> ((8 : Int32) &&& 31).toUInt32).toInt32)), .val (.int 0), .val (.int 0)]) rfl ?_
  refine XS.iinc X5.here hx rfl (hb hby d7_36) rfl (l' := (l211_0 o1 p2)) rfl ?_
  refine ygo X5 hx hby 39 15 rfl d7_39 (by decide) ?_
  refine yil X5 hx hby d7_15 rfl ?_
  refine XS.ifYes X5.here hx rfl (pc0 := 17) (pc' := 42) rfl (hb hby d7_17) rfl ((if0 _ _).trans (tlt (by decide : (-1 : Int32) < (0 : Int32))).1) (by decide) (by decide) ?_
  show Steps p.tables e below (T5.setTop (mkF m 42 (l211_0 o1 p2) [])) _
  exact X5.returnOut hx hret (hb hby d7_42) hr
 ·
  show Q7 Z o1 o3 kc4 p2 h0 n0 _ T5.heap _
  rw [e5]
  exact ⟨rfl, N5, KL, V5, f6⟩
theorem pd4 : parseMethodDescriptor "(II)V" = some ⟨[.int, .int], none⟩ := by decide +kernel
theorem d2_178 : decode prog_6_method_5_code 178 = .ok (.iinc 7 1, 3) := by decide +kernel
theorem d2_181 : decode prog_6_method_5_code 181 = .ok (.goto (-24), 3) := by decide +kernel
def l215_0 (o1 : Addr) (p2 : Int32) : Array Slot := #[.val (.ref o1), .val (.int 1), .val (.int ((p2.toUInt32 >>> ((8 : Int32) &&& 31).toUInt32).toInt32)), .val (.int 1), .val (.int (-1))]
def l215_1 (o1 : Addr) (p2 : Int32) : Array Slot := #[.val (.ref o1), .val (.int 1), .val (.int p2), .val (.int 1), .val (.int 0)]
theorem ef8 (m : MethodId) (x0 : Addr) (x1 x2 : Int32) : entryFrame m #[(.ref x0), (.int x1), (.int x2)] 5 = mkF m 0 #[.val (.ref x0), .val (.int x1), .val (.int x2), .unset, .unset] [] := by first | (simp [entryFrame, mkF, argsToLocals, Value.category]; done) | rfl
def Q8 (Z : State) (o1 o3 : Addr) (kc4 : ClassId) (p5 p2 : Int32) (h0 : Heap) (n0 : Nat) (v : Option Value) (h : Heap) (L : List Loc) : Prop :=
  (v = none ∧ Fr n0 L ∧ Keep h0 h [o3] ∧ (Arv Z h o3 kc4 .byte (2 : Int32) [(.int p5), (.int (p2.toInt8.toInt32))] (.int 0)) ∧ (Exa Z h o3 "[B"))
set_option maxRecDepth 65536 in
set_option maxHeartbeats 40000000 in
theorem rm8 (l : Launch) (Z : State) (a0 : Array Value) (hw : HW a0 Z) (ws : List Jvm.Cond) (o1 o3 : Addr) (kc4 : ClassId) (p5 p2 : Int32) (h0 : Heap) (n0 : Nat) (O0 : Old Z n0 h0) (g_o1 : n0 ≤ o1) (g_o3 : n0 ≤ o3) (P1 : Fld Z h0 o1 "com/example/driftless/driftless/CodePoints" "bytes" "[B" (.ref o3)) (P3 : Fld Z h0 o1 "com/example/driftless/driftless/CodePoints" "width" "I" (.int 1)) (P4 : Arv Z h0 o3 kc4 .byte (2 : Int32) [(.int p5), (.int 0)] (.int 0)) (P5 : Exa Z h0 o3 "[B") :
    MF l yn6 prog_6_method_9_code 5 none ws ({ frames := 0, cells := 0, slots := 0, locals := 0 } : Room) #[(.ref o1), (.int 1), (.int p2)] Z h0 (Q8 Z o1 o3 kc4 p5 p2 h0 n0) := by
 refine MetFree.of_bodySF (plainFor_of_name pn1) hisR ?_
 intro p e s m args below meth c s₁ Bd hml hP hK
 obtain ⟨rfl, hZ, hh⟩ := hP
 obtain ⟨hx, hby, hown, hret, hlk, X0, e0, N0⟩ := own_bd Bd hh n0
 have pre0 := own_ct s₁ (p := p) (e := e) (below := below) (ef8 m o1 (1 : Int32) p2)
 obtain ⟨T1, X1, e1, st1⟩ := yag X0 hx hZ hown hby (w_20 hw) e0 P3 1 #[.val (.ref o1), .val (.int 1), .val (.int p2), .unset, .unset] [(.int 1)] d7_1 d7_2 rfl
 obtain ⟨T2, X2, e2, st2⟩ := yag X1 hx hZ hown hby (w_20 hw) e1 P3 7 #[.val (.ref o1), .val (.int 1), .val (.int p2), .val (.int 1), .unset] [] d7_7 d7_8 rfl
 obtain ⟨T3, X3, e3, st3⟩ := yag X2 hx hZ hown hby (w_18 hw) e2 P1 20 (l215_1 o1 p2) [] d7_20 d7_21 rfl
 obtain ⟨cl4, Ar4, qa4, Sa4, Na4, Ha4, Ga4⟩ := id (P4)
 have hin4 := inb_of (j := (1 : Int32)) Sa4 ⟨by decide, by decide⟩
 obtain ⟨T5, h5, X5, e5, W5, st5⟩ := stB X3 hx hZ e3 Ar4 (j := (1 : Int32)) hin4 (g := (mkF m 30 (l215_1 o1 p2) [(.int (p2.toInt8.toInt32)), (.int 1), (.ref o3)])) rfl rfl (hb hby d7_30)
 rw [own_nb8] at W5
 have V5 : Arv Z h5 o3 kc4 .byte (2 : Int32) [(.int p5), (.int (p2.toInt8.toInt32))] (.int 0) := Arv.set Ar4 qa4 Sa4 Na4 Ha4 Ga4 (fits_nar_byte _) W5 1 rfl (Nat.le_of_ble_eq_true rfl)
 have N5 := Fr.snoc X5 N0 g_o3
 obtain ⟨fs, hr, hrun, hended, hW, hsame⟩ := X5.leave (v := none) (fun _ => rfl)
 have KL : Keep h0 h5 [o3] := ((Keep.refl h0 [o3]).wr W5 (Or.inl (List.mem_of_getElem? (i := 0) rfl)))
 have f6 := (P5.wr W5)
 refine ⟨_, _, pre0 _ ?_, hrun, hended, _, _, rfl, ?_, ⟨_, rfl⟩, hW, hsame.mono (by decide) (by decide)⟩
 ·
  refine yin X0 hx hby d7_0 rfl ?_
  refine st1 _ ?_
  refine XS.imul X1.here hx rfl (hb hby d7_5) rfl ?_
  refine yit X1 hx hby d7_6 (l' := #[.val (.ref o1), .val (.int 1), .val (.int p2), .val (.int 1), .unset]) rfl ?_
  refine st2 _ ?_
  refine XS.iconst X2.here hx rfl (hb hby d7_11) ?_
  refine ysu X2 hx hby d7_12 ?_
  refine yis X2 hx hby d7_13 (l' := (l215_1 o1 p2)) rfl ?_
  refine yil X2 hx hby d7_15 rfl ?_
  refine XS.ifNo X2.here hx rfl (hb hby d7_17) rfl ((if0 _ _).trans (flt (by decide : ¬ ((0 : Int32) < (0 : Int32)))).1) ?_
  refine st3 _ ?_
  refine yin X3 hx hby d7_24 rfl ?_
  refine yil X3 hx hby d7_25 rfl ?_
  refine yad X3 hx hby d7_27 ?_
  refine yin X3 hx hby d7_28 rfl ?_
  refine XS.i2b X3.here hx rfl (hb hby d7_29) rfl ?_
  refine st5 _ ?_
  refine yin X5 hx hby d7_31 rfl ?_
  refine XS.bipush X5.here hx rfl (hb hby d7_32) ?_
  refine XS.iushr X5.here hx rfl (hb hby d7_34) rfl ?_
  refine yit X5 hx hby d7_35 (l' := #[.val (.ref o1), .val (.int 1), .val (.int ((p2.toUInt32 >>> ((8 : Int32) &&& 31).toUInt32).toInt32)), .val (.int 1), .val (.int 0)]) rfl ?_
  refine XS.iinc X5.here hx rfl (hb hby d7_36) rfl (l' := (l215_0 o1 p2)) rfl ?_
  refine ygo X5 hx hby 39 15 rfl d7_39 (by decide) ?_
  refine yil X5 hx hby d7_15 rfl ?_
  refine XS.ifYes X5.here hx rfl (pc0 := 17) (pc' := 42) rfl (hb hby d7_17) rfl ((if0 _ _).trans (tlt (by decide : (-1 : Int32) < (0 : Int32))).1) (by decide) (by decide) ?_
  show Steps p.tables e below (T5.setTop (mkF m 42 (l215_0 o1 p2) [])) _
  exact X5.returnOut hx hret (hb hby d7_42) hr
 ·
  show Q8 Z o1 o3 kc4 p5 p2 h0 n0 _ T5.heap _
  rw [e5]
  exact ⟨rfl, N5, KL, V5, f6⟩
theorem d2_184 : decode prog_6_method_5_code 184 = .ok (.return_, 1) := by decide +kernel
theorem d2_47 : decode prog_6_method_5_code 47 = .ok (.aload_n 0, 1) := by decide +kernel
theorem d2_48 : decode prog_6_method_5_code 48 = .ok (.iload 5, 2) := by decide +kernel
theorem d2_50 : decode prog_6_method_5_code 50 = .ok (.invokevirtual 38, 3) := by decide +kernel
theorem d8_0 : decode prog_6_method_10_code 0 = .ok (.new 8, 3) := by decide +kernel
theorem d8_3 : decode prog_6_method_10_code 3 = .ok (.dup, 1) := by decide +kernel
theorem d8_4 : decode prog_6_method_10_code 4 = .ok (.invokespecial 20, 3) := by decide +kernel
theorem d8_7 : decode prog_6_method_10_code 7 = .ok (.astore_n 2, 1) := by decide +kernel
theorem d8_8 : decode prog_6_method_10_code 8 = .ok (.aload_n 2, 1) := by decide +kernel
theorem d8_9 : decode prog_6_method_10_code 9 = .ok (.aload_n 0, 1) := by decide +kernel
theorem d8_10 : decode prog_6_method_10_code 10 = .ok (.getfield 13, 3) := by decide +kernel
theorem d8_13 : decode prog_6_method_10_code 13 = .ok (.putfield 13, 3) := by decide +kernel
theorem d8_16 : decode prog_6_method_10_code 16 = .ok (.aload_n 2, 1) := by decide +kernel
theorem d8_17 : decode prog_6_method_10_code 17 = .ok (.aload_n 0, 1) := by decide +kernel
theorem d8_18 : decode prog_6_method_10_code 18 = .ok (.getfield 16, 3) := by decide +kernel
theorem d8_21 : decode prog_6_method_10_code 21 = .ok (.putfield 16, 3) := by decide +kernel
theorem d8_24 : decode prog_6_method_10_code 24 = .ok (.aload_n 2, 1) := by decide +kernel
theorem d8_25 : decode prog_6_method_10_code 25 = .ok (.aload_n 0, 1) := by decide +kernel
theorem d8_26 : decode prog_6_method_10_code 26 = .ok (.getfield 25, 3) := by decide +kernel
theorem d8_29 : decode prog_6_method_10_code 29 = .ok (.putfield 25, 3) := by decide +kernel
theorem d8_32 : decode prog_6_method_10_code 32 = .ok (.aload_n 0, 1) := by decide +kernel
theorem d8_33 : decode prog_6_method_10_code 33 = .ok (.aload_n 0, 1) := by decide +kernel
theorem d8_34 : decode prog_6_method_10_code 34 = .ok (.getfield 25, 3) := by decide +kernel
theorem d8_37 : decode prog_6_method_10_code 37 = .ok (.iload_n 1, 1) := by decide +kernel
theorem d8_38 : decode prog_6_method_10_code 38 = .ok (.imul, 1) := by decide +kernel
theorem d8_39 : decode prog_6_method_10_code 39 = .ok (.newarray .byte, 2) := by decide +kernel
theorem d8_41 : decode prog_6_method_10_code 41 = .ok (.putfield 13, 3) := by decide +kernel
theorem d8_44 : decode prog_6_method_10_code 44 = .ok (.aload_n 0, 1) := by decide +kernel
theorem d8_45 : decode prog_6_method_10_code 45 = .ok (.iload_n 1, 1) := by decide +kernel
theorem d8_46 : decode prog_6_method_10_code 46 = .ok (.putfield 16, 3) := by decide +kernel
theorem d8_49 : decode prog_6_method_10_code 49 = .ok (.iconst 0, 1) := by decide +kernel
theorem d8_50 : decode prog_6_method_10_code 50 = .ok (.istore_n 3, 1) := by decide +kernel
theorem d8_51 : decode prog_6_method_10_code 51 = .ok (.iload_n 3, 1) := by decide +kernel
theorem d8_52 : decode prog_6_method_10_code 52 = .ok (.aload_n 0, 1) := by decide +kernel
theorem d8_53 : decode prog_6_method_10_code 53 = .ok (.getfield 25, 3) := by decide +kernel
theorem d8_56 : decode prog_6_method_10_code 56 = .ok (.if_icmp .ge 19, 3) := by decide +kernel
theorem d8_75 : decode prog_6_method_10_code 75 = .ok (.return_, 1) := by decide +kernel
def l253_0 (o1 b1 : Addr) : Array Slot := #[.val (.ref o1), .val (.int 2), .val (.ref b1), .val (.int 0)]
def l253_1 (o1 b1 : Addr) : Array Slot := #[.val (.ref o1), .val (.int 2), .val (.ref b1), .unset]
theorem ef9 (m : MethodId) (x0 : Addr) (x1 : Int32) : entryFrame m #[(.ref x0), (.int x1)] 4 = mkF m 0 #[.val (.ref x0), .val (.int x1), .unset, .unset] [] := by first | (simp [entryFrame, mkF, argsToLocals, Value.category]; done) | rfl
def Q9 (Z : State) (w1 : Addr) (kw1 : ClassId) (o1 : Addr) (h0 : Heap) (n0 : Nat) (v : Option Value) (h : Heap) (L : List Loc) : Prop :=
  (∃ b26 : Addr, ∃ k26 : ClassId, v = none ∧ Fr n0 L ∧ Keep h0 h [o1] ∧ h0.size ≤ b26 ∧ (Exa Z h o1 "com/example/driftless/driftless/CodePoints") ∧ (Fld Z h o1 "com/example/driftless/driftless/CodePoints" "bytes" "[B" (.ref b26)) ∧ (Fld Z h o1 "com/example/driftless/driftless/CodePoints" "length" "I" (.int 0)) ∧ (Fld Z h o1 "com/example/driftless/driftless/CodePoints" "width" "I" (.int 2)) ∧ (Arv Z h b26 k26 .byte (0 : Int32) [] (.int 0)) ∧ (Exa Z h b26 "[B"))
set_option maxRecDepth 65536 in
set_option maxHeartbeats 40000000 in
theorem rm9 (l : Launch) (Z : State) (a0 : Array Value) (hw : HW a0 Z) (w1 : Addr) (kw1 : ClassId) (G : GW Z w1 kw1) (ws : List Jvm.Cond) (o1 : Addr) (h0 : Heap) (n0 : Nat) (O0 : Old Z n0 h0) (g_o1 : n0 ≤ o1) (P0 : Exa Z h0 o1 "com/example/driftless/driftless/CodePoints") (P1 : Fld Z h0 o1 "com/example/driftless/driftless/CodePoints" "bytes" "[B" (.ref w1)) (P2 : Fld Z h0 o1 "com/example/driftless/driftless/CodePoints" "length" "I" (.int 0)) (P3 : Fld Z h0 o1 "com/example/driftless/driftless/CodePoints" "width" "I" (.int 1)) :
    MF l yn7 prog_6_method_10_code 4 none ws ({ frames := 2, cells := 2, slots := 3, locals := 25 } : Room) #[(.ref o1), (.int 2)] Z h0 (Q9 Z w1 kw1 o1 h0 n0) := by
 obtain ⟨S_w1, E_w1, A_w1⟩ := id G
 refine MetFree.of_bodySF (plainFor_of_name pn1) hisR ?_
 intro p e s m args below meth c s₁ Bd hml hP hK
 obtain ⟨rfl, hZ, hh⟩ := hP
 obtain ⟨hx, hby, hown, hret, hlk, X0, e0, N0⟩ := own_bd Bd hh n0
 have pre0 := own_ct s₁ (p := p) (e := e) (below := below) (ef9 m o1 (2 : Int32))
 obtain ⟨T1, h1, X1, e1, E1, A1, D1, -, st1⟩ := newO X0 hx hZ hown (own_w hw 69 rfl) (w_8 hw) (w_9 hw) e0 (g := (mkF m 0 #[.val (.ref o1), .val (.int 2), .unset, .unset] [])) rfl (hb hby d8_0) (by decide) (by decide)
 obtain ⟨b1, g1⟩ : ∃ z, z = h0.size := ⟨_, rfl⟩
 rw [← g1] at A1 D1 st1
 have M1 : h0.size ≤ h1.size := Nat.le_trans (Nat.le_refl _) E1.1
 have O1 := Old.ext O0 E1
 have sz_b1 : h0.size ≤ b1 := Nat.le_of_eq g1.symm
 have g_b1 : n0 ≤ b1 := Nat.le_trans (own_oz O0) (Nat.le_trans (Nat.le_refl _) sz_b1)
 have F1_19 : Fld Z h1 b1 "com/example/driftless/driftless/CodePoints" "bytes" "[B" .null := D1 (Or.inl (w_19 hw)) (ty := (.array .byte)) (by decide)
 have F1_21 : Fld Z h1 b1 "com/example/driftless/driftless/CodePoints" "width" "I" (.int 0) := D1 (Or.inl (w_21 hw)) (ty := .int) (by decide)
 have F1_35 : Fld Z h1 b1 "com/example/driftless/driftless/CodePoints" "length" "I" (.int 0) := D1 (Or.inl (w_35 hw)) (ty := .int) (by decide)
 obtain ⟨_, T2, L2, X2, hQ2, st2⟩ := own_sb X1 hx hZ hown (y := yn1) (own_w hw 70 rfl) (own_w hw 11 rfl) (own_w hw 12 rfl) (w_9 hw) e1 (a := b1) (argsL := []) (rest := [(.ref b1)]) (rm2 l Z a0 hw w1 kw1 G [] b1 h1 n0 O1 g_b1 A1 F1_19 F1_35 F1_21) (g := (mkF m 4 #[.val (.ref o1), .val (.int 2), .unset, .unset] [(.ref b1), (.ref b1)])) rfl (by rw [hml]; rfl) rfl (hb hby d8_4) (lenOf pd1 rfl) (W := 1) (c1 := 1) (s1 := 3)
 obtain ⟨rfl, Nq3, K4, f5, f6, f7, f8⟩ := hQ2
 have N2 := Fr.app N0 Nq3
 have M2 : h0.size ≤ T2.heap.size := Nat.le_trans M1 K4.1
 have lt9 : o1 < h0.size := P0.lt
 have ne10 : o1 ≠ b1 := Nat.ne_of_lt (Nat.lt_of_lt_of_le lt9 sz_b1)
 have f11 := ((P1.ext E1).keep K4 (ninS ne10 nin0))
 obtain ⟨T12, X12, e12, st12⟩ := yag X2 hx hZ hown hby (w_18 hw) rfl f11 9 (l253_1 o1 b1) [(.ref b1)] d8_9 d8_10 rfl
 obtain ⟨T13, h13, X13, e13, W13, st13⟩ := putF X12 hx hZ hown (host := "") (Or.inl (w_18 hw)) Via.refl e12 f6 f5 (Or.inl (w_19 hw)) (w_8 hw) (ty := (.array .byte)) (by decide) rfl rfl (g := (mkF m 13 (l253_1 o1 b1) [(.ref w1), (.ref b1)])) rfl rfl (hb hby d8_13)
 have N13 := Fr.snoc X13 N2 g_b1
 have M13 : h0.size ≤ h13.size := Nat.le_trans M2 (Nat.le_of_eq W13.size.symm)
 have f14 := (((P3.ext E1).keep K4 (ninS ne10 nin0)).other W13 (Or.inl ne10))
 obtain ⟨T15, X15, e15, st15⟩ := yag X13 hx hZ hown hby (w_20 hw) e13 f14 17 (l253_1 o1 b1) [(.ref b1)] d8_17 d8_18 rfl
 have f16 := (f8.other W13 (Or.inr (slot_ne (Or.inl (w_21 hw)) (Or.inl (w_19 hw)) (by decide) (t := .int) (t' := (.array .byte)) (by decide) (by decide))))
 have f17 := (f5.wr W13)
 obtain ⟨T18, h18, X18, e18, W18, st18⟩ := putF X15 hx hZ hown (host := "") (Or.inl (w_20 hw)) Via.refl e15 f16 f17 (Or.inl (w_21 hw)) (w_8 hw) (ty := .int) (by decide) rfl rfl (g := (mkF m 21 (l253_1 o1 b1) [(.int 1), (.ref b1)])) rfl rfl (hb hby d8_21)
 have N18 := Fr.snoc X18 N13 g_b1
 have M18 : h0.size ≤ h18.size := Nat.le_trans M13 (Nat.le_of_eq W18.size.symm)
 have f19 := ((((P2.ext E1).keep K4 (ninS ne10 nin0)).other W13 (Or.inl ne10)).other W18 (Or.inl ne10))
 obtain ⟨T20, X20, e20, st20⟩ := yag X18 hx hZ hown hby (w_34 hw) e18 f19 25 (l253_1 o1 b1) [(.ref b1)] d8_25 d8_26 rfl
 have f21 := ((f7.other W13 (Or.inr (slot_ne (Or.inl (w_35 hw)) (Or.inl (w_19 hw)) (by decide) (t := .int) (t' := (.array .byte)) (by decide) (by decide)))).other W18 (Or.inr (slot_ne (Or.inl (w_35 hw)) (Or.inl (w_21 hw)) (by decide) (t := .int) (t' := .int) (by decide) (by decide))))
 have f22 := (f17.wr W18)
 obtain ⟨T23, h23, X23, e23, W23, st23⟩ := putF X20 hx hZ hown (host := "") (Or.inl (w_34 hw)) Via.refl e20 f21 f22 (Or.inl (w_35 hw)) (w_8 hw) (ty := .int) (by decide) rfl rfl (g := (mkF m 29 (l253_1 o1 b1) [(.int 0), (.ref b1)])) rfl rfl (hb hby d8_29)
 have N23 := Fr.snoc X23 N18 g_b1
 have M23 : h0.size ≤ h23.size := Nat.le_trans M18 (Nat.le_of_eq W23.size.symm)
 have f24 := (f19.other W23 (Or.inl ne10))
 obtain ⟨T25, X25, e25, st25⟩ := yag X23 hx hZ hown hby (w_34 hw) e23 f24 33 (l253_1 o1 b1) [(.ref o1)] d8_33 d8_34 rfl
 obtain ⟨T26, h26, k26, X26, e26, E26, A26, EX26, st26⟩ := newPE X25 hx hZ (own_w hw 40 rfl) e25 (g := (mkF m 39 (l253_1 o1 b1) [(.int 0), (.ref o1)])) rfl (hb hby d8_39) rfl (by decide) (cap := 0) (by decide) (by decide) (by decide) (by decide) (ad := "[B") (by decide)
 obtain ⟨b26, g26⟩ : ∃ z, z = h23.size := ⟨_, rfl⟩
 rw [← g26] at A26 EX26 st26
 have sz_b26 : h23.size ≤ b26 := Nat.le_of_eq g26.symm
 have V26_0 := Arv.new A26 (by decide)
 have V26 : Arv Z h26 b26 k26 .byte (0 : Int32) [] (.int 0) := V26_0
 have f27 := ((((f11.other W13 (Or.inl ne10)).other W18 (Or.inl ne10)).other W23 (Or.inl ne10)).ext E26)
 have f28 := ((((((P0.ext E1).keep K4).wr W13).wr W18).wr W23).ext E26)
 obtain ⟨T29, h29, X29, e29, W29, st29⟩ := putF X26 hx hZ hown (host := "") (Or.inl (w_18 hw)) Via.refl e26 f27 f28 (Or.inl (w_19 hw)) (w_8 hw) (ty := (.array .byte)) (by decide) rfl rfl (g := (mkF m 41 (l253_1 o1 b1) [(.ref b26), (.ref o1)])) rfl rfl (hb hby d8_41)
 have N29 := Fr.snoc X29 N23 g_o1
 have Fw29 := f27.same W29
 have f30 := ((((f14.other W18 (Or.inl ne10)).other W23 (Or.inl ne10)).ext E26).other W29 (Or.inr (slot_ne (Or.inl (w_21 hw)) (Or.inl (w_19 hw)) (by decide) (t := .int) (t' := (.array .byte)) (by decide) (by decide))))
 have f31 := (f28.wr W29)
 obtain ⟨T32, h32, X32, e32, W32, st32⟩ := putF X29 hx hZ hown (host := "") (Or.inl (w_20 hw)) Via.refl e29 f30 f31 (Or.inl (w_21 hw)) (w_8 hw) (ty := .int) (by decide) rfl rfl (g := (mkF m 46 (l253_1 o1 b1) [(.int 2), (.ref o1)])) rfl rfl (hb hby d8_46)
 have N32 := Fr.snoc X32 N29 g_o1
 have Fw32 := f30.same W32
 have f33 := (((f24.ext E26).other W29 (Or.inr (slot_ne (Or.inl (w_35 hw)) (Or.inl (w_19 hw)) (by decide) (t := .int) (t' := (.array .byte)) (by decide) (by decide)))).other W32 (Or.inr (slot_ne (Or.inl (w_35 hw)) (Or.inl (w_21 hw)) (by decide) (t := .int) (t' := .int) (by decide) (by decide))))
 obtain ⟨T34, X34, e34, st34⟩ := yag X32 hx hZ hown hby (w_34 hw) e32 f33 52 (l253_0 o1 b1) [(.int 0)] d8_52 d8_53 rfl
 obtain ⟨fs, hr, hrun, hended, hW, hsame⟩ := X34.leave (v := none) (fun _ => rfl)
 have KL : Keep h0 h32 [o1] := (((((((((Keep.refl h0 [o1]).ext E1).trans K4 (allS (Or.inr (Nat.le_trans (Nat.le_refl _) sz_b1)) all0)).wr W13 (Or.inr (Nat.le_trans (Nat.le_refl _) sz_b1))).wr W18 (Or.inr (Nat.le_trans (Nat.le_refl _) sz_b1))).wr W23 (Or.inr (Nat.le_trans (Nat.le_refl _) sz_b1))).ext E26).wr W29 (Or.inl (List.mem_of_getElem? (i := 0) rfl))).wr W32 (Or.inl (List.mem_of_getElem? (i := 0) rfl)))
 have f35 := (f31.wr W32)
 have f36 := (Fw29.other W32 (Or.inr (slot_ne (Or.inl (w_19 hw)) (Or.inl (w_21 hw)) (by decide) (t := (.array .byte)) (t' := .int) (by decide) (by decide))))
 have lt37 : o1 < h23.size := (Nat.lt_of_lt_of_le (Nat.lt_of_lt_of_le (Nat.lt_of_lt_of_le (Nat.lt_of_lt_of_le (Nat.lt_of_lt_of_le P0.lt E1.1) K4.1) (Nat.le_of_eq W13.size.symm)) (Nat.le_of_eq W18.size.symm)) (Nat.le_of_eq W23.size.symm))
 have ne38 : o1 ≠ b26 := Nat.ne_of_lt (Nat.lt_of_lt_of_le lt37 sz_b26)
 have f39 := ((V26.other W29 (Ne.symm ne38)).other W32 (Ne.symm ne38))
 have f40 := ((EX26.wr W29).wr W32)
 refine ⟨_, _, pre0 _ ?_, hrun, hended, _, _, rfl, ?_, ⟨_, rfl⟩, hW, hsame.mono (by decide) (by decide)⟩
 ·
  refine st1 _ ?_
  refine XS.dup X1.here hx rfl (hb hby d8_3) rfl rfl ?_
  refine st2 _ ?_
  refine XS.astoreN X2.here hx rfl (hb hby d8_7) rfl rfl (l' := (l253_1 o1 b1)) rfl ?_
  refine yan X2 hx hby d8_8 rfl rfl ?_
  refine st12 _ ?_
  refine st13 _ ?_
  refine yan X13 hx hby d8_16 rfl rfl ?_
  refine st15 _ ?_
  refine st18 _ ?_
  refine yan X18 hx hby d8_24 rfl rfl ?_
  refine st20 _ ?_
  refine st23 _ ?_
  refine yan X23 hx hby d8_32 rfl rfl ?_
  refine st25 _ ?_
  refine yin X25 hx hby d8_37 rfl ?_
  refine XS.imul X25.here hx rfl (hb hby d8_38) rfl ?_
  refine st26 _ ?_
  refine st29 _ ?_
  refine yan X29 hx hby d8_44 rfl rfl ?_
  refine yin X29 hx hby d8_45 rfl ?_
  refine st32 _ ?_
  refine XS.iconst X32.here hx rfl (hb hby d8_49) ?_
  refine yit X32 hx hby d8_50 (l' := (l253_0 o1 b1)) rfl ?_
  refine yin X32 hx hby d8_51 rfl ?_
  refine st34 _ ?_
  refine yye X34 hx hby 56 75 rfl d8_56 (flt (by decide : ¬ ((0 : Int32) < (0 : Int32)))).2.1 (by decide) ?_
  show Steps p.tables e below (T34.setTop (mkF m 75 (l253_0 o1 b1) [])) _
  exact X34.returnOut hx hret (hb hby d8_75) hr
 ·
  show Q9 Z w1 kw1 o1 h0 n0 _ T34.heap _
  rw [e34]
  exact ⟨b26, k26, rfl, N32, KL, (Nat.le_trans M23 sz_b26), f35, f36, f33, Fw32, f39, f40⟩
theorem pd5 : parseMethodDescriptor "(I)V" = some ⟨[.int], none⟩ := by decide +kernel
def l255_0 (o1 b2 : Addr) : Array Slot := #[.val (.ref o1), .val (.int 4), .val (.ref b2)]
theorem ef10 (m : MethodId) (x0 : Addr) (x1 : Int32) : entryFrame m #[(.ref x0), (.int x1)] 3 = mkF m 0 #[.val (.ref x0), .val (.int x1), .unset] [] := by first | (simp [entryFrame, mkF, argsToLocals, Value.category]; done) | rfl
def Q10 (Z : State) (o1 : Addr) (kc2 : ClassId) (h0 : Heap) (n0 : Nat) (v : Option Value) (h : Heap) (L : List Loc) : Prop :=
  (∃ b2 : Addr, ∃ k2 : ClassId, v = some (.ref b2) ∧ Fr n0 L ∧ Keep h0 h [] ∧ h0.size ≤ b2 ∧ (Arv Z h b2 k2 .byte (4 : Int32) [(.int 0), (.int 0), (.int 0), (.int 0)] (.int 0)) ∧ (Exa Z h b2 "[B"))
set_option maxRecDepth 65536 in
set_option maxHeartbeats 40000000 in
theorem rm10 (l : Launch) (Z : State) (a0 : Array Value) (hw : HW a0 Z) (ws : List Jvm.Cond) (o1 : Addr) (kc2 : ClassId) (h0 : Heap) (n0 : Nat) (O0 : Old Z n0 h0) (g_o1 : n0 ≤ o1) (P0 : Arv Z h0 o1 kc2 .byte (0 : Int32) [] (.int 0)) :
    MF l yn5 jdk_65_method_121_code 3 (some (.array .byte)) ws ({ frames := 1, cells := 1, slots := 4, locals := 21 } : Room) #[(.ref o1), (.int 4)] Z h0 (Q10 Z o1 kc2 h0 n0) := by
 refine MetFree.of_bodySF (plainFor_of_name pn2) hisR ?_
 intro p e s m args below meth c s₁ Bd hml hP hK
 obtain ⟨rfl, hZ, hh⟩ := hP
 obtain ⟨hx, hby, hown, hret, hlk, X0, e0, N0⟩ := own_bd Bd hh n0
 have pre0 := own_ct s₁ (p := p) (e := e) (below := below) (ef10 m o1 (4 : Int32))
 revert pre0
 generalize s₁.setTop (entryFrame m #[(.ref o1), (.int 4)] 3) = E0
 intro pre0
 obtain ⟨cl1, Ar1, qa1, Sa1, Na1, Ha1, Ga1⟩ := id (P0)
 obtain ⟨T2, h2, k2, X2, e2, E2, A2, EX2, st2⟩ := newPE X0 hx hZ (own_w hw 40 rfl) e0 (g := (mkF m 15 #[.val (.ref o1), .val (.int 4), .unset] [(.int 4)])) rfl (hb hby d5_15) rfl (by decide) (cap := 4) (by decide) (by decide) (by decide) (by decide) (ad := "[B") (by decide)
 obtain ⟨b2, g2⟩ : ∃ z, z = h0.size := ⟨_, rfl⟩
 rw [← g2] at A2 EX2 st2
 have O2 := Old.ext O0 E2
 have sz_b2 : h0.size ≤ b2 := Nat.le_of_eq g2.symm
 have g_b2 : n0 ≤ b2 := Nat.le_trans (own_oz O0) (Nat.le_trans (Nat.le_refl _) sz_b2)
 have V2_0 := Arv.new A2 (by decide)
 have V2 : Arv Z h2 b2 k2 .byte (4 : Int32) [(.int 0), (.int 0), (.int 0), (.int 0)] (.int 0) := V2_0.pad (pad_rep [] (.int 0) 4)
 have f3 := (P0.ext E2)
 obtain ⟨cl4, Ar4, qa4, Sa4, Na4, Ha4, Ga4⟩ := id (f3)
 obtain ⟨_, T5, L5, X5, hQ5, st5⟩ := own_cs X2 hx hZ hown (y := yn4) (own_w hw 41 rfl) (own_w hw 42 rfl) (own_w hw 43 rfl) (w_32 hw) e2 (argsL := [(.int 0), (.int 4)]) (rest := [(.int 0), (.ref b2), (.int 0), (.ref o1)]) (rm5 l Z a0 hw [] ((0 : Int32)) ((4 : Int32)) h2 n0 O2 ) (g := (mkF m 25 (l255_0 o1 b2) [(.int 4), (.int 0), (.int 0), (.ref b2), (.int 0), (.ref o1)])) rfl (by rw [hml]; rfl) rfl (hb hby d5_25) (lenOf pd0 rfl) (W := 4) (c1 := 1) (s1 := 4)
 have pre6 : Go p e below T2 (mkF m 25 (l255_0 o1 b2) [(.int 4), (.int 0), (.int 0), (.ref b2), (.int 0), (.ref o1)]) E0 := fun t k => by
  refine pre0 _ ?_
  refine yin X0 hx hby d5_0 rfl ?_
  refine yan X0 hx hby d5_1 rfl rfl ?_
  refine X0.arraylength hx (by rw [e0]; exact Ar1.1) (State.isArrayOf_alike hZ.alike Ar1.2.1) (g := (mkF m 2 #[.val (.ref o1), .val (.int 4), .unset] [(.ref o1), (.int 4)])) rfl rfl (hb hby d5_2) _ ?_
  rw [len_of Sa1 Na1]
  refine yye X0 hx hby 3 14 rfl d5_3 (feq (by decide : ¬ ((4 : Int32) = (0 : Int32)))).2 (by decide) ?_
  refine yin X0 hx hby d5_14 rfl ?_
  refine st2 _ ?_
  refine XS.astoreN X2.here hx rfl (hb hby d5_17) rfl rfl (l' := (l255_0 o1 b2)) rfl ?_
  refine yan X2 hx hby d5_18 rfl rfl ?_
  refine XS.iconst X2.here hx rfl (hb hby d5_19) ?_
  refine yan X2 hx hby d5_20 rfl rfl ?_
  refine XS.iconst X2.here hx rfl (hb hby d5_21) ?_
  refine yan X2 hx hby d5_22 rfl rfl ?_
  refine X2.arraylength hx (by rw [e2]; exact Ar4.1) (State.isArrayOf_alike hZ.alike Ar4.2.1) (g := (mkF m 23 (l255_0 o1 b2) [(.ref o1), (.int 0), (.ref b2), (.int 0), (.ref o1)])) rfl rfl (hb hby d5_23) _ ?_
  rw [len_of Sa4 Na4]
  refine yin X2 hx hby d5_24 rfl ?_
  exact k
 rcases hQ5 with ⟨hc7, rfl, Nq8, e9⟩ | ⟨hc10, rfl, Nq11, e12⟩
 ·
  exact absurd hc7 (by decide : ¬ ((4 : Int32) < (0 : Int32)))
 ·
  have N5 := Fr.app N0 Nq11
  obtain ⟨T13, h13, L13, X13, e13, N13, K13, VV13, st13⟩ := cpA X5 hx hZ hown (own_w hw 44 rfl) (w_47 hw) (w_45 hw) (w_46 hw) e12 (us := []) f3 V2 (Or.inl ⟨rfl, rfl⟩) (by decide) (by decide) (by decide) (by decide) (by decide) rfl (by first | decide | exact (by decide : 0 + 0 ≤ 4)) N5 g_b2 (g := (mkF m 28 (l255_0 o1 b2) [(.int 0), (.int 0), (.ref b2), (.int 0), (.ref o1)])) rfl (by rw [hml]; rfl) rfl (hb hby d5_28) (by decide) (W := 0) (by show 2 * 0 + _ ≤ _; exact Nat.le_of_eq rfl) (by decide)
  have V13 : Arv Z h13 b2 k2 .byte (4 : Int32) [(.int 0), (.int 0), (.int 0), (.int 0)] (.int 0) := VV13
  obtain ⟨fs, hr, hrun, hended, hW, hsame⟩ := X13.leave (v := some (.ref b2)) (fun h => by rw [hret] at h; cases h)
  have KL : Keep h0 h13 [] := (((Keep.refl h0 []).ext E2).trans K13 (allS (Or.inr (Nat.le_trans (Nat.le_refl _) sz_b2)) all0))
  have f14 := (EX2.keep K13)
  refine ⟨_, _, pre6 _ ?_, hrun, hended, _, _, rfl, ?_, ⟨_, rfl⟩, hW, hsame.mono (by decide) (by decide)⟩
  ·
   refine st5 _ ?_
   refine st13 _ ?_
   refine yan X13 hx hby d5_31 rfl rfl ?_
   show Steps p.tables e below (T13.setTop (mkF m 32 (l255_0 o1 b2) [(.ref b2)])) _
   exact retOut X13 hx hret rfl (Or.inr (Or.inr (Or.inr (Or.inr ⟨rfl, rfl, rfl⟩)))) (hb hby d5_32) hr
  ·
   show Q10 Z o1 kc2 h0 n0 _ T13.heap _
   rw [e13]
   exact ⟨b2, k2, rfl, N13, KL, (Nat.le_trans (Nat.le_refl _) sz_b2), V13, f14⟩
def l256_0 (o1 : Addr) (p2 : Int32) : Array Slot := #[.val (.ref o1), .val (.int 0), .val (.int ((((p2.toUInt32 >>> ((8 : Int32) &&& 31).toUInt32).toInt32).toUInt32 >>> ((8 : Int32) &&& 31).toUInt32).toInt32)), .val (.int 0), .val (.int (-1))]
def l256_1 (o1 : Addr) (p2 : Int32) : Array Slot := #[.val (.ref o1), .val (.int 0), .val (.int ((((p2.toUInt32 >>> ((8 : Int32) &&& 31).toUInt32).toInt32).toUInt32 >>> ((8 : Int32) &&& 31).toUInt32).toInt32)), .val (.int 0), .val (.int 0)]
def l256_2 (o1 : Addr) (p2 : Int32) : Array Slot := #[.val (.ref o1), .val (.int 0), .val (.int ((p2.toUInt32 >>> ((8 : Int32) &&& 31).toUInt32).toInt32)), .val (.int 0), .val (.int 0)]
def l256_3 (o1 : Addr) (p2 : Int32) : Array Slot := #[.val (.ref o1), .val (.int 0), .val (.int p2), .val (.int 0), .val (.int 1)]
theorem ef11 (m : MethodId) (x0 : Addr) (x1 x2 : Int32) : entryFrame m #[(.ref x0), (.int x1), (.int x2)] 5 = mkF m 0 #[.val (.ref x0), .val (.int x1), .val (.int x2), .unset, .unset] [] := by first | (simp [entryFrame, mkF, argsToLocals, Value.category]; done) | rfl
def Q11 (Z : State) (o1 o3 : Addr) (kc4 : ClassId) (p2 : Int32) (h0 : Heap) (n0 : Nat) (v : Option Value) (h : Heap) (L : List Loc) : Prop :=
  (v = none ∧ Fr n0 L ∧ Keep h0 h [o3] ∧ (Arv Z h o3 kc4 .byte (4 : Int32) [(.int (((p2.toUInt32 >>> ((8 : Int32) &&& 31).toUInt32).toInt32).toInt8.toInt32)), (.int (p2.toInt8.toInt32)), (.int 0), (.int 0)] (.int 0)) ∧ (Exa Z h o3 "[B"))
set_option maxRecDepth 65536 in
set_option maxHeartbeats 40000000 in
theorem rm11 (l : Launch) (Z : State) (a0 : Array Value) (hw : HW a0 Z) (ws : List Jvm.Cond) (o1 o3 : Addr) (kc4 : ClassId) (p2 : Int32) (h0 : Heap) (n0 : Nat) (O0 : Old Z n0 h0) (g_o1 : n0 ≤ o1) (g_o3 : n0 ≤ o3) (P0 : Exa Z h0 o1 "com/example/driftless/driftless/CodePoints") (P1 : Fld Z h0 o1 "com/example/driftless/driftless/CodePoints" "bytes" "[B" (.ref o3)) (P3 : Fld Z h0 o1 "com/example/driftless/driftless/CodePoints" "width" "I" (.int 2)) (P4 : Arv Z h0 o3 kc4 .byte (4 : Int32) [(.int 0), (.int 0), (.int 0), (.int 0)] (.int 0)) (P5 : Exa Z h0 o3 "[B") :
    MF l yn6 prog_6_method_9_code 5 none ws ({ frames := 0, cells := 0, slots := 0, locals := 0 } : Room) #[(.ref o1), (.int 0), (.int p2)] Z h0 (Q11 Z o1 o3 kc4 p2 h0 n0) := by
 refine MetFree.of_bodySF (plainFor_of_name pn1) hisR ?_
 intro p e s m args below meth c s₁ Bd hml hP hK
 obtain ⟨rfl, hZ, hh⟩ := hP
 obtain ⟨hx, hby, hown, hret, hlk, X0, e0, N0⟩ := own_bd Bd hh n0
 have pre0 := own_ct s₁ (p := p) (e := e) (below := below) (ef11 m o1 (0 : Int32) p2)
 obtain ⟨T1, X1, e1, st1⟩ := yag X0 hx hZ hown hby (w_20 hw) e0 P3 1 #[.val (.ref o1), .val (.int 0), .val (.int p2), .unset, .unset] [(.int 0)] d7_1 d7_2 rfl
 obtain ⟨T2, X2, e2, st2⟩ := yag X1 hx hZ hown hby (w_20 hw) e1 P3 7 #[.val (.ref o1), .val (.int 0), .val (.int p2), .val (.int 0), .unset] [] d7_7 d7_8 rfl
 obtain ⟨T3, X3, e3, st3⟩ := yag X2 hx hZ hown hby (w_18 hw) e2 P1 20 (l256_3 o1 p2) [] d7_20 d7_21 rfl
 obtain ⟨cl4, Ar4, qa4, Sa4, Na4, Ha4, Ga4⟩ := id (P4)
 have hin4 := inb_of (j := (1 : Int32)) Sa4 ⟨by decide, by decide⟩
 obtain ⟨T5, h5, X5, e5, W5, st5⟩ := stB X3 hx hZ e3 Ar4 (j := (1 : Int32)) hin4 (g := (mkF m 30 (l256_3 o1 p2) [(.int (p2.toInt8.toInt32)), (.int 1), (.ref o3)])) rfl rfl (hb hby d7_30)
 rw [own_nb8] at W5
 have V5 : Arv Z h5 o3 kc4 .byte (4 : Int32) [(.int 0), (.int (p2.toInt8.toInt32)), (.int 0), (.int 0)] (.int 0) := Arv.set Ar4 qa4 Sa4 Na4 Ha4 Ga4 (fits_nar_byte _) W5 1 rfl (Nat.le_of_ble_eq_true rfl)
 have N5 := Fr.snoc X5 N0 g_o3
 have f6 := (P0.wr W5)
 have f7 := (P5.wr W5)
 have ne8 : o1 ≠ o3 := ne_exa f6 f7 (by decide)
 have f9 := (P1.other W5 (Or.inl ne8))
 obtain ⟨T10, X10, e10, st10⟩ := yag X5 hx hZ hown hby (w_18 hw) e5 f9 20 (l256_2 o1 p2) [] d7_20 d7_21 rfl
 obtain ⟨cl11, Ar11, qa11, Sa11, Na11, Ha11, Ga11⟩ := id (V5)
 have hin11 := inb_of (j := (0 : Int32)) Sa11 ⟨by decide, by decide⟩
 obtain ⟨T12, h12, X12, e12, W12, st12⟩ := stB X10 hx hZ e10 Ar11 (j := (0 : Int32)) hin11 (g := (mkF m 30 (l256_2 o1 p2) [(.int (((p2.toUInt32 >>> ((8 : Int32) &&& 31).toUInt32).toInt32).toInt8.toInt32)), (.int 0), (.ref o3)])) rfl rfl (hb hby d7_30)
 rw [own_nb8] at W12
 have V12 : Arv Z h12 o3 kc4 .byte (4 : Int32) [(.int (((p2.toUInt32 >>> ((8 : Int32) &&& 31).toUInt32).toInt32).toInt8.toInt32)), (.int (p2.toInt8.toInt32)), (.int 0), (.int 0)] (.int 0) := Arv.set Ar11 qa11 Sa11 Na11 Ha11 Ga11 (fits_nar_byte _) W12 0 rfl (Nat.le_of_ble_eq_true rfl)
 have N12 := Fr.snoc X12 N5 g_o3
 obtain ⟨fs, hr, hrun, hended, hW, hsame⟩ := X12.leave (v := none) (fun _ => rfl)
 have KL : Keep h0 h12 [o3] := (((Keep.refl h0 [o3]).wr W5 (Or.inl (List.mem_of_getElem? (i := 0) rfl))).wr W12 (Or.inl (List.mem_of_getElem? (i := 0) rfl)))
 have f13 := (f7.wr W12)
 refine ⟨_, _, pre0 _ ?_, hrun, hended, _, _, rfl, ?_, ⟨_, rfl⟩, hW, hsame.mono (by decide) (by decide)⟩
 ·
  refine yin X0 hx hby d7_0 rfl ?_
  refine st1 _ ?_
  refine XS.imul X1.here hx rfl (hb hby d7_5) rfl ?_
  refine yit X1 hx hby d7_6 (l' := #[.val (.ref o1), .val (.int 0), .val (.int p2), .val (.int 0), .unset]) rfl ?_
  refine st2 _ ?_
  refine XS.iconst X2.here hx rfl (hb hby d7_11) ?_
  refine ysu X2 hx hby d7_12 ?_
  refine yis X2 hx hby d7_13 (l' := (l256_3 o1 p2)) rfl ?_
  refine yil X2 hx hby d7_15 rfl ?_
  refine XS.ifNo X2.here hx rfl (hb hby d7_17) rfl ((if0 _ _).trans (flt (by decide : ¬ ((1 : Int32) < (0 : Int32)))).1) ?_
  refine st3 _ ?_
  refine yin X3 hx hby d7_24 rfl ?_
  refine yil X3 hx hby d7_25 rfl ?_
  refine yad X3 hx hby d7_27 ?_
  refine yin X3 hx hby d7_28 rfl ?_
  refine XS.i2b X3.here hx rfl (hb hby d7_29) rfl ?_
  refine st5 _ ?_
  refine yin X5 hx hby d7_31 rfl ?_
  refine XS.bipush X5.here hx rfl (hb hby d7_32) ?_
  refine XS.iushr X5.here hx rfl (hb hby d7_34) rfl ?_
  refine yit X5 hx hby d7_35 (l' := #[.val (.ref o1), .val (.int 0), .val (.int ((p2.toUInt32 >>> ((8 : Int32) &&& 31).toUInt32).toInt32)), .val (.int 0), .val (.int 1)]) rfl ?_
  refine XS.iinc X5.here hx rfl (hb hby d7_36) rfl (l' := (l256_2 o1 p2)) rfl ?_
  refine ygo X5 hx hby 39 15 rfl d7_39 (by decide) ?_
  refine yil X5 hx hby d7_15 rfl ?_
  refine XS.ifNo X5.here hx rfl (hb hby d7_17) rfl ((if0 _ _).trans (flt (by decide : ¬ ((0 : Int32) < (0 : Int32)))).1) ?_
  refine st10 _ ?_
  refine yin X10 hx hby d7_24 rfl ?_
  refine yil X10 hx hby d7_25 rfl ?_
  refine yad X10 hx hby d7_27 ?_
  refine yin X10 hx hby d7_28 rfl ?_
  refine XS.i2b X10.here hx rfl (hb hby d7_29) rfl ?_
  refine st12 _ ?_
  refine yin X12 hx hby d7_31 rfl ?_
  refine XS.bipush X12.here hx rfl (hb hby d7_32) ?_
  refine XS.iushr X12.here hx rfl (hb hby d7_34) rfl ?_
  refine yit X12 hx hby d7_35 (l' := (l256_1 o1 p2)) rfl ?_
  show Steps p.tables e below (T12.setTop (mkF m 36 (l256_1 o1 p2) [])) _
  refine XS.iinc X12.here hx rfl (hb hby d7_36) rfl (l' := (l256_0 o1 p2)) rfl ?_
  refine ygo X12 hx hby 39 15 rfl d7_39 (by decide) ?_
  refine yil X12 hx hby d7_15 rfl ?_
  refine XS.ifYes X12.here hx rfl (pc0 := 17) (pc' := 42) rfl (hb hby d7_17) rfl ((if0 _ _).trans (tlt (by decide : (-1 : Int32) < (0 : Int32))).1) (by decide) (by decide) ?_
  show Steps p.tables e below (T12.setTop (mkF m 42 (l256_0 o1 p2) [])) _
  exact X12.returnOut hx hret (hb hby d7_42) hr
 ·
  show Q11 Z o1 o3 kc4 p2 h0 n0 _ T12.heap _
  rw [e12]
  exact ⟨rfl, N12, KL, V12, f13⟩
def l257_0 (o1 : Addr) (p2 : Int32) : Array Slot := #[.val (.ref o1), .val (.int 1), .val (.int ((((p2.toUInt32 >>> ((8 : Int32) &&& 31).toUInt32).toInt32).toUInt32 >>> ((8 : Int32) &&& 31).toUInt32).toInt32)), .val (.int 2), .val (.int (-1))]
def l257_1 (o1 : Addr) (p2 : Int32) : Array Slot := #[.val (.ref o1), .val (.int 1), .val (.int ((((p2.toUInt32 >>> ((8 : Int32) &&& 31).toUInt32).toInt32).toUInt32 >>> ((8 : Int32) &&& 31).toUInt32).toInt32)), .val (.int 2), .val (.int 0)]
def l257_2 (o1 : Addr) (p2 : Int32) : Array Slot := #[.val (.ref o1), .val (.int 1), .val (.int ((p2.toUInt32 >>> ((8 : Int32) &&& 31).toUInt32).toInt32)), .val (.int 2), .val (.int 0)]
def l257_3 (o1 : Addr) (p2 : Int32) : Array Slot := #[.val (.ref o1), .val (.int 1), .val (.int p2), .val (.int 2), .val (.int 1)]
theorem ef12 (m : MethodId) (x0 : Addr) (x1 x2 : Int32) : entryFrame m #[(.ref x0), (.int x1), (.int x2)] 5 = mkF m 0 #[.val (.ref x0), .val (.int x1), .val (.int x2), .unset, .unset] [] := by first | (simp [entryFrame, mkF, argsToLocals, Value.category]; done) | rfl
def Q12 (Z : State) (o1 o3 : Addr) (kc4 : ClassId) (p5 p6 p2 : Int32) (h0 : Heap) (n0 : Nat) (v : Option Value) (h : Heap) (L : List Loc) : Prop :=
  (v = none ∧ Fr n0 L ∧ Keep h0 h [o3] ∧ (Arv Z h o3 kc4 .byte (4 : Int32) [(.int p5), (.int p6), (.int (((p2.toUInt32 >>> ((8 : Int32) &&& 31).toUInt32).toInt32).toInt8.toInt32)), (.int (p2.toInt8.toInt32))] (.int 0)) ∧ (Exa Z h o3 "[B"))
set_option maxRecDepth 65536 in
set_option maxHeartbeats 40000000 in
theorem rm12 (l : Launch) (Z : State) (a0 : Array Value) (hw : HW a0 Z) (ws : List Jvm.Cond) (o1 o3 : Addr) (kc4 : ClassId) (p5 p6 p2 : Int32) (h0 : Heap) (n0 : Nat) (O0 : Old Z n0 h0) (g_o1 : n0 ≤ o1) (g_o3 : n0 ≤ o3) (P0 : Exa Z h0 o1 "com/example/driftless/driftless/CodePoints") (P1 : Fld Z h0 o1 "com/example/driftless/driftless/CodePoints" "bytes" "[B" (.ref o3)) (P3 : Fld Z h0 o1 "com/example/driftless/driftless/CodePoints" "width" "I" (.int 2)) (P4 : Arv Z h0 o3 kc4 .byte (4 : Int32) [(.int p5), (.int p6), (.int 0), (.int 0)] (.int 0)) (P5 : Exa Z h0 o3 "[B") :
    MF l yn6 prog_6_method_9_code 5 none ws ({ frames := 0, cells := 0, slots := 0, locals := 0 } : Room) #[(.ref o1), (.int 1), (.int p2)] Z h0 (Q12 Z o1 o3 kc4 p5 p6 p2 h0 n0) := by
 refine MetFree.of_bodySF (plainFor_of_name pn1) hisR ?_
 intro p e s m args below meth c s₁ Bd hml hP hK
 obtain ⟨rfl, hZ, hh⟩ := hP
 obtain ⟨hx, hby, hown, hret, hlk, X0, e0, N0⟩ := own_bd Bd hh n0
 have pre0 := own_ct s₁ (p := p) (e := e) (below := below) (ef12 m o1 (1 : Int32) p2)
 obtain ⟨T1, X1, e1, st1⟩ := yag X0 hx hZ hown hby (w_20 hw) e0 P3 1 #[.val (.ref o1), .val (.int 1), .val (.int p2), .unset, .unset] [(.int 1)] d7_1 d7_2 rfl
 obtain ⟨T2, X2, e2, st2⟩ := yag X1 hx hZ hown hby (w_20 hw) e1 P3 7 #[.val (.ref o1), .val (.int 1), .val (.int p2), .val (.int 2), .unset] [] d7_7 d7_8 rfl
 obtain ⟨T3, X3, e3, st3⟩ := yag X2 hx hZ hown hby (w_18 hw) e2 P1 20 (l257_3 o1 p2) [] d7_20 d7_21 rfl
 obtain ⟨cl4, Ar4, qa4, Sa4, Na4, Ha4, Ga4⟩ := id (P4)
 have hin4 := inb_of (j := (3 : Int32)) Sa4 ⟨by decide, by decide⟩
 obtain ⟨T5, h5, X5, e5, W5, st5⟩ := stB X3 hx hZ e3 Ar4 (j := (3 : Int32)) hin4 (g := (mkF m 30 (l257_3 o1 p2) [(.int (p2.toInt8.toInt32)), (.int 3), (.ref o3)])) rfl rfl (hb hby d7_30)
 rw [own_nb8] at W5
 have V5 : Arv Z h5 o3 kc4 .byte (4 : Int32) [(.int p5), (.int p6), (.int 0), (.int (p2.toInt8.toInt32))] (.int 0) := Arv.set Ar4 qa4 Sa4 Na4 Ha4 Ga4 (fits_nar_byte _) W5 3 rfl (Nat.le_of_ble_eq_true rfl)
 have N5 := Fr.snoc X5 N0 g_o3
 have f6 := (P0.wr W5)
 have f7 := (P5.wr W5)
 have ne8 : o1 ≠ o3 := ne_exa f6 f7 (by decide)
 have f9 := (P1.other W5 (Or.inl ne8))
 obtain ⟨T10, X10, e10, st10⟩ := yag X5 hx hZ hown hby (w_18 hw) e5 f9 20 (l257_2 o1 p2) [] d7_20 d7_21 rfl
 obtain ⟨cl11, Ar11, qa11, Sa11, Na11, Ha11, Ga11⟩ := id (V5)
 have hin11 := inb_of (j := (2 : Int32)) Sa11 ⟨by decide, by decide⟩
 obtain ⟨T12, h12, X12, e12, W12, st12⟩ := stB X10 hx hZ e10 Ar11 (j := (2 : Int32)) hin11 (g := (mkF m 30 (l257_2 o1 p2) [(.int (((p2.toUInt32 >>> ((8 : Int32) &&& 31).toUInt32).toInt32).toInt8.toInt32)), (.int 2), (.ref o3)])) rfl rfl (hb hby d7_30)
 rw [own_nb8] at W12
 have V12 : Arv Z h12 o3 kc4 .byte (4 : Int32) [(.int p5), (.int p6), (.int (((p2.toUInt32 >>> ((8 : Int32) &&& 31).toUInt32).toInt32).toInt8.toInt32)), (.int (p2.toInt8.toInt32))] (.int 0) := Arv.set Ar11 qa11 Sa11 Na11 Ha11 Ga11 (fits_nar_byte _) W12 2 rfl (Nat.le_of_ble_eq_true rfl)
 have N12 := Fr.snoc X12 N5 g_o3
 obtain ⟨fs, hr, hrun, hended, hW, hsame⟩ := X12.leave (v := none) (fun _ => rfl)
 have KL : Keep h0 h12 [o3] := (((Keep.refl h0 [o3]).wr W5 (Or.inl (List.mem_of_getElem? (i := 0) rfl))).wr W12 (Or.inl (List.mem_of_getElem? (i := 0) rfl)))
 have f13 := (f7.wr W12)
 refine ⟨_, _, pre0 _ ?_, hrun, hended, _, _, rfl, ?_, ⟨_, rfl⟩, hW, hsame.mono (by decide) (by decide)⟩
 ·
  refine yin X0 hx hby d7_0 rfl ?_
  refine st1 _ ?_
  refine XS.imul X1.here hx rfl (hb hby d7_5) rfl ?_
  refine yit X1 hx hby d7_6 (l' := #[.val (.ref o1), .val (.int 1), .val (.int p2), .val (.int 2), .unset]) rfl ?_
  refine st2 _ ?_
  refine XS.iconst X2.here hx rfl (hb hby d7_11) ?_
  refine ysu X2 hx hby d7_12 ?_
  refine yis X2 hx hby d7_13 (l' := (l257_3 o1 p2)) rfl ?_
  refine yil X2 hx hby d7_15 rfl ?_
  refine XS.ifNo X2.here hx rfl (hb hby d7_17) rfl ((if0 _ _).trans (flt (by decide : ¬ ((1 : Int32) < (0 : Int32)))).1) ?_
  refine st3 _ ?_
  refine yin X3 hx hby d7_24 rfl ?_
  refine yil X3 hx hby d7_25 rfl ?_
  refine yad X3 hx hby d7_27 ?_
  refine yin X3 hx hby d7_28 rfl ?_
  refine XS.i2b X3.here hx rfl (hb hby d7_29) rfl ?_
  refine st5 _ ?_
  refine yin X5 hx hby d7_31 rfl ?_
  refine XS.bipush X5.here hx rfl (hb hby d7_32) ?_
  refine XS.iushr X5.here hx rfl (hb hby d7_34) rfl ?_
  refine yit X5 hx hby d7_35 (l' := #[.val (.ref o1), .val (.int 1), .val (.int ((p2.toUInt32 >>> ((8 : Int32) &&& 31).toUInt32).toInt32)), .val (.int 2), .val (.int 1)]) rfl ?_
  refine XS.iinc X5.here hx rfl (hb hby d7_36) rfl (l' := (l257_2 o1 p2)) rfl ?_
  refine ygo X5 hx hby 39 15 rfl d7_39 (by decide) ?_
  refine yil X5 hx hby d7_15 rfl ?_
  refine XS.ifNo X5.here hx rfl (hb hby d7_17) rfl ((if0 _ _).trans (flt (by decide : ¬ ((0 : Int32) < (0 : Int32)))).1) ?_
  refine st10 _ ?_
  refine yin X10 hx hby d7_24 rfl ?_
  refine yil X10 hx hby d7_25 rfl ?_
  refine yad X10 hx hby d7_27 ?_
  refine yin X10 hx hby d7_28 rfl ?_
  refine XS.i2b X10.here hx rfl (hb hby d7_29) rfl ?_
  refine st12 _ ?_
  refine yin X12 hx hby d7_31 rfl ?_
  refine XS.bipush X12.here hx rfl (hb hby d7_32) ?_
  refine XS.iushr X12.here hx rfl (hb hby d7_34) rfl ?_
  refine yit X12 hx hby d7_35 (l' := (l257_1 o1 p2)) rfl ?_
  show Steps p.tables e below (T12.setTop (mkF m 36 (l257_1 o1 p2) [])) _
  refine XS.iinc X12.here hx rfl (hb hby d7_36) rfl (l' := (l257_0 o1 p2)) rfl ?_
  refine ygo X12 hx hby 39 15 rfl d7_39 (by decide) ?_
  refine yil X12 hx hby d7_15 rfl ?_
  refine XS.ifYes X12.here hx rfl (pc0 := 17) (pc' := 42) rfl (hb hby d7_17) rfl ((if0 _ _).trans (tlt (by decide : (-1 : Int32) < (0 : Int32))).1) (by decide) (by decide) ?_
  show Steps p.tables e below (T12.setTop (mkF m 42 (l257_0 o1 p2) [])) _
  exact X12.returnOut hx hret (hb hby d7_42) hr
 ·
  show Q12 Z o1 o3 kc4 p5 p6 p2 h0 n0 _ T12.heap _
  rw [e12]
  exact ⟨rfl, N12, KL, V12, f13⟩
def l258_0 (o1 b1 : Addr) : Array Slot := #[.val (.ref o1), .val (.int 3), .val (.ref b1), .val (.int 0)]
def l258_1 (o1 b1 : Addr) : Array Slot := #[.val (.ref o1), .val (.int 3), .val (.ref b1), .unset]
theorem ef13 (m : MethodId) (x0 : Addr) (x1 : Int32) : entryFrame m #[(.ref x0), (.int x1)] 4 = mkF m 0 #[.val (.ref x0), .val (.int x1), .unset, .unset] [] := by first | (simp [entryFrame, mkF, argsToLocals, Value.category]; done) | rfl
def Q13 (Z : State) (w1 : Addr) (kw1 : ClassId) (o1 : Addr) (h0 : Heap) (n0 : Nat) (v : Option Value) (h : Heap) (L : List Loc) : Prop :=
  (∃ b26 : Addr, ∃ k26 : ClassId, v = none ∧ Fr n0 L ∧ Keep h0 h [o1] ∧ h0.size ≤ b26 ∧ (Exa Z h o1 "com/example/driftless/driftless/CodePoints") ∧ (Fld Z h o1 "com/example/driftless/driftless/CodePoints" "bytes" "[B" (.ref b26)) ∧ (Fld Z h o1 "com/example/driftless/driftless/CodePoints" "length" "I" (.int 0)) ∧ (Fld Z h o1 "com/example/driftless/driftless/CodePoints" "width" "I" (.int 3)) ∧ (Arv Z h b26 k26 .byte (0 : Int32) [] (.int 0)) ∧ (Exa Z h b26 "[B"))
set_option maxRecDepth 65536 in
set_option maxHeartbeats 40000000 in
theorem rm13 (l : Launch) (Z : State) (a0 : Array Value) (hw : HW a0 Z) (w1 : Addr) (kw1 : ClassId) (G : GW Z w1 kw1) (ws : List Jvm.Cond) (o1 : Addr) (h0 : Heap) (n0 : Nat) (O0 : Old Z n0 h0) (g_o1 : n0 ≤ o1) (P0 : Exa Z h0 o1 "com/example/driftless/driftless/CodePoints") (P1 : Fld Z h0 o1 "com/example/driftless/driftless/CodePoints" "bytes" "[B" (.ref w1)) (P2 : Fld Z h0 o1 "com/example/driftless/driftless/CodePoints" "length" "I" (.int 0)) (P3 : Fld Z h0 o1 "com/example/driftless/driftless/CodePoints" "width" "I" (.int 1)) :
    MF l yn7 prog_6_method_10_code 4 none ws ({ frames := 2, cells := 2, slots := 3, locals := 25 } : Room) #[(.ref o1), (.int 3)] Z h0 (Q13 Z w1 kw1 o1 h0 n0) := by
 obtain ⟨S_w1, E_w1, A_w1⟩ := id G
 refine MetFree.of_bodySF (plainFor_of_name pn1) hisR ?_
 intro p e s m args below meth c s₁ Bd hml hP hK
 obtain ⟨rfl, hZ, hh⟩ := hP
 obtain ⟨hx, hby, hown, hret, hlk, X0, e0, N0⟩ := own_bd Bd hh n0
 have pre0 := own_ct s₁ (p := p) (e := e) (below := below) (ef13 m o1 (3 : Int32))
 obtain ⟨T1, h1, X1, e1, E1, A1, D1, -, st1⟩ := newO X0 hx hZ hown (own_w hw 69 rfl) (w_8 hw) (w_9 hw) e0 (g := (mkF m 0 #[.val (.ref o1), .val (.int 3), .unset, .unset] [])) rfl (hb hby d8_0) (by decide) (by decide)
 obtain ⟨b1, g1⟩ : ∃ z, z = h0.size := ⟨_, rfl⟩
 rw [← g1] at A1 D1 st1
 have M1 : h0.size ≤ h1.size := Nat.le_trans (Nat.le_refl _) E1.1
 have O1 := Old.ext O0 E1
 have sz_b1 : h0.size ≤ b1 := Nat.le_of_eq g1.symm
 have g_b1 : n0 ≤ b1 := Nat.le_trans (own_oz O0) (Nat.le_trans (Nat.le_refl _) sz_b1)
 have F1_19 : Fld Z h1 b1 "com/example/driftless/driftless/CodePoints" "bytes" "[B" .null := D1 (Or.inl (w_19 hw)) (ty := (.array .byte)) (by decide)
 have F1_21 : Fld Z h1 b1 "com/example/driftless/driftless/CodePoints" "width" "I" (.int 0) := D1 (Or.inl (w_21 hw)) (ty := .int) (by decide)
 have F1_35 : Fld Z h1 b1 "com/example/driftless/driftless/CodePoints" "length" "I" (.int 0) := D1 (Or.inl (w_35 hw)) (ty := .int) (by decide)
 obtain ⟨_, T2, L2, X2, hQ2, st2⟩ := own_sb X1 hx hZ hown (y := yn1) (own_w hw 70 rfl) (own_w hw 11 rfl) (own_w hw 12 rfl) (w_9 hw) e1 (a := b1) (argsL := []) (rest := [(.ref b1)]) (rm2 l Z a0 hw w1 kw1 G [] b1 h1 n0 O1 g_b1 A1 F1_19 F1_35 F1_21) (g := (mkF m 4 #[.val (.ref o1), .val (.int 3), .unset, .unset] [(.ref b1), (.ref b1)])) rfl (by rw [hml]; rfl) rfl (hb hby d8_4) (lenOf pd1 rfl) (W := 1) (c1 := 1) (s1 := 3)
 obtain ⟨rfl, Nq3, K4, f5, f6, f7, f8⟩ := hQ2
 have N2 := Fr.app N0 Nq3
 have M2 : h0.size ≤ T2.heap.size := Nat.le_trans M1 K4.1
 have lt9 : o1 < h0.size := P0.lt
 have ne10 : o1 ≠ b1 := Nat.ne_of_lt (Nat.lt_of_lt_of_le lt9 sz_b1)
 have f11 := ((P1.ext E1).keep K4 (ninS ne10 nin0))
 obtain ⟨T12, X12, e12, st12⟩ := yag X2 hx hZ hown hby (w_18 hw) rfl f11 9 (l258_1 o1 b1) [(.ref b1)] d8_9 d8_10 rfl
 obtain ⟨T13, h13, X13, e13, W13, st13⟩ := putF X12 hx hZ hown (host := "") (Or.inl (w_18 hw)) Via.refl e12 f6 f5 (Or.inl (w_19 hw)) (w_8 hw) (ty := (.array .byte)) (by decide) rfl rfl (g := (mkF m 13 (l258_1 o1 b1) [(.ref w1), (.ref b1)])) rfl rfl (hb hby d8_13)
 have N13 := Fr.snoc X13 N2 g_b1
 have M13 : h0.size ≤ h13.size := Nat.le_trans M2 (Nat.le_of_eq W13.size.symm)
 have f14 := (((P3.ext E1).keep K4 (ninS ne10 nin0)).other W13 (Or.inl ne10))
 obtain ⟨T15, X15, e15, st15⟩ := yag X13 hx hZ hown hby (w_20 hw) e13 f14 17 (l258_1 o1 b1) [(.ref b1)] d8_17 d8_18 rfl
 have f16 := (f8.other W13 (Or.inr (slot_ne (Or.inl (w_21 hw)) (Or.inl (w_19 hw)) (by decide) (t := .int) (t' := (.array .byte)) (by decide) (by decide))))
 have f17 := (f5.wr W13)
 obtain ⟨T18, h18, X18, e18, W18, st18⟩ := putF X15 hx hZ hown (host := "") (Or.inl (w_20 hw)) Via.refl e15 f16 f17 (Or.inl (w_21 hw)) (w_8 hw) (ty := .int) (by decide) rfl rfl (g := (mkF m 21 (l258_1 o1 b1) [(.int 1), (.ref b1)])) rfl rfl (hb hby d8_21)
 have N18 := Fr.snoc X18 N13 g_b1
 have M18 : h0.size ≤ h18.size := Nat.le_trans M13 (Nat.le_of_eq W18.size.symm)
 have f19 := ((((P2.ext E1).keep K4 (ninS ne10 nin0)).other W13 (Or.inl ne10)).other W18 (Or.inl ne10))
 obtain ⟨T20, X20, e20, st20⟩ := yag X18 hx hZ hown hby (w_34 hw) e18 f19 25 (l258_1 o1 b1) [(.ref b1)] d8_25 d8_26 rfl
 have f21 := ((f7.other W13 (Or.inr (slot_ne (Or.inl (w_35 hw)) (Or.inl (w_19 hw)) (by decide) (t := .int) (t' := (.array .byte)) (by decide) (by decide)))).other W18 (Or.inr (slot_ne (Or.inl (w_35 hw)) (Or.inl (w_21 hw)) (by decide) (t := .int) (t' := .int) (by decide) (by decide))))
 have f22 := (f17.wr W18)
 obtain ⟨T23, h23, X23, e23, W23, st23⟩ := putF X20 hx hZ hown (host := "") (Or.inl (w_34 hw)) Via.refl e20 f21 f22 (Or.inl (w_35 hw)) (w_8 hw) (ty := .int) (by decide) rfl rfl (g := (mkF m 29 (l258_1 o1 b1) [(.int 0), (.ref b1)])) rfl rfl (hb hby d8_29)
 have N23 := Fr.snoc X23 N18 g_b1
 have M23 : h0.size ≤ h23.size := Nat.le_trans M18 (Nat.le_of_eq W23.size.symm)
 have f24 := (f19.other W23 (Or.inl ne10))
 obtain ⟨T25, X25, e25, st25⟩ := yag X23 hx hZ hown hby (w_34 hw) e23 f24 33 (l258_1 o1 b1) [(.ref o1)] d8_33 d8_34 rfl
 obtain ⟨T26, h26, k26, X26, e26, E26, A26, EX26, st26⟩ := newPE X25 hx hZ (own_w hw 40 rfl) e25 (g := (mkF m 39 (l258_1 o1 b1) [(.int 0), (.ref o1)])) rfl (hb hby d8_39) rfl (by decide) (cap := 0) (by decide) (by decide) (by decide) (by decide) (ad := "[B") (by decide)
 obtain ⟨b26, g26⟩ : ∃ z, z = h23.size := ⟨_, rfl⟩
 rw [← g26] at A26 EX26 st26
 have sz_b26 : h23.size ≤ b26 := Nat.le_of_eq g26.symm
 have V26_0 := Arv.new A26 (by decide)
 have V26 : Arv Z h26 b26 k26 .byte (0 : Int32) [] (.int 0) := V26_0
 have f27 := ((((f11.other W13 (Or.inl ne10)).other W18 (Or.inl ne10)).other W23 (Or.inl ne10)).ext E26)
 have f28 := ((((((P0.ext E1).keep K4).wr W13).wr W18).wr W23).ext E26)
 obtain ⟨T29, h29, X29, e29, W29, st29⟩ := putF X26 hx hZ hown (host := "") (Or.inl (w_18 hw)) Via.refl e26 f27 f28 (Or.inl (w_19 hw)) (w_8 hw) (ty := (.array .byte)) (by decide) rfl rfl (g := (mkF m 41 (l258_1 o1 b1) [(.ref b26), (.ref o1)])) rfl rfl (hb hby d8_41)
 have N29 := Fr.snoc X29 N23 g_o1
 have Fw29 := f27.same W29
 have f30 := ((((f14.other W18 (Or.inl ne10)).other W23 (Or.inl ne10)).ext E26).other W29 (Or.inr (slot_ne (Or.inl (w_21 hw)) (Or.inl (w_19 hw)) (by decide) (t := .int) (t' := (.array .byte)) (by decide) (by decide))))
 have f31 := (f28.wr W29)
 obtain ⟨T32, h32, X32, e32, W32, st32⟩ := putF X29 hx hZ hown (host := "") (Or.inl (w_20 hw)) Via.refl e29 f30 f31 (Or.inl (w_21 hw)) (w_8 hw) (ty := .int) (by decide) rfl rfl (g := (mkF m 46 (l258_1 o1 b1) [(.int 3), (.ref o1)])) rfl rfl (hb hby d8_46)
 have N32 := Fr.snoc X32 N29 g_o1
 have Fw32 := f30.same W32
 have f33 := (((f24.ext E26).other W29 (Or.inr (slot_ne (Or.inl (w_35 hw)) (Or.inl (w_19 hw)) (by decide) (t := .int) (t' := (.array .byte)) (by decide) (by decide)))).other W32 (Or.inr (slot_ne (Or.inl (w_35 hw)) (Or.inl (w_21 hw)) (by decide) (t := .int) (t' := .int) (by decide) (by decide))))
 obtain ⟨T34, X34, e34, st34⟩ := yag X32 hx hZ hown hby (w_34 hw) e32 f33 52 (l258_0 o1 b1) [(.int 0)] d8_52 d8_53 rfl
 obtain ⟨fs, hr, hrun, hended, hW, hsame⟩ := X34.leave (v := none) (fun _ => rfl)
 have KL : Keep h0 h32 [o1] := (((((((((Keep.refl h0 [o1]).ext E1).trans K4 (allS (Or.inr (Nat.le_trans (Nat.le_refl _) sz_b1)) all0)).wr W13 (Or.inr (Nat.le_trans (Nat.le_refl _) sz_b1))).wr W18 (Or.inr (Nat.le_trans (Nat.le_refl _) sz_b1))).wr W23 (Or.inr (Nat.le_trans (Nat.le_refl _) sz_b1))).ext E26).wr W29 (Or.inl (List.mem_of_getElem? (i := 0) rfl))).wr W32 (Or.inl (List.mem_of_getElem? (i := 0) rfl)))
 have f35 := (f31.wr W32)
 have f36 := (Fw29.other W32 (Or.inr (slot_ne (Or.inl (w_19 hw)) (Or.inl (w_21 hw)) (by decide) (t := (.array .byte)) (t' := .int) (by decide) (by decide))))
 have lt37 : o1 < h23.size := (Nat.lt_of_lt_of_le (Nat.lt_of_lt_of_le (Nat.lt_of_lt_of_le (Nat.lt_of_lt_of_le (Nat.lt_of_lt_of_le P0.lt E1.1) K4.1) (Nat.le_of_eq W13.size.symm)) (Nat.le_of_eq W18.size.symm)) (Nat.le_of_eq W23.size.symm))
 have ne38 : o1 ≠ b26 := Nat.ne_of_lt (Nat.lt_of_lt_of_le lt37 sz_b26)
 have f39 := ((V26.other W29 (Ne.symm ne38)).other W32 (Ne.symm ne38))
 have f40 := ((EX26.wr W29).wr W32)
 refine ⟨_, _, pre0 _ ?_, hrun, hended, _, _, rfl, ?_, ⟨_, rfl⟩, hW, hsame.mono (by decide) (by decide)⟩
 ·
  refine st1 _ ?_
  refine XS.dup X1.here hx rfl (hb hby d8_3) rfl rfl ?_
  refine st2 _ ?_
  refine XS.astoreN X2.here hx rfl (hb hby d8_7) rfl rfl (l' := (l258_1 o1 b1)) rfl ?_
  refine yan X2 hx hby d8_8 rfl rfl ?_
  refine st12 _ ?_
  refine st13 _ ?_
  refine yan X13 hx hby d8_16 rfl rfl ?_
  refine st15 _ ?_
  refine st18 _ ?_
  refine yan X18 hx hby d8_24 rfl rfl ?_
  refine st20 _ ?_
  refine st23 _ ?_
  refine yan X23 hx hby d8_32 rfl rfl ?_
  refine st25 _ ?_
  refine yin X25 hx hby d8_37 rfl ?_
  refine XS.imul X25.here hx rfl (hb hby d8_38) rfl ?_
  refine st26 _ ?_
  refine st29 _ ?_
  refine yan X29 hx hby d8_44 rfl rfl ?_
  refine yin X29 hx hby d8_45 rfl ?_
  refine st32 _ ?_
  refine XS.iconst X32.here hx rfl (hb hby d8_49) ?_
  refine yit X32 hx hby d8_50 (l' := (l258_0 o1 b1)) rfl ?_
  refine yin X32 hx hby d8_51 rfl ?_
  refine st34 _ ?_
  refine yye X34 hx hby 56 75 rfl d8_56 (flt (by decide : ¬ ((0 : Int32) < (0 : Int32)))).2.1 (by decide) ?_
  show Steps p.tables e below (T34.setTop (mkF m 75 (l258_0 o1 b1) [])) _
  exact X34.returnOut hx hret (hb hby d8_75) hr
 ·
  show Q13 Z w1 kw1 o1 h0 n0 _ T34.heap _
  rw [e34]
  exact ⟨b26, k26, rfl, N32, KL, (Nat.le_trans M23 sz_b26), f35, f36, f33, Fw32, f39, f40⟩
def l259_0 (o1 b2 : Addr) : Array Slot := #[.val (.ref o1), .val (.int 6), .val (.ref b2)]
theorem ef14 (m : MethodId) (x0 : Addr) (x1 : Int32) : entryFrame m #[(.ref x0), (.int x1)] 3 = mkF m 0 #[.val (.ref x0), .val (.int x1), .unset] [] := by first | (simp [entryFrame, mkF, argsToLocals, Value.category]; done) | rfl
def Q14 (Z : State) (o1 : Addr) (kc2 : ClassId) (h0 : Heap) (n0 : Nat) (v : Option Value) (h : Heap) (L : List Loc) : Prop :=
  (∃ b2 : Addr, ∃ k2 : ClassId, v = some (.ref b2) ∧ Fr n0 L ∧ Keep h0 h [] ∧ h0.size ≤ b2 ∧ (Arv Z h b2 k2 .byte (6 : Int32) [(.int 0), (.int 0), (.int 0), (.int 0), (.int 0), (.int 0)] (.int 0)) ∧ (Exa Z h b2 "[B"))
set_option maxRecDepth 65536 in
set_option maxHeartbeats 40000000 in
theorem rm14 (l : Launch) (Z : State) (a0 : Array Value) (hw : HW a0 Z) (ws : List Jvm.Cond) (o1 : Addr) (kc2 : ClassId) (h0 : Heap) (n0 : Nat) (O0 : Old Z n0 h0) (g_o1 : n0 ≤ o1) (P0 : Arv Z h0 o1 kc2 .byte (0 : Int32) [] (.int 0)) :
    MF l yn5 jdk_65_method_121_code 3 (some (.array .byte)) ws ({ frames := 1, cells := 1, slots := 6, locals := 21 } : Room) #[(.ref o1), (.int 6)] Z h0 (Q14 Z o1 kc2 h0 n0) := by
 refine MetFree.of_bodySF (plainFor_of_name pn2) hisR ?_
 intro p e s m args below meth c s₁ Bd hml hP hK
 obtain ⟨rfl, hZ, hh⟩ := hP
 obtain ⟨hx, hby, hown, hret, hlk, X0, e0, N0⟩ := own_bd Bd hh n0
 have pre0 := own_ct s₁ (p := p) (e := e) (below := below) (ef14 m o1 (6 : Int32))
 revert pre0
 generalize s₁.setTop (entryFrame m #[(.ref o1), (.int 6)] 3) = E0
 intro pre0
 obtain ⟨cl1, Ar1, qa1, Sa1, Na1, Ha1, Ga1⟩ := id (P0)
 obtain ⟨T2, h2, k2, X2, e2, E2, A2, EX2, st2⟩ := newPE X0 hx hZ (own_w hw 40 rfl) e0 (g := (mkF m 15 #[.val (.ref o1), .val (.int 6), .unset] [(.int 6)])) rfl (hb hby d5_15) rfl (by decide) (cap := 6) (by decide) (by decide) (by decide) (by decide) (ad := "[B") (by decide)
 obtain ⟨b2, g2⟩ : ∃ z, z = h0.size := ⟨_, rfl⟩
 rw [← g2] at A2 EX2 st2
 have O2 := Old.ext O0 E2
 have sz_b2 : h0.size ≤ b2 := Nat.le_of_eq g2.symm
 have g_b2 : n0 ≤ b2 := Nat.le_trans (own_oz O0) (Nat.le_trans (Nat.le_refl _) sz_b2)
 have V2_0 := Arv.new A2 (by decide)
 have V2 : Arv Z h2 b2 k2 .byte (6 : Int32) [(.int 0), (.int 0), (.int 0), (.int 0), (.int 0), (.int 0)] (.int 0) := V2_0.pad (pad_rep [] (.int 0) 6)
 have f3 := (P0.ext E2)
 obtain ⟨cl4, Ar4, qa4, Sa4, Na4, Ha4, Ga4⟩ := id (f3)
 obtain ⟨_, T5, L5, X5, hQ5, st5⟩ := own_cs X2 hx hZ hown (y := yn4) (own_w hw 41 rfl) (own_w hw 42 rfl) (own_w hw 43 rfl) (w_32 hw) e2 (argsL := [(.int 0), (.int 6)]) (rest := [(.int 0), (.ref b2), (.int 0), (.ref o1)]) (rm5 l Z a0 hw [] ((0 : Int32)) ((6 : Int32)) h2 n0 O2 ) (g := (mkF m 25 (l259_0 o1 b2) [(.int 6), (.int 0), (.int 0), (.ref b2), (.int 0), (.ref o1)])) rfl (by rw [hml]; rfl) rfl (hb hby d5_25) (lenOf pd0 rfl) (W := 4) (c1 := 1) (s1 := 6)
 have pre6 : Go p e below T2 (mkF m 25 (l259_0 o1 b2) [(.int 6), (.int 0), (.int 0), (.ref b2), (.int 0), (.ref o1)]) E0 := fun t k => by
  refine pre0 _ ?_
  refine yin X0 hx hby d5_0 rfl ?_
  refine yan X0 hx hby d5_1 rfl rfl ?_
  refine X0.arraylength hx (by rw [e0]; exact Ar1.1) (State.isArrayOf_alike hZ.alike Ar1.2.1) (g := (mkF m 2 #[.val (.ref o1), .val (.int 6), .unset] [(.ref o1), (.int 6)])) rfl rfl (hb hby d5_2) _ ?_
  rw [len_of Sa1 Na1]
  refine yye X0 hx hby 3 14 rfl d5_3 (feq (by decide : ¬ ((6 : Int32) = (0 : Int32)))).2 (by decide) ?_
  refine yin X0 hx hby d5_14 rfl ?_
  refine st2 _ ?_
  refine XS.astoreN X2.here hx rfl (hb hby d5_17) rfl rfl (l' := (l259_0 o1 b2)) rfl ?_
  refine yan X2 hx hby d5_18 rfl rfl ?_
  refine XS.iconst X2.here hx rfl (hb hby d5_19) ?_
  refine yan X2 hx hby d5_20 rfl rfl ?_
  refine XS.iconst X2.here hx rfl (hb hby d5_21) ?_
  refine yan X2 hx hby d5_22 rfl rfl ?_
  refine X2.arraylength hx (by rw [e2]; exact Ar4.1) (State.isArrayOf_alike hZ.alike Ar4.2.1) (g := (mkF m 23 (l259_0 o1 b2) [(.ref o1), (.int 0), (.ref b2), (.int 0), (.ref o1)])) rfl rfl (hb hby d5_23) _ ?_
  rw [len_of Sa4 Na4]
  refine yin X2 hx hby d5_24 rfl ?_
  exact k
 rcases hQ5 with ⟨hc7, rfl, Nq8, e9⟩ | ⟨hc10, rfl, Nq11, e12⟩
 ·
  exact absurd hc7 (by decide : ¬ ((6 : Int32) < (0 : Int32)))
 ·
  have N5 := Fr.app N0 Nq11
  obtain ⟨T13, h13, L13, X13, e13, N13, K13, VV13, st13⟩ := cpA X5 hx hZ hown (own_w hw 44 rfl) (w_47 hw) (w_45 hw) (w_46 hw) e12 (us := []) f3 V2 (Or.inl ⟨rfl, rfl⟩) (by decide) (by decide) (by decide) (by decide) (by decide) rfl (by first | decide | exact (by decide : 0 + 0 ≤ 6)) N5 g_b2 (g := (mkF m 28 (l259_0 o1 b2) [(.int 0), (.int 0), (.ref b2), (.int 0), (.ref o1)])) rfl (by rw [hml]; rfl) rfl (hb hby d5_28) (by decide) (W := 0) (by show 2 * 0 + _ ≤ _; exact Nat.le_of_eq rfl) (by decide)
  have V13 : Arv Z h13 b2 k2 .byte (6 : Int32) [(.int 0), (.int 0), (.int 0), (.int 0), (.int 0), (.int 0)] (.int 0) := VV13
  obtain ⟨fs, hr, hrun, hended, hW, hsame⟩ := X13.leave (v := some (.ref b2)) (fun h => by rw [hret] at h; cases h)
  have KL : Keep h0 h13 [] := (((Keep.refl h0 []).ext E2).trans K13 (allS (Or.inr (Nat.le_trans (Nat.le_refl _) sz_b2)) all0))
  have f14 := (EX2.keep K13)
  refine ⟨_, _, pre6 _ ?_, hrun, hended, _, _, rfl, ?_, ⟨_, rfl⟩, hW, hsame.mono (by decide) (by decide)⟩
  ·
   refine st5 _ ?_
   refine st13 _ ?_
   refine yan X13 hx hby d5_31 rfl rfl ?_
   show Steps p.tables e below (T13.setTop (mkF m 32 (l259_0 o1 b2) [(.ref b2)])) _
   exact retOut X13 hx hret rfl (Or.inr (Or.inr (Or.inr (Or.inr ⟨rfl, rfl, rfl⟩)))) (hb hby d5_32) hr
  ·
   show Q14 Z o1 kc2 h0 n0 _ T13.heap _
   rw [e13]
   exact ⟨b2, k2, rfl, N13, KL, (Nat.le_trans (Nat.le_refl _) sz_b2), V13, f14⟩
def l260_0 (o1 : Addr) (p2 : Int32) : Array Slot := #[.val (.ref o1), .val (.int 0), .val (.int ((((((p2.toUInt32 >>> ((8 : Int32) &&& 31).toUInt32).toInt32).toUInt32 >>> ((8 : Int32) &&& 31).toUInt32).toInt32).toUInt32 >>> ((8 : Int32) &&& 31).toUInt32).toInt32)), .val (.int 0), .val (.int (-1))]
def l260_1 (o1 : Addr) (p2 : Int32) : Array Slot := #[.val (.ref o1), .val (.int 0), .val (.int ((((p2.toUInt32 >>> ((8 : Int32) &&& 31).toUInt32).toInt32).toUInt32 >>> ((8 : Int32) &&& 31).toUInt32).toInt32)), .val (.int 0), .val (.int 0)]
def l260_2 (o1 : Addr) (p2 : Int32) : Array Slot := #[.val (.ref o1), .val (.int 0), .val (.int ((((p2.toUInt32 >>> ((8 : Int32) &&& 31).toUInt32).toInt32).toUInt32 >>> ((8 : Int32) &&& 31).toUInt32).toInt32)), .val (.int 0), .val (.int 1)]
def l260_3 (o1 : Addr) (p2 : Int32) : Array Slot := #[.val (.ref o1), .val (.int 0), .val (.int ((p2.toUInt32 >>> ((8 : Int32) &&& 31).toUInt32).toInt32)), .val (.int 0), .val (.int 1)]
def l260_4 (o1 : Addr) (p2 : Int32) : Array Slot := #[.val (.ref o1), .val (.int 0), .val (.int p2), .val (.int 0), .val (.int 2)]
theorem ef15 (m : MethodId) (x0 : Addr) (x1 x2 : Int32) : entryFrame m #[(.ref x0), (.int x1), (.int x2)] 5 = mkF m 0 #[.val (.ref x0), .val (.int x1), .val (.int x2), .unset, .unset] [] := by first | (simp [entryFrame, mkF, argsToLocals, Value.category]; done) | rfl
def Q15 (Z : State) (o1 o3 : Addr) (kc4 : ClassId) (p2 : Int32) (h0 : Heap) (n0 : Nat) (v : Option Value) (h : Heap) (L : List Loc) : Prop :=
  (v = none ∧ Fr n0 L ∧ Keep h0 h [o3] ∧ (Arv Z h o3 kc4 .byte (6 : Int32) [(.int (((((p2.toUInt32 >>> ((8 : Int32) &&& 31).toUInt32).toInt32).toUInt32 >>> ((8 : Int32) &&& 31).toUInt32).toInt32).toInt8.toInt32)), (.int (((p2.toUInt32 >>> ((8 : Int32) &&& 31).toUInt32).toInt32).toInt8.toInt32)), (.int (p2.toInt8.toInt32)), (.int 0), (.int 0), (.int 0)] (.int 0)) ∧ (Exa Z h o3 "[B"))
set_option maxRecDepth 65536 in
set_option maxHeartbeats 40000000 in
theorem rm15 (l : Launch) (Z : State) (a0 : Array Value) (hw : HW a0 Z) (ws : List Jvm.Cond) (o1 o3 : Addr) (kc4 : ClassId) (p2 : Int32) (h0 : Heap) (n0 : Nat) (O0 : Old Z n0 h0) (g_o1 : n0 ≤ o1) (g_o3 : n0 ≤ o3) (P0 : Exa Z h0 o1 "com/example/driftless/driftless/CodePoints") (P1 : Fld Z h0 o1 "com/example/driftless/driftless/CodePoints" "bytes" "[B" (.ref o3)) (P3 : Fld Z h0 o1 "com/example/driftless/driftless/CodePoints" "width" "I" (.int 3)) (P4 : Arv Z h0 o3 kc4 .byte (6 : Int32) [(.int 0), (.int 0), (.int 0), (.int 0), (.int 0), (.int 0)] (.int 0)) (P5 : Exa Z h0 o3 "[B") :
    MF l yn6 prog_6_method_9_code 5 none ws ({ frames := 0, cells := 0, slots := 0, locals := 0 } : Room) #[(.ref o1), (.int 0), (.int p2)] Z h0 (Q15 Z o1 o3 kc4 p2 h0 n0) := by
 refine MetFree.of_bodySF (plainFor_of_name pn1) hisR ?_
 intro p e s m args below meth c s₁ Bd hml hP hK
 obtain ⟨rfl, hZ, hh⟩ := hP
 obtain ⟨hx, hby, hown, hret, hlk, X0, e0, N0⟩ := own_bd Bd hh n0
 have pre0 := own_ct s₁ (p := p) (e := e) (below := below) (ef15 m o1 (0 : Int32) p2)
 obtain ⟨T1, X1, e1, st1⟩ := yag X0 hx hZ hown hby (w_20 hw) e0 P3 1 #[.val (.ref o1), .val (.int 0), .val (.int p2), .unset, .unset] [(.int 0)] d7_1 d7_2 rfl
 obtain ⟨T2, X2, e2, st2⟩ := yag X1 hx hZ hown hby (w_20 hw) e1 P3 7 #[.val (.ref o1), .val (.int 0), .val (.int p2), .val (.int 0), .unset] [] d7_7 d7_8 rfl
 obtain ⟨T3, X3, e3, st3⟩ := yag X2 hx hZ hown hby (w_18 hw) e2 P1 20 (l260_4 o1 p2) [] d7_20 d7_21 rfl
 obtain ⟨cl4, Ar4, qa4, Sa4, Na4, Ha4, Ga4⟩ := id (P4)
 have hin4 := inb_of (j := (2 : Int32)) Sa4 ⟨by decide, by decide⟩
 obtain ⟨T5, h5, X5, e5, W5, st5⟩ := stB X3 hx hZ e3 Ar4 (j := (2 : Int32)) hin4 (g := (mkF m 30 (l260_4 o1 p2) [(.int (p2.toInt8.toInt32)), (.int 2), (.ref o3)])) rfl rfl (hb hby d7_30)
 rw [own_nb8] at W5
 have V5 : Arv Z h5 o3 kc4 .byte (6 : Int32) [(.int 0), (.int 0), (.int (p2.toInt8.toInt32)), (.int 0), (.int 0), (.int 0)] (.int 0) := Arv.set Ar4 qa4 Sa4 Na4 Ha4 Ga4 (fits_nar_byte _) W5 2 rfl (Nat.le_of_ble_eq_true rfl)
 have N5 := Fr.snoc X5 N0 g_o3
 have f6 := (P0.wr W5)
 have f7 := (P5.wr W5)
 have ne8 : o1 ≠ o3 := ne_exa f6 f7 (by decide)
 have f9 := (P1.other W5 (Or.inl ne8))
 obtain ⟨T10, X10, e10, st10⟩ := yag X5 hx hZ hown hby (w_18 hw) e5 f9 20 (l260_3 o1 p2) [] d7_20 d7_21 rfl
 obtain ⟨cl11, Ar11, qa11, Sa11, Na11, Ha11, Ga11⟩ := id (V5)
 have hin11 := inb_of (j := (1 : Int32)) Sa11 ⟨by decide, by decide⟩
 obtain ⟨T12, h12, X12, e12, W12, st12⟩ := stB X10 hx hZ e10 Ar11 (j := (1 : Int32)) hin11 (g := (mkF m 30 (l260_3 o1 p2) [(.int (((p2.toUInt32 >>> ((8 : Int32) &&& 31).toUInt32).toInt32).toInt8.toInt32)), (.int 1), (.ref o3)])) rfl rfl (hb hby d7_30)
 rw [own_nb8] at W12
 have V12 : Arv Z h12 o3 kc4 .byte (6 : Int32) [(.int 0), (.int (((p2.toUInt32 >>> ((8 : Int32) &&& 31).toUInt32).toInt32).toInt8.toInt32)), (.int (p2.toInt8.toInt32)), (.int 0), (.int 0), (.int 0)] (.int 0) := Arv.set Ar11 qa11 Sa11 Na11 Ha11 Ga11 (fits_nar_byte _) W12 1 rfl (Nat.le_of_ble_eq_true rfl)
 have N12 := Fr.snoc X12 N5 g_o3
 have f13 := (f9.other W12 (Or.inl ne8))
 obtain ⟨T14, X14, e14, st14⟩ := yag X12 hx hZ hown hby (w_18 hw) e12 f13 20 (l260_1 o1 p2) [] d7_20 d7_21 rfl
 obtain ⟨cl15, Ar15, qa15, Sa15, Na15, Ha15, Ga15⟩ := id (V12)
 have hin15 := inb_of (j := (0 : Int32)) Sa15 ⟨by decide, by decide⟩
 obtain ⟨T16, h16, X16, e16, W16, st16⟩ := stB X14 hx hZ e14 Ar15 (j := (0 : Int32)) hin15 (g := (mkF m 30 (l260_1 o1 p2) [(.int (((((p2.toUInt32 >>> ((8 : Int32) &&& 31).toUInt32).toInt32).toUInt32 >>> ((8 : Int32) &&& 31).toUInt32).toInt32).toInt8.toInt32)), (.int 0), (.ref o3)])) rfl rfl (hb hby d7_30)
 rw [own_nb8] at W16
 have V16 : Arv Z h16 o3 kc4 .byte (6 : Int32) [(.int (((((p2.toUInt32 >>> ((8 : Int32) &&& 31).toUInt32).toInt32).toUInt32 >>> ((8 : Int32) &&& 31).toUInt32).toInt32).toInt8.toInt32)), (.int (((p2.toUInt32 >>> ((8 : Int32) &&& 31).toUInt32).toInt32).toInt8.toInt32)), (.int (p2.toInt8.toInt32)), (.int 0), (.int 0), (.int 0)] (.int 0) := Arv.set Ar15 qa15 Sa15 Na15 Ha15 Ga15 (fits_nar_byte _) W16 0 rfl (Nat.le_of_ble_eq_true rfl)
 have N16 := Fr.snoc X16 N12 g_o3
 obtain ⟨fs, hr, hrun, hended, hW, hsame⟩ := X16.leave (v := none) (fun _ => rfl)
 have KL : Keep h0 h16 [o3] := ((((Keep.refl h0 [o3]).wr W5 (Or.inl (List.mem_of_getElem? (i := 0) rfl))).wr W12 (Or.inl (List.mem_of_getElem? (i := 0) rfl))).wr W16 (Or.inl (List.mem_of_getElem? (i := 0) rfl)))
 have f17 := ((f7.wr W12).wr W16)
 refine ⟨_, _, pre0 _ ?_, hrun, hended, _, _, rfl, ?_, ⟨_, rfl⟩, hW, hsame.mono (by decide) (by decide)⟩
 ·
  refine yin X0 hx hby d7_0 rfl ?_
  refine st1 _ ?_
  refine XS.imul X1.here hx rfl (hb hby d7_5) rfl ?_
  refine yit X1 hx hby d7_6 (l' := #[.val (.ref o1), .val (.int 0), .val (.int p2), .val (.int 0), .unset]) rfl ?_
  refine st2 _ ?_
  refine XS.iconst X2.here hx rfl (hb hby d7_11) ?_
  refine ysu X2 hx hby d7_12 ?_
  refine yis X2 hx hby d7_13 (l' := (l260_4 o1 p2)) rfl ?_
  refine yil X2 hx hby d7_15 rfl ?_
  refine XS.ifNo X2.here hx rfl (hb hby d7_17) rfl ((if0 _ _).trans (flt (by decide : ¬ ((2 : Int32) < (0 : Int32)))).1) ?_
  refine st3 _ ?_
  refine yin X3 hx hby d7_24 rfl ?_
  refine yil X3 hx hby d7_25 rfl ?_
  refine yad X3 hx hby d7_27 ?_
  refine yin X3 hx hby d7_28 rfl ?_
  refine XS.i2b X3.here hx rfl (hb hby d7_29) rfl ?_
  refine st5 _ ?_
  refine yin X5 hx hby d7_31 rfl ?_
  refine XS.bipush X5.here hx rfl (hb hby d7_32) ?_
  refine XS.iushr X5.here hx rfl (hb hby d7_34) rfl ?_
  refine yit X5 hx hby d7_35 (l' := #[.val (.ref o1), .val (.int 0), .val (.int ((p2.toUInt32 >>> ((8 : Int32) &&& 31).toUInt32).toInt32)), .val (.int 0), .val (.int 2)]) rfl ?_
  refine XS.iinc X5.here hx rfl (hb hby d7_36) rfl (l' := (l260_3 o1 p2)) rfl ?_
  refine ygo X5 hx hby 39 15 rfl d7_39 (by decide) ?_
  refine yil X5 hx hby d7_15 rfl ?_
  refine XS.ifNo X5.here hx rfl (hb hby d7_17) rfl ((if0 _ _).trans (flt (by decide : ¬ ((1 : Int32) < (0 : Int32)))).1) ?_
  refine st10 _ ?_
  refine yin X10 hx hby d7_24 rfl ?_
  refine yil X10 hx hby d7_25 rfl ?_
  refine yad X10 hx hby d7_27 ?_
  refine yin X10 hx hby d7_28 rfl ?_
  refine XS.i2b X10.here hx rfl (hb hby d7_29) rfl ?_
  refine st12 _ ?_
  refine yin X12 hx hby d7_31 rfl ?_
  refine XS.bipush X12.here hx rfl (hb hby d7_32) ?_
  refine XS.iushr X12.here hx rfl (hb hby d7_34) rfl ?_
  refine yit X12 hx hby d7_35 (l' := (l260_2 o1 p2)) rfl ?_
  show Steps p.tables e below (T12.setTop (mkF m 36 (l260_2 o1 p2) [])) _
  refine XS.iinc X12.here hx rfl (hb hby d7_36) rfl (l' := (l260_1 o1 p2)) rfl ?_
  refine ygo X12 hx hby 39 15 rfl d7_39 (by decide) ?_
  refine yil X12 hx hby d7_15 rfl ?_
  refine XS.ifNo X12.here hx rfl (hb hby d7_17) rfl ((if0 _ _).trans (flt (by decide : ¬ ((0 : Int32) < (0 : Int32)))).1) ?_
  refine st14 _ ?_
  refine yin X14 hx hby d7_24 rfl ?_
  refine yil X14 hx hby d7_25 rfl ?_
  refine yad X14 hx hby d7_27 ?_
  refine yin X14 hx hby d7_28 rfl ?_
  refine XS.i2b X14.here hx rfl (hb hby d7_29) rfl ?_
  refine st16 _ ?_
  refine yin X16 hx hby d7_31 rfl ?_
  refine XS.bipush X16.here hx rfl (hb hby d7_32) ?_
  refine XS.iushr X16.here hx rfl (hb hby d7_34) rfl ?_
  refine yit X16 hx hby d7_35 (l' := #[.val (.ref o1), .val (.int 0), .val (.int ((((((p2.toUInt32 >>> ((8 : Int32) &&& 31).toUInt32).toInt32).toUInt32 >>> ((8 : Int32) &&& 31).toUInt32).toInt32).toUInt32 >>> ((8 : Int32) &&& 31).toUInt32).toInt32)), .val (.int 0), .val (.int 0)]) rfl ?_
  refine XS.iinc X16.here hx rfl (hb hby d7_36) rfl (l' := (l260_0 o1 p2)) rfl ?_
  refine ygo X16 hx hby 39 15 rfl d7_39 (by decide) ?_
  refine yil X16 hx hby d7_15 rfl ?_
  refine XS.ifYes X16.here hx rfl (pc0 := 17) (pc' := 42) rfl (hb hby d7_17) rfl ((if0 _ _).trans (tlt (by decide : (-1 : Int32) < (0 : Int32))).1) (by decide) (by decide) ?_
  show Steps p.tables e below (T16.setTop (mkF m 42 (l260_0 o1 p2) [])) _
  exact X16.returnOut hx hret (hb hby d7_42) hr
 ·
  show Q15 Z o1 o3 kc4 p2 h0 n0 _ T16.heap _
  rw [e16]
  exact ⟨rfl, N16, KL, V16, f17⟩
def l261_0 (o1 : Addr) (p2 : Int32) : Array Slot := #[.val (.ref o1), .val (.int 1), .val (.int ((((((p2.toUInt32 >>> ((8 : Int32) &&& 31).toUInt32).toInt32).toUInt32 >>> ((8 : Int32) &&& 31).toUInt32).toInt32).toUInt32 >>> ((8 : Int32) &&& 31).toUInt32).toInt32)), .val (.int 3), .val (.int (-1))]
def l261_1 (o1 : Addr) (p2 : Int32) : Array Slot := #[.val (.ref o1), .val (.int 1), .val (.int ((((p2.toUInt32 >>> ((8 : Int32) &&& 31).toUInt32).toInt32).toUInt32 >>> ((8 : Int32) &&& 31).toUInt32).toInt32)), .val (.int 3), .val (.int 0)]
def l261_2 (o1 : Addr) (p2 : Int32) : Array Slot := #[.val (.ref o1), .val (.int 1), .val (.int ((((p2.toUInt32 >>> ((8 : Int32) &&& 31).toUInt32).toInt32).toUInt32 >>> ((8 : Int32) &&& 31).toUInt32).toInt32)), .val (.int 3), .val (.int 1)]
def l261_3 (o1 : Addr) (p2 : Int32) : Array Slot := #[.val (.ref o1), .val (.int 1), .val (.int ((p2.toUInt32 >>> ((8 : Int32) &&& 31).toUInt32).toInt32)), .val (.int 3), .val (.int 1)]
def l261_4 (o1 : Addr) (p2 : Int32) : Array Slot := #[.val (.ref o1), .val (.int 1), .val (.int p2), .val (.int 3), .val (.int 2)]
theorem ef16 (m : MethodId) (x0 : Addr) (x1 x2 : Int32) : entryFrame m #[(.ref x0), (.int x1), (.int x2)] 5 = mkF m 0 #[.val (.ref x0), .val (.int x1), .val (.int x2), .unset, .unset] [] := by first | (simp [entryFrame, mkF, argsToLocals, Value.category]; done) | rfl
def Q16 (Z : State) (o1 o3 : Addr) (kc4 : ClassId) (p5 p6 : Int32) (p7 p2 : Int32) (h0 : Heap) (n0 : Nat) (v : Option Value) (h : Heap) (L : List Loc) : Prop :=
  (v = none ∧ Fr n0 L ∧ Keep h0 h [o3] ∧ (Arv Z h o3 kc4 .byte (6 : Int32) [(.int p5), (.int p6), (.int p7), (.int (((((p2.toUInt32 >>> ((8 : Int32) &&& 31).toUInt32).toInt32).toUInt32 >>> ((8 : Int32) &&& 31).toUInt32).toInt32).toInt8.toInt32)), (.int (((p2.toUInt32 >>> ((8 : Int32) &&& 31).toUInt32).toInt32).toInt8.toInt32)), (.int (p2.toInt8.toInt32))] (.int 0)) ∧ (Exa Z h o3 "[B"))
set_option maxRecDepth 65536 in
set_option maxHeartbeats 40000000 in
theorem rm16 (l : Launch) (Z : State) (a0 : Array Value) (hw : HW a0 Z) (ws : List Jvm.Cond) (o1 o3 : Addr) (kc4 : ClassId) (p5 p6 : Int32) (p7 p2 : Int32) (h0 : Heap) (n0 : Nat) (O0 : Old Z n0 h0) (g_o1 : n0 ≤ o1) (g_o3 : n0 ≤ o3) (P0 : Exa Z h0 o1 "com/example/driftless/driftless/CodePoints") (P1 : Fld Z h0 o1 "com/example/driftless/driftless/CodePoints" "bytes" "[B" (.ref o3)) (P3 : Fld Z h0 o1 "com/example/driftless/driftless/CodePoints" "width" "I" (.int 3)) (P4 : Arv Z h0 o3 kc4 .byte (6 : Int32) [(.int p5), (.int p6), (.int p7), (.int 0), (.int 0), (.int 0)] (.int 0)) (P5 : Exa Z h0 o3 "[B") :
    MF l yn6 prog_6_method_9_code 5 none ws ({ frames := 0, cells := 0, slots := 0, locals := 0 } : Room) #[(.ref o1), (.int 1), (.int p2)] Z h0 (Q16 Z o1 o3 kc4 p5 p6 p7 p2 h0 n0) := by
 refine MetFree.of_bodySF (plainFor_of_name pn1) hisR ?_
 intro p e s m args below meth c s₁ Bd hml hP hK
 obtain ⟨rfl, hZ, hh⟩ := hP
 obtain ⟨hx, hby, hown, hret, hlk, X0, e0, N0⟩ := own_bd Bd hh n0
 have pre0 := own_ct s₁ (p := p) (e := e) (below := below) (ef16 m o1 (1 : Int32) p2)
 obtain ⟨T1, X1, e1, st1⟩ := yag X0 hx hZ hown hby (w_20 hw) e0 P3 1 #[.val (.ref o1), .val (.int 1), .val (.int p2), .unset, .unset] [(.int 1)] d7_1 d7_2 rfl
 obtain ⟨T2, X2, e2, st2⟩ := yag X1 hx hZ hown hby (w_20 hw) e1 P3 7 #[.val (.ref o1), .val (.int 1), .val (.int p2), .val (.int 3), .unset] [] d7_7 d7_8 rfl
 obtain ⟨T3, X3, e3, st3⟩ := yag X2 hx hZ hown hby (w_18 hw) e2 P1 20 (l261_4 o1 p2) [] d7_20 d7_21 rfl
 obtain ⟨cl4, Ar4, qa4, Sa4, Na4, Ha4, Ga4⟩ := id (P4)
 have hin4 := inb_of (j := (5 : Int32)) Sa4 ⟨by decide, by decide⟩
 obtain ⟨T5, h5, X5, e5, W5, st5⟩ := stB X3 hx hZ e3 Ar4 (j := (5 : Int32)) hin4 (g := (mkF m 30 (l261_4 o1 p2) [(.int (p2.toInt8.toInt32)), (.int 5), (.ref o3)])) rfl rfl (hb hby d7_30)
 rw [own_nb8] at W5
 have V5 : Arv Z h5 o3 kc4 .byte (6 : Int32) [(.int p5), (.int p6), (.int p7), (.int 0), (.int 0), (.int (p2.toInt8.toInt32))] (.int 0) := Arv.set Ar4 qa4 Sa4 Na4 Ha4 Ga4 (fits_nar_byte _) W5 5 rfl (Nat.le_of_ble_eq_true rfl)
 have N5 := Fr.snoc X5 N0 g_o3
 have f6 := (P0.wr W5)
 have f7 := (P5.wr W5)
 have ne8 : o1 ≠ o3 := ne_exa f6 f7 (by decide)
 have f9 := (P1.other W5 (Or.inl ne8))
 obtain ⟨T10, X10, e10, st10⟩ := yag X5 hx hZ hown hby (w_18 hw) e5 f9 20 (l261_3 o1 p2) [] d7_20 d7_21 rfl
 obtain ⟨cl11, Ar11, qa11, Sa11, Na11, Ha11, Ga11⟩ := id (V5)
 have hin11 := inb_of (j := (4 : Int32)) Sa11 ⟨by decide, by decide⟩
 obtain ⟨T12, h12, X12, e12, W12, st12⟩ := stB X10 hx hZ e10 Ar11 (j := (4 : Int32)) hin11 (g := (mkF m 30 (l261_3 o1 p2) [(.int (((p2.toUInt32 >>> ((8 : Int32) &&& 31).toUInt32).toInt32).toInt8.toInt32)), (.int 4), (.ref o3)])) rfl rfl (hb hby d7_30)
 rw [own_nb8] at W12
 have V12 : Arv Z h12 o3 kc4 .byte (6 : Int32) [(.int p5), (.int p6), (.int p7), (.int 0), (.int (((p2.toUInt32 >>> ((8 : Int32) &&& 31).toUInt32).toInt32).toInt8.toInt32)), (.int (p2.toInt8.toInt32))] (.int 0) := Arv.set Ar11 qa11 Sa11 Na11 Ha11 Ga11 (fits_nar_byte _) W12 4 rfl (Nat.le_of_ble_eq_true rfl)
 have N12 := Fr.snoc X12 N5 g_o3
 have f13 := (f9.other W12 (Or.inl ne8))
 obtain ⟨T14, X14, e14, st14⟩ := yag X12 hx hZ hown hby (w_18 hw) e12 f13 20 (l261_1 o1 p2) [] d7_20 d7_21 rfl
 obtain ⟨cl15, Ar15, qa15, Sa15, Na15, Ha15, Ga15⟩ := id (V12)
 have hin15 := inb_of (j := (3 : Int32)) Sa15 ⟨by decide, by decide⟩
 obtain ⟨T16, h16, X16, e16, W16, st16⟩ := stB X14 hx hZ e14 Ar15 (j := (3 : Int32)) hin15 (g := (mkF m 30 (l261_1 o1 p2) [(.int (((((p2.toUInt32 >>> ((8 : Int32) &&& 31).toUInt32).toInt32).toUInt32 >>> ((8 : Int32) &&& 31).toUInt32).toInt32).toInt8.toInt32)), (.int 3), (.ref o3)])) rfl rfl (hb hby d7_30)
 rw [own_nb8] at W16
 have V16 : Arv Z h16 o3 kc4 .byte (6 : Int32) [(.int p5), (.int p6), (.int p7), (.int (((((p2.toUInt32 >>> ((8 : Int32) &&& 31).toUInt32).toInt32).toUInt32 >>> ((8 : Int32) &&& 31).toUInt32).toInt32).toInt8.toInt32)), (.int (((p2.toUInt32 >>> ((8 : Int32) &&& 31).toUInt32).toInt32).toInt8.toInt32)), (.int (p2.toInt8.toInt32))] (.int 0) := Arv.set Ar15 qa15 Sa15 Na15 Ha15 Ga15 (fits_nar_byte _) W16 3 rfl (Nat.le_of_ble_eq_true rfl)
 have N16 := Fr.snoc X16 N12 g_o3
 obtain ⟨fs, hr, hrun, hended, hW, hsame⟩ := X16.leave (v := none) (fun _ => rfl)
 have KL : Keep h0 h16 [o3] := ((((Keep.refl h0 [o3]).wr W5 (Or.inl (List.mem_of_getElem? (i := 0) rfl))).wr W12 (Or.inl (List.mem_of_getElem? (i := 0) rfl))).wr W16 (Or.inl (List.mem_of_getElem? (i := 0) rfl)))
 have f17 := ((f7.wr W12).wr W16)
 refine ⟨_, _, pre0 _ ?_, hrun, hended, _, _, rfl, ?_, ⟨_, rfl⟩, hW, hsame.mono (by decide) (by decide)⟩
 ·
  refine yin X0 hx hby d7_0 rfl ?_
  refine st1 _ ?_
  refine XS.imul X1.here hx rfl (hb hby d7_5) rfl ?_
  refine yit X1 hx hby d7_6 (l' := #[.val (.ref o1), .val (.int 1), .val (.int p2), .val (.int 3), .unset]) rfl ?_
  refine st2 _ ?_
  refine XS.iconst X2.here hx rfl (hb hby d7_11) ?_
  refine ysu X2 hx hby d7_12 ?_
  refine yis X2 hx hby d7_13 (l' := (l261_4 o1 p2)) rfl ?_
  refine yil X2 hx hby d7_15 rfl ?_
  refine XS.ifNo X2.here hx rfl (hb hby d7_17) rfl ((if0 _ _).trans (flt (by decide : ¬ ((2 : Int32) < (0 : Int32)))).1) ?_
  refine st3 _ ?_
  refine yin X3 hx hby d7_24 rfl ?_
  refine yil X3 hx hby d7_25 rfl ?_
  refine yad X3 hx hby d7_27 ?_
  refine yin X3 hx hby d7_28 rfl ?_
  refine XS.i2b X3.here hx rfl (hb hby d7_29) rfl ?_
  refine st5 _ ?_
  refine yin X5 hx hby d7_31 rfl ?_
  refine XS.bipush X5.here hx rfl (hb hby d7_32) ?_
  refine XS.iushr X5.here hx rfl (hb hby d7_34) rfl ?_
  refine yit X5 hx hby d7_35 (l' := #[.val (.ref o1), .val (.int 1), .val (.int ((p2.toUInt32 >>> ((8 : Int32) &&& 31).toUInt32).toInt32)), .val (.int 3), .val (.int 2)]) rfl ?_
  refine XS.iinc X5.here hx rfl (hb hby d7_36) rfl (l' := (l261_3 o1 p2)) rfl ?_
  refine ygo X5 hx hby 39 15 rfl d7_39 (by decide) ?_
  refine yil X5 hx hby d7_15 rfl ?_
  refine XS.ifNo X5.here hx rfl (hb hby d7_17) rfl ((if0 _ _).trans (flt (by decide : ¬ ((1 : Int32) < (0 : Int32)))).1) ?_
  refine st10 _ ?_
  refine yin X10 hx hby d7_24 rfl ?_
  refine yil X10 hx hby d7_25 rfl ?_
  refine yad X10 hx hby d7_27 ?_
  refine yin X10 hx hby d7_28 rfl ?_
  refine XS.i2b X10.here hx rfl (hb hby d7_29) rfl ?_
  refine st12 _ ?_
  refine yin X12 hx hby d7_31 rfl ?_
  refine XS.bipush X12.here hx rfl (hb hby d7_32) ?_
  refine XS.iushr X12.here hx rfl (hb hby d7_34) rfl ?_
  refine yit X12 hx hby d7_35 (l' := (l261_2 o1 p2)) rfl ?_
  show Steps p.tables e below (T12.setTop (mkF m 36 (l261_2 o1 p2) [])) _
  refine XS.iinc X12.here hx rfl (hb hby d7_36) rfl (l' := (l261_1 o1 p2)) rfl ?_
  refine ygo X12 hx hby 39 15 rfl d7_39 (by decide) ?_
  refine yil X12 hx hby d7_15 rfl ?_
  refine XS.ifNo X12.here hx rfl (hb hby d7_17) rfl ((if0 _ _).trans (flt (by decide : ¬ ((0 : Int32) < (0 : Int32)))).1) ?_
  refine st14 _ ?_
  refine yin X14 hx hby d7_24 rfl ?_
  refine yil X14 hx hby d7_25 rfl ?_
  refine yad X14 hx hby d7_27 ?_
  refine yin X14 hx hby d7_28 rfl ?_
  refine XS.i2b X14.here hx rfl (hb hby d7_29) rfl ?_
  refine st16 _ ?_
  refine yin X16 hx hby d7_31 rfl ?_
  refine XS.bipush X16.here hx rfl (hb hby d7_32) ?_
  refine XS.iushr X16.here hx rfl (hb hby d7_34) rfl ?_
  refine yit X16 hx hby d7_35 (l' := #[.val (.ref o1), .val (.int 1), .val (.int ((((((p2.toUInt32 >>> ((8 : Int32) &&& 31).toUInt32).toInt32).toUInt32 >>> ((8 : Int32) &&& 31).toUInt32).toInt32).toUInt32 >>> ((8 : Int32) &&& 31).toUInt32).toInt32)), .val (.int 3), .val (.int 0)]) rfl ?_
  refine XS.iinc X16.here hx rfl (hb hby d7_36) rfl (l' := (l261_0 o1 p2)) rfl ?_
  refine ygo X16 hx hby 39 15 rfl d7_39 (by decide) ?_
  refine yil X16 hx hby d7_15 rfl ?_
  refine XS.ifYes X16.here hx rfl (pc0 := 17) (pc' := 42) rfl (hb hby d7_17) rfl ((if0 _ _).trans (tlt (by decide : (-1 : Int32) < (0 : Int32))).1) (by decide) (by decide) ?_
  show Steps p.tables e below (T16.setTop (mkF m 42 (l261_0 o1 p2) [])) _
  exact X16.returnOut hx hret (hb hby d7_42) hr
 ·
  show Q16 Z o1 o3 kc4 p5 p6 p7 p2 h0 n0 _ T16.heap _
  rw [e16]
  exact ⟨rfl, N16, KL, V16, f17⟩
def l262_0 (o1 o2 : Addr) : Array Slot := #[.val (.ref o1), .val (.int 0), .val (.ref o2), .val (.int 0), .val (.int 2), .val (.int 1), .val (.int 2), .val (.int 0)]
def l262_1 (o1 o2 : Addr) : Array Slot := #[.val (.ref o1), .val (.int 0), .val (.ref o2), .val (.int 0), .val (.int 2), .val (.int 1), .val (.int 2), .val (.int 1)]
def l262_2 (o1 o2 : Addr) : Array Slot := #[.val (.ref o1), .val (.int 0), .val (.ref o2), .val (.int 0), .val (.int 2), .val (.int 1), .val (.int 2), .val (.int 2)]
def l262_3 (o1 o2 : Addr) : Array Slot := #[.val (.ref o1), .val (.int 0), .val (.ref o2), .val (.int 0), .val (.int 2), .val (.int 2), .val (.int 4), .val (.int 0)]
def l262_4 (o1 o2 : Addr) : Array Slot := #[.val (.ref o1), .val (.int 0), .val (.ref o2), .val (.int 0), .val (.int 2), .val (.int 2), .val (.int 4), .val (.int 1)]
def l262_5 (o1 o2 : Addr) : Array Slot := #[.val (.ref o1), .val (.int 0), .val (.ref o2), .val (.int 0), .val (.int 2), .val (.int 2), .val (.int 4), .val (.int 2)]
def l262_6 (o1 o2 : Addr) : Array Slot := #[.val (.ref o1), .val (.int 0), .val (.ref o2), .val (.int 0), .val (.int 2), .val (.int 3), .val (.int 6), .val (.int 0)]
def l262_7 (o1 o2 : Addr) : Array Slot := #[.val (.ref o1), .val (.int 0), .val (.ref o2), .val (.int 0), .val (.int 2), .val (.int 3), .val (.int 6), .val (.int 1)]
def l262_8 (o1 o2 : Addr) : Array Slot := #[.val (.ref o1), .val (.int 0), .val (.ref o2), .val (.int 0), .val (.int 2), .val (.int 3), .val (.int 6), .val (.int 2)]
def l262_9 (o1 o2 : Addr) : Array Slot := #[.val (.ref o1), .val (.int 0), .val (.ref o2), .val (.int 0), .val (.int 2), .val (.int 1), .val (.int 2), .unset]
def l262_10 (o1 o2 : Addr) : Array Slot := #[.val (.ref o1), .val (.int 0), .val (.ref o2), .val (.int 0), .val (.int 2), .val (.int 2), .val (.int 2), .unset]
def l262_11 (o1 o2 : Addr) : Array Slot := #[.val (.ref o1), .val (.int 0), .val (.ref o2), .val (.int 0), .val (.int 2), .val (.int 3), .val (.int 2), .unset]
def l262_12 (o1 o2 : Addr) : Array Slot := #[.val (.ref o1), .val (.int 0), .val (.ref o2), .val (.int 0), .val (.int 2), .val (.int 1), .val (.int 0), .unset]
def l262_13 (o1 o2 : Addr) : Array Slot := #[.val (.ref o1), .val (.int 0), .val (.ref o2), .val (.int 0), .val (.int 2), .val (.int 1), .val (.int 1), .unset]
def l262_14 (o1 o2 : Addr) : Array Slot := #[.val (.ref o1), .val (.int 0), .val (.ref o2), .val (.int 0), .val (.int 2), .val (.int 2), .val (.int 1), .unset]
def l262_15 (o1 o2 : Addr) : Array Slot := #[.val (.ref o1), .val (.int 0), .val (.ref o2), .val (.int 0), .val (.int 2), .val (.int 3), .val (.int 1), .unset]
def l262_16 (o1 o2 : Addr) : Array Slot := #[.val (.ref o1), .val (.int 0), .val (.ref o2), .val (.int 0), .val (.int 2), .val (.int 2), .val (.int 4), .unset]
def l262_17 (o1 o2 : Addr) : Array Slot := #[.val (.ref o1), .val (.int 0), .val (.ref o2), .val (.int 0), .val (.int 2), .val (.int 3), .val (.int 6), .unset]
theorem ef17 (m : MethodId) (x0 : Addr) (x1 : Int32) (x2 : Addr) (x3 x4 : Int32) : entryFrame m #[(.ref x0), (.int x1), (.ref x2), (.int x3), (.int x4)] 8 = mkF m 0 #[.val (.ref x0), .val (.int x1), .val (.ref x2), .val (.int x3), .val (.int x4), .unset, .unset, .unset] [] := by first | (simp [entryFrame, mkF, argsToLocals, Value.category]; done) | rfl
def Q17 (Z : State) (w1 : Addr) (kw1 : ClassId) (o1 o2 : Addr) (kc3 : ClassId) (p4 p5 p6 : Int32) (h0 : Heap) (n0 : Nat) (v : Option Value) (h : Heap) (L : List Loc) : Prop :=
  (∃ b189 : Addr, ∃ k190 : ClassId, (p4 < (256 : Int32)) ∧ (p5 < (256 : Int32)) ∧ v = none ∧ Fr n0 L ∧ Keep h0 h [o1] ∧ h0.size ≤ b189 ∧ (Exa Z h o1 "com/example/driftless/driftless/CodePoints") ∧ (Fld Z h o1 "com/example/driftless/driftless/CodePoints" "bytes" "[B" (.ref b189)) ∧ (Fld Z h o1 "com/example/driftless/driftless/CodePoints" "length" "I" (.int 2)) ∧ (Fld Z h o1 "com/example/driftless/driftless/CodePoints" "width" "I" (.int 1)) ∧ (Arv Z h b189 k190 .byte (2 : Int32) [(.int (p4.toInt8.toInt32)), (.int (p5.toInt8.toInt32))] (.int 0)) ∧ (Exa Z h b189 "[B"))
  ∨ (∃ b274 : Addr, ∃ k275 : ClassId, (p4 < (65536 : Int32)) ∧ (p5 < (65536 : Int32)) ∧ v = none ∧ Fr n0 L ∧ Keep h0 h [o1] ∧ h0.size ≤ b274 ∧ (Exa Z h o1 "com/example/driftless/driftless/CodePoints") ∧ (Fld Z h o1 "com/example/driftless/driftless/CodePoints" "bytes" "[B" (.ref b274)) ∧ (Fld Z h o1 "com/example/driftless/driftless/CodePoints" "length" "I" (.int 2)) ∧ (Fld Z h o1 "com/example/driftless/driftless/CodePoints" "width" "I" (.int 2)) ∧ (Arv Z h b274 k275 .byte (4 : Int32) [(.int (((p4.toUInt32 >>> ((8 : Int32) &&& 31).toUInt32).toInt32).toInt8.toInt32)), (.int (p4.toInt8.toInt32)), (.int (((p5.toUInt32 >>> ((8 : Int32) &&& 31).toUInt32).toInt32).toInt8.toInt32)), (.int (p5.toInt8.toInt32))] (.int 0)) ∧ (Exa Z h b274 "[B"))
  ∨ (∃ b359 : Addr, ∃ k360 : ClassId, v = none ∧ Fr n0 L ∧ Keep h0 h [o1] ∧ h0.size ≤ b359 ∧ (Exa Z h o1 "com/example/driftless/driftless/CodePoints") ∧ (Fld Z h o1 "com/example/driftless/driftless/CodePoints" "bytes" "[B" (.ref b359)) ∧ (Fld Z h o1 "com/example/driftless/driftless/CodePoints" "length" "I" (.int 2)) ∧ (Fld Z h o1 "com/example/driftless/driftless/CodePoints" "width" "I" (.int 3)) ∧ (Arv Z h b359 k360 .byte (6 : Int32) [(.int (((((p4.toUInt32 >>> ((8 : Int32) &&& 31).toUInt32).toInt32).toUInt32 >>> ((8 : Int32) &&& 31).toUInt32).toInt32).toInt8.toInt32)), (.int (((p4.toUInt32 >>> ((8 : Int32) &&& 31).toUInt32).toInt32).toInt8.toInt32)), (.int (p4.toInt8.toInt32)), (.int (((((p5.toUInt32 >>> ((8 : Int32) &&& 31).toUInt32).toInt32).toUInt32 >>> ((8 : Int32) &&& 31).toUInt32).toInt32).toInt8.toInt32)), (.int (((p5.toUInt32 >>> ((8 : Int32) &&& 31).toUInt32).toInt32).toInt8.toInt32)), (.int (p5.toInt8.toInt32))] (.int 0)) ∧ (Exa Z h b359 "[B"))
set_option maxRecDepth 65536 in
set_option maxHeartbeats 40000000 in
theorem rm17 (l : Launch) (Z : State) (a0 : Array Value) (hw : HW a0 Z) (w1 : Addr) (kw1 : ClassId) (G : GW Z w1 kw1) (ws : List Jvm.Cond) (o1 o2 : Addr) (kc3 : ClassId) (p4 p5 p6 : Int32) (h0 : Heap) (n0 : Nat) (O0 : Old Z n0 h0) (g_o1 : n0 ≤ o1) (g_o2 : n0 ≤ o2) (P0 : Exa Z h0 o1 "com/example/driftless/driftless/CodePoints") (P1 : Fld Z h0 o1 "com/example/driftless/driftless/CodePoints" "bytes" "[B" (.ref w1)) (P2 : Fld Z h0 o1 "com/example/driftless/driftless/CodePoints" "length" "I" (.int 0)) (P3 : Fld Z h0 o1 "com/example/driftless/driftless/CodePoints" "width" "I" (.int 1)) (P4 : Arv Z h0 o2 kc3 .int (3 : Int32) [(.int p4), (.int p5), (.int p6)] (.int 0)) (P5 : Exa Z h0 o2 "[I") :
    MF l yn8 prog_6_method_5_code 8 none ws ({ frames := 3, cells := 3, slots := 9, locals := 40 } : Room) #[(.ref o1), (.int 0), (.ref o2), (.int 0), (.int 2)] Z h0 (Q17 Z w1 kw1 o1 o2 kc3 p4 p5 p6 h0 n0) := by
 obtain ⟨S_w1, E_w1, A_w1⟩ := id G
 refine MetFree.of_bodySF (plainFor_of_name pn1) hisR ?_
 intro p e s m args below meth c s₁ Bd hml hP hK
 obtain ⟨rfl, hZ, hh⟩ := hP
 obtain ⟨hx, hby, hown, hret, hlk, X0, e0, N0⟩ := own_bd Bd hh n0
 have pre0 := own_ct s₁ (p := p) (e := e) (below := below) (ef17 m o1 (0 : Int32) o2 (0 : Int32) (2 : Int32))
 revert pre0
 generalize s₁.setTop (entryFrame m #[(.ref o1), (.int 0), (.ref o2), (.int 0), (.int 2)] 8) = E0
 intro pre0
 have J0 : (∃ (T : State) (locs : List Loc), Stand p l e ({ frames := 3, cells := 3, slots := 9, locals := 40 } : Room) s m #[(.ref o1), (.int 0), (.ref o2), (.int 0), (.int 2)] below meth c T locs 0 0 ∧ T.heap = h0 ∧ Fr n0 locs ∧ (Go p e below T (mkF m 38 (l262_9 o1 o2) []) E0) ∧ (p4 < (256 : Int32)) ∧ (p5 < (256 : Int32))) ∨ (∃ (T : State) (locs : List Loc), Stand p l e ({ frames := 3, cells := 3, slots := 9, locals := 40 } : Room) s m #[(.ref o1), (.int 0), (.ref o2), (.int 0), (.int 2)] below meth c T locs 0 0 ∧ T.heap = h0 ∧ Fr n0 locs ∧ (Go p e below T (mkF m 38 (l262_10 o1 o2) []) E0) ∧ (p4 < (65536 : Int32)) ∧ (p5 < (65536 : Int32))) ∨ (∃ (T : State) (locs : List Loc), Stand p l e ({ frames := 3, cells := 3, slots := 9, locals := 40 } : Room) s m #[(.ref o1), (.int 0), (.ref o2), (.int 0), (.int 2)] below meth c T locs 0 0 ∧ T.heap = h0 ∧ Fr n0 locs ∧ (Go p e below T (mkF m 38 (l262_11 o1 o2) []) E0)) := by
  obtain ⟨T1, X1, e1, st1⟩ := yag X0 hx hZ hown hby (w_20 hw) e0 P3 0 #[.val (.ref o1), .val (.int 0), .val (.ref o2), .val (.int 0), .val (.int 2), .unset, .unset, .unset] [] d2_0 d2_1 rfl
  obtain ⟨cl2, Ar2, qa2, Sa2, Na2, Ha2, Ga2⟩ := id (P4)
  have hin2 := inb_of (j := (0 : Int32)) Sa2 ⟨by decide, by decide⟩
  have hat2 : cl2.slots[((0 : Int32)).toNatClampNeg]? = some (.int p4) := Has.at Ha2 hin2 rfl
  obtain ⟨_, T3, L3, X3, hQ3, st3⟩ := own_cs X1 hx hZ hown (y := yn2) (own_w hw 27 rfl) (own_w hw 28 rfl) (own_w hw 29 rfl) (w_9 hw) e1 (argsL := [(.int p4)]) (rest := [(.int 1)]) (rm3 l Z a0 hw [] p4 h0 n0 O0 ) (g := (mkF m 24 (l262_12 o1 o2) [(.int p4), (.int 1)])) rfl (by rw [hml]; rfl) rfl (hb hby d2_24) (lenOf pd2 rfl) (W := 1) (c1 := 0) (s1 := 0)
  have pre4 : Go p e below T1 (mkF m 24 (l262_12 o1 o2) [(.int p4), (.int 1)]) E0 := fun t k => by
   refine pre0 _ ?_
   refine st1 _ ?_
   refine yis X1 hx hby d2_4 (l' := #[.val (.ref o1), .val (.int 0), .val (.ref o2), .val (.int 0), .val (.int 2), .val (.int 1), .unset, .unset]) rfl ?_
   refine yin X1 hx hby d2_6 rfl ?_
   refine yis X1 hx hby d2_7 (l' := (l262_12 o1 o2)) rfl ?_
   refine yil X1 hx hby d2_9 rfl ?_
   refine yin X1 hx hby d2_11 rfl ?_
   refine yil X1 hx hby d2_12 rfl ?_
   refine yad X1 hx hby d2_14 ?_
   refine yno X1 hx hby d2_15 (tlt (by decide : (0 : Int32) < (2 : Int32))).2.1 ?_
   refine yil X1 hx hby d2_18 rfl ?_
   refine yan X1 hx hby d2_20 rfl rfl ?_
   refine yil X1 hx hby d2_21 rfl ?_
   refine X1.iaload hx (j := (0 : Int32)) (v := (.int p4)) (by rw [e1]; exact Ar2.1) (State.isArrayOf_alike hZ.alike Ar2.2.1) Ar2.2.2 hin2 hat2 (g := (mkF m 23 (l262_12 o1 o2) [(.int 0), (.ref o2), (.int 1)])) rfl rfl (hb hby d2_23) _ ?_
   exact k
  rcases hQ3 with ⟨hc5, rfl, Nq6, e7⟩ | ⟨hc8, hc9, rfl, Nq10, e11⟩ | ⟨hc12, hc13, rfl, Nq14, e15⟩
  ·
   have N3 := Fr.app N0 Nq6
   obtain ⟨_, T16, L16, X16, hQ16, st16⟩ := own_cs X3 hx hZ hown (y := yn3) (w_30 hw) (w_31 hw) (w_33 hw) (w_32 hw) e7 (argsL := [(.int 1), (.int 1)]) (rest := []) (rm4 l Z a0 hw [] ((1 : Int32)) ((1 : Int32)) h0 n0 O0 ) (g := (mkF m 27 (l262_12 o1 o2) [(.int 1), (.int 1)])) rfl (by rw [hml]; rfl) rfl (hb hby d2_27) (lenOf pd0 rfl) (W := 0) (c1 := 0) (s1 := 0)
   have pre17 : Go p e below T3 (mkF m 27 (l262_12 o1 o2) [(.int 1), (.int 1)]) E0 := fun t k => by
    refine pre4 _ ?_
    refine st3 _ ?_
    exact k
   rcases hQ16 with ⟨hc18, rfl, Nq19, e20⟩ | ⟨hc21, rfl, Nq22, e23⟩
   ·
    exact absurd hc18 (by decide : ¬ ((1 : Int32) < (1 : Int32)))
   ·
    have N16 := Fr.app N3 Nq22
    obtain ⟨cl24, Ar24, qa24, Sa24, Na24, Ha24, Ga24⟩ := id (P4)
    have hin24 := inb_of (j := (1 : Int32)) Sa24 ⟨by decide, by decide⟩
    have hat24 : cl24.slots[((1 : Int32)).toNatClampNeg]? = some (.int p5) := Has.at Ha24 hin24 rfl
    obtain ⟨_, T25, L25, X25, hQ25, st25⟩ := own_cs X16 hx hZ hown (y := yn2) (own_w hw 27 rfl) (own_w hw 28 rfl) (own_w hw 29 rfl) (w_9 hw) e23 (argsL := [(.int p5)]) (rest := [(.int 1)]) (rm3 l Z a0 hw [] p5 h0 n0 O0 ) (g := (mkF m 24 (l262_13 o1 o2) [(.int p5), (.int 1)])) rfl (by rw [hml]; rfl) rfl (hb hby d2_24) (lenOf pd2 rfl) (W := 1) (c1 := 0) (s1 := 0)
    have pre26 : Go p e below T16 (mkF m 24 (l262_13 o1 o2) [(.int p5), (.int 1)]) E0 := fun t k => by
     refine pre17 _ ?_
     refine st16 _ ?_
     refine yis X16 hx hby d2_30 (l' := (l262_12 o1 o2)) rfl ?_
     refine XS.iinc X16.here hx rfl (hb hby d2_32) rfl (l' := (l262_13 o1 o2)) rfl ?_
     refine ygo X16 hx hby 35 9 rfl d2_35 (by decide) ?_
     refine yil X16 hx hby d2_9 rfl ?_
     refine yin X16 hx hby d2_11 rfl ?_
     refine yil X16 hx hby d2_12 rfl ?_
     refine yad X16 hx hby d2_14 ?_
     refine yno X16 hx hby d2_15 (tlt (by decide : (1 : Int32) < (2 : Int32))).2.1 ?_
     refine yil X16 hx hby d2_18 rfl ?_
     refine yan X16 hx hby d2_20 rfl rfl ?_
     refine yil X16 hx hby d2_21 rfl ?_
     refine X16.iaload hx (j := (1 : Int32)) (v := (.int p5)) (by rw [e23]; exact Ar24.1) (State.isArrayOf_alike hZ.alike Ar24.2.1) Ar24.2.2 hin24 hat24 (g := (mkF m 23 (l262_13 o1 o2) [(.int 1), (.ref o2), (.int 1)])) rfl rfl (hb hby d2_23) _ ?_
     exact k
    rcases hQ25 with ⟨hc27, rfl, Nq28, e29⟩ | ⟨hc30, hc31, rfl, Nq32, e33⟩ | ⟨hc34, hc35, rfl, Nq36, e37⟩
    ·
     have N25 := Fr.app N16 Nq28
     obtain ⟨_, T38, L38, X38, hQ38, st38⟩ := own_cs X25 hx hZ hown (y := yn3) (w_30 hw) (w_31 hw) (w_33 hw) (w_32 hw) e29 (argsL := [(.int 1), (.int 1)]) (rest := []) (rm4 l Z a0 hw [] ((1 : Int32)) ((1 : Int32)) h0 n0 O0 ) (g := (mkF m 27 (l262_13 o1 o2) [(.int 1), (.int 1)])) rfl (by rw [hml]; rfl) rfl (hb hby d2_27) (lenOf pd0 rfl) (W := 0) (c1 := 0) (s1 := 0)
     have pre39 : Go p e below T25 (mkF m 27 (l262_13 o1 o2) [(.int 1), (.int 1)]) E0 := fun t k => by
      refine pre26 _ ?_
      refine st25 _ ?_
      exact k
     rcases hQ38 with ⟨hc40, rfl, Nq41, e42⟩ | ⟨hc43, rfl, Nq44, e45⟩
     ·
      exact absurd hc40 (by decide : ¬ ((1 : Int32) < (1 : Int32)))
     ·
      have N38 := Fr.app N25 Nq44
      have pre46 : Go p e below T38 (mkF m 38 (l262_9 o1 o2) []) E0 := fun t k => by
       refine pre39 _ ?_
       refine st38 _ ?_
       refine yis X38 hx hby d2_30 (l' := (l262_13 o1 o2)) rfl ?_
       refine XS.iinc X38.here hx rfl (hb hby d2_32) rfl (l' := (l262_9 o1 o2)) rfl ?_
       refine ygo X38 hx hby 35 9 rfl d2_35 (by decide) ?_
       refine yil X38 hx hby d2_9 rfl ?_
       refine yin X38 hx hby d2_11 rfl ?_
       refine yil X38 hx hby d2_12 rfl ?_
       refine yad X38 hx hby d2_14 ?_
       refine yye X38 hx hby 15 38 rfl d2_15 (flt (by decide : ¬ ((2 : Int32) < (2 : Int32)))).2.1 (by decide) ?_
       exact k
      exact (Or.inl ⟨_, _, X38.more (by decide) (by decide), e45, N38, pre46, hc5, hc27⟩)
    ·
     have N25 := Fr.app N16 Nq32
     obtain ⟨_, T47, L47, X47, hQ47, st47⟩ := own_cs X25 hx hZ hown (y := yn3) (w_30 hw) (w_31 hw) (w_33 hw) (w_32 hw) e33 (argsL := [(.int 1), (.int 2)]) (rest := []) (rm4 l Z a0 hw [] ((1 : Int32)) ((2 : Int32)) h0 n0 O0 ) (g := (mkF m 27 (l262_13 o1 o2) [(.int 2), (.int 1)])) rfl (by rw [hml]; rfl) rfl (hb hby d2_27) (lenOf pd0 rfl) (W := 0) (c1 := 0) (s1 := 0)
     have pre48 : Go p e below T25 (mkF m 27 (l262_13 o1 o2) [(.int 2), (.int 1)]) E0 := fun t k => by
      refine pre26 _ ?_
      refine st25 _ ?_
      exact k
     rcases hQ47 with ⟨hc49, rfl, Nq50, e51⟩ | ⟨hc52, rfl, Nq53, e54⟩
     ·
      have N47 := Fr.app N25 Nq50
      have pre55 : Go p e below T47 (mkF m 38 (l262_10 o1 o2) []) E0 := fun t k => by
       refine pre48 _ ?_
       refine st47 _ ?_
       refine yis X47 hx hby d2_30 (l' := (l262_14 o1 o2)) rfl ?_
       refine XS.iinc X47.here hx rfl (hb hby d2_32) rfl (l' := (l262_10 o1 o2)) rfl ?_
       refine ygo X47 hx hby 35 9 rfl d2_35 (by decide) ?_
       refine yil X47 hx hby d2_9 rfl ?_
       refine yin X47 hx hby d2_11 rfl ?_
       refine yil X47 hx hby d2_12 rfl ?_
       refine yad X47 hx hby d2_14 ?_
       refine yye X47 hx hby 15 38 rfl d2_15 (flt (by decide : ¬ ((2 : Int32) < (2 : Int32)))).2.1 (by decide) ?_
       exact k
      exact (Or.inr (Or.inl ⟨_, _, X47.more (by decide) (by decide), e51, N47, pre55, (own_glt1 (n := 65536) (k := (65536 : Int32)) (by decide) (by have q0 := rng32 p4; have q1 := own_lt1 (n := 256) (k := (256 : Int32)) (by decide) hc5; omega)), hc31⟩))
     ·
      exact absurd (by decide : (1 : Int32) < (2 : Int32)) hc52
    ·
     have N25 := Fr.app N16 Nq36
     obtain ⟨_, T56, L56, X56, hQ56, st56⟩ := own_cs X25 hx hZ hown (y := yn3) (w_30 hw) (w_31 hw) (w_33 hw) (w_32 hw) e37 (argsL := [(.int 1), (.int 3)]) (rest := []) (rm4 l Z a0 hw [] ((1 : Int32)) ((3 : Int32)) h0 n0 O0 ) (g := (mkF m 27 (l262_13 o1 o2) [(.int 3), (.int 1)])) rfl (by rw [hml]; rfl) rfl (hb hby d2_27) (lenOf pd0 rfl) (W := 0) (c1 := 0) (s1 := 0)
     have pre57 : Go p e below T25 (mkF m 27 (l262_13 o1 o2) [(.int 3), (.int 1)]) E0 := fun t k => by
      refine pre26 _ ?_
      refine st25 _ ?_
      exact k
     rcases hQ56 with ⟨hc58, rfl, Nq59, e60⟩ | ⟨hc61, rfl, Nq62, e63⟩
     ·
      have N56 := Fr.app N25 Nq59
      have pre64 : Go p e below T56 (mkF m 38 (l262_11 o1 o2) []) E0 := fun t k => by
       refine pre57 _ ?_
       refine st56 _ ?_
       refine yis X56 hx hby d2_30 (l' := (l262_15 o1 o2)) rfl ?_
       refine XS.iinc X56.here hx rfl (hb hby d2_32) rfl (l' := (l262_11 o1 o2)) rfl ?_
       refine ygo X56 hx hby 35 9 rfl d2_35 (by decide) ?_
       refine yil X56 hx hby d2_9 rfl ?_
       refine yin X56 hx hby d2_11 rfl ?_
       refine yil X56 hx hby d2_12 rfl ?_
       refine yad X56 hx hby d2_14 ?_
       refine yye X56 hx hby 15 38 rfl d2_15 (flt (by decide : ¬ ((2 : Int32) < (2 : Int32)))).2.1 (by decide) ?_
       exact k
      exact (Or.inr (Or.inr ⟨_, _, X56.more (by decide) (by decide), e60, N56, pre64⟩))
     ·
      exact absurd (by decide : (1 : Int32) < (3 : Int32)) hc61
  ·
   have N3 := Fr.app N0 Nq10
   obtain ⟨_, T65, L65, X65, hQ65, st65⟩ := own_cs X3 hx hZ hown (y := yn3) (w_30 hw) (w_31 hw) (w_33 hw) (w_32 hw) e11 (argsL := [(.int 1), (.int 2)]) (rest := []) (rm4 l Z a0 hw [] ((1 : Int32)) ((2 : Int32)) h0 n0 O0 ) (g := (mkF m 27 (l262_12 o1 o2) [(.int 2), (.int 1)])) rfl (by rw [hml]; rfl) rfl (hb hby d2_27) (lenOf pd0 rfl) (W := 0) (c1 := 0) (s1 := 0)
   have pre66 : Go p e below T3 (mkF m 27 (l262_12 o1 o2) [(.int 2), (.int 1)]) E0 := fun t k => by
    refine pre4 _ ?_
    refine st3 _ ?_
    exact k
   rcases hQ65 with ⟨hc67, rfl, Nq68, e69⟩ | ⟨hc70, rfl, Nq71, e72⟩
   ·
    have N65 := Fr.app N3 Nq68
    obtain ⟨cl73, Ar73, qa73, Sa73, Na73, Ha73, Ga73⟩ := id (P4)
    have hin73 := inb_of (j := (1 : Int32)) Sa73 ⟨by decide, by decide⟩
    have hat73 : cl73.slots[((1 : Int32)).toNatClampNeg]? = some (.int p5) := Has.at Ha73 hin73 rfl
    obtain ⟨_, T74, L74, X74, hQ74, st74⟩ := own_cs X65 hx hZ hown (y := yn2) (own_w hw 27 rfl) (own_w hw 28 rfl) (own_w hw 29 rfl) (w_9 hw) e69 (argsL := [(.int p5)]) (rest := [(.int 2)]) (rm3 l Z a0 hw [] p5 h0 n0 O0 ) (g := (mkF m 24 (l262_14 o1 o2) [(.int p5), (.int 2)])) rfl (by rw [hml]; rfl) rfl (hb hby d2_24) (lenOf pd2 rfl) (W := 1) (c1 := 0) (s1 := 0)
    have pre75 : Go p e below T65 (mkF m 24 (l262_14 o1 o2) [(.int p5), (.int 2)]) E0 := fun t k => by
     refine pre66 _ ?_
     refine st65 _ ?_
     refine yis X65 hx hby d2_30 (l' := #[.val (.ref o1), .val (.int 0), .val (.ref o2), .val (.int 0), .val (.int 2), .val (.int 2), .val (.int 0), .unset]) rfl ?_
     refine XS.iinc X65.here hx rfl (hb hby d2_32) rfl (l' := (l262_14 o1 o2)) rfl ?_
     refine ygo X65 hx hby 35 9 rfl d2_35 (by decide) ?_
     refine yil X65 hx hby d2_9 rfl ?_
     refine yin X65 hx hby d2_11 rfl ?_
     refine yil X65 hx hby d2_12 rfl ?_
     refine yad X65 hx hby d2_14 ?_
     refine yno X65 hx hby d2_15 (tlt (by decide : (1 : Int32) < (2 : Int32))).2.1 ?_
     refine yil X65 hx hby d2_18 rfl ?_
     refine yan X65 hx hby d2_20 rfl rfl ?_
     refine yil X65 hx hby d2_21 rfl ?_
     refine X65.iaload hx (j := (1 : Int32)) (v := (.int p5)) (by rw [e69]; exact Ar73.1) (State.isArrayOf_alike hZ.alike Ar73.2.1) Ar73.2.2 hin73 hat73 (g := (mkF m 23 (l262_14 o1 o2) [(.int 1), (.ref o2), (.int 2)])) rfl rfl (hb hby d2_23) _ ?_
     exact k
    rcases hQ74 with ⟨hc76, rfl, Nq77, e78⟩ | ⟨hc79, hc80, rfl, Nq81, e82⟩ | ⟨hc83, hc84, rfl, Nq85, e86⟩
    ·
     have N74 := Fr.app N65 Nq77
     obtain ⟨_, T87, L87, X87, hQ87, st87⟩ := own_cs X74 hx hZ hown (y := yn3) (w_30 hw) (w_31 hw) (w_33 hw) (w_32 hw) e78 (argsL := [(.int 2), (.int 1)]) (rest := []) (rm4 l Z a0 hw [] ((2 : Int32)) ((1 : Int32)) h0 n0 O0 ) (g := (mkF m 27 (l262_14 o1 o2) [(.int 1), (.int 2)])) rfl (by rw [hml]; rfl) rfl (hb hby d2_27) (lenOf pd0 rfl) (W := 0) (c1 := 0) (s1 := 0)
     have pre88 : Go p e below T74 (mkF m 27 (l262_14 o1 o2) [(.int 1), (.int 2)]) E0 := fun t k => by
      refine pre75 _ ?_
      refine st74 _ ?_
      exact k
     rcases hQ87 with ⟨hc89, rfl, Nq90, e91⟩ | ⟨hc92, rfl, Nq93, e94⟩
     ·
      exact absurd hc89 (by decide : ¬ ((2 : Int32) < (1 : Int32)))
     ·
      have N87 := Fr.app N74 Nq93
      have pre95 : Go p e below T87 (mkF m 38 (l262_10 o1 o2) []) E0 := fun t k => by
       refine pre88 _ ?_
       refine st87 _ ?_
       refine yis X87 hx hby d2_30 (l' := (l262_14 o1 o2)) rfl ?_
       refine XS.iinc X87.here hx rfl (hb hby d2_32) rfl (l' := (l262_10 o1 o2)) rfl ?_
       refine ygo X87 hx hby 35 9 rfl d2_35 (by decide) ?_
       refine yil X87 hx hby d2_9 rfl ?_
       refine yin X87 hx hby d2_11 rfl ?_
       refine yil X87 hx hby d2_12 rfl ?_
       refine yad X87 hx hby d2_14 ?_
       refine yye X87 hx hby 15 38 rfl d2_15 (flt (by decide : ¬ ((2 : Int32) < (2 : Int32)))).2.1 (by decide) ?_
       exact k
      exact (Or.inr (Or.inl ⟨_, _, X87.more (by decide) (by decide), e94, N87, pre95, hc9, (own_glt1 (n := 65536) (k := (65536 : Int32)) (by decide) (by have q0 := rng32 p5; have q1 := own_lt1 (n := 256) (k := (256 : Int32)) (by decide) hc76; omega))⟩))
    ·
     have N74 := Fr.app N65 Nq81
     obtain ⟨_, T96, L96, X96, hQ96, st96⟩ := own_cs X74 hx hZ hown (y := yn3) (w_30 hw) (w_31 hw) (w_33 hw) (w_32 hw) e82 (argsL := [(.int 2), (.int 2)]) (rest := []) (rm4 l Z a0 hw [] ((2 : Int32)) ((2 : Int32)) h0 n0 O0 ) (g := (mkF m 27 (l262_14 o1 o2) [(.int 2), (.int 2)])) rfl (by rw [hml]; rfl) rfl (hb hby d2_27) (lenOf pd0 rfl) (W := 0) (c1 := 0) (s1 := 0)
     have pre97 : Go p e below T74 (mkF m 27 (l262_14 o1 o2) [(.int 2), (.int 2)]) E0 := fun t k => by
      refine pre75 _ ?_
      refine st74 _ ?_
      exact k
     rcases hQ96 with ⟨hc98, rfl, Nq99, e100⟩ | ⟨hc101, rfl, Nq102, e103⟩
     ·
      exact absurd hc98 (by decide : ¬ ((2 : Int32) < (2 : Int32)))
     ·
      have N96 := Fr.app N74 Nq102
      have pre104 : Go p e below T96 (mkF m 38 (l262_10 o1 o2) []) E0 := fun t k => by
       refine pre97 _ ?_
       refine st96 _ ?_
       refine yis X96 hx hby d2_30 (l' := (l262_14 o1 o2)) rfl ?_
       refine XS.iinc X96.here hx rfl (hb hby d2_32) rfl (l' := (l262_10 o1 o2)) rfl ?_
       refine ygo X96 hx hby 35 9 rfl d2_35 (by decide) ?_
       refine yil X96 hx hby d2_9 rfl ?_
       refine yin X96 hx hby d2_11 rfl ?_
       refine yil X96 hx hby d2_12 rfl ?_
       refine yad X96 hx hby d2_14 ?_
       refine yye X96 hx hby 15 38 rfl d2_15 (flt (by decide : ¬ ((2 : Int32) < (2 : Int32)))).2.1 (by decide) ?_
       exact k
      exact (Or.inr (Or.inl ⟨_, _, X96.more (by decide) (by decide), e103, N96, pre104, hc9, hc80⟩))
    ·
     have N74 := Fr.app N65 Nq85
     obtain ⟨_, T105, L105, X105, hQ105, st105⟩ := own_cs X74 hx hZ hown (y := yn3) (w_30 hw) (w_31 hw) (w_33 hw) (w_32 hw) e86 (argsL := [(.int 2), (.int 3)]) (rest := []) (rm4 l Z a0 hw [] ((2 : Int32)) ((3 : Int32)) h0 n0 O0 ) (g := (mkF m 27 (l262_14 o1 o2) [(.int 3), (.int 2)])) rfl (by rw [hml]; rfl) rfl (hb hby d2_27) (lenOf pd0 rfl) (W := 0) (c1 := 0) (s1 := 0)
     have pre106 : Go p e below T74 (mkF m 27 (l262_14 o1 o2) [(.int 3), (.int 2)]) E0 := fun t k => by
      refine pre75 _ ?_
      refine st74 _ ?_
      exact k
     rcases hQ105 with ⟨hc107, rfl, Nq108, e109⟩ | ⟨hc110, rfl, Nq111, e112⟩
     ·
      have N105 := Fr.app N74 Nq108
      have pre113 : Go p e below T105 (mkF m 38 (l262_11 o1 o2) []) E0 := fun t k => by
       refine pre106 _ ?_
       refine st105 _ ?_
       refine yis X105 hx hby d2_30 (l' := (l262_15 o1 o2)) rfl ?_
       refine XS.iinc X105.here hx rfl (hb hby d2_32) rfl (l' := (l262_11 o1 o2)) rfl ?_
       refine ygo X105 hx hby 35 9 rfl d2_35 (by decide) ?_
       refine yil X105 hx hby d2_9 rfl ?_
       refine yin X105 hx hby d2_11 rfl ?_
       refine yil X105 hx hby d2_12 rfl ?_
       refine yad X105 hx hby d2_14 ?_
       refine yye X105 hx hby 15 38 rfl d2_15 (flt (by decide : ¬ ((2 : Int32) < (2 : Int32)))).2.1 (by decide) ?_
       exact k
      exact (Or.inr (Or.inr ⟨_, _, X105.more (by decide) (by decide), e109, N105, pre113⟩))
     ·
      exact absurd (by decide : (2 : Int32) < (3 : Int32)) hc110
   ·
    exact absurd (by decide : (1 : Int32) < (2 : Int32)) hc70
  ·
   have N3 := Fr.app N0 Nq14
   obtain ⟨_, T114, L114, X114, hQ114, st114⟩ := own_cs X3 hx hZ hown (y := yn3) (w_30 hw) (w_31 hw) (w_33 hw) (w_32 hw) e15 (argsL := [(.int 1), (.int 3)]) (rest := []) (rm4 l Z a0 hw [] ((1 : Int32)) ((3 : Int32)) h0 n0 O0 ) (g := (mkF m 27 (l262_12 o1 o2) [(.int 3), (.int 1)])) rfl (by rw [hml]; rfl) rfl (hb hby d2_27) (lenOf pd0 rfl) (W := 0) (c1 := 0) (s1 := 0)
   have pre115 : Go p e below T3 (mkF m 27 (l262_12 o1 o2) [(.int 3), (.int 1)]) E0 := fun t k => by
    refine pre4 _ ?_
    refine st3 _ ?_
    exact k
   rcases hQ114 with ⟨hc116, rfl, Nq117, e118⟩ | ⟨hc119, rfl, Nq120, e121⟩
   ·
    have N114 := Fr.app N3 Nq117
    obtain ⟨cl122, Ar122, qa122, Sa122, Na122, Ha122, Ga122⟩ := id (P4)
    have hin122 := inb_of (j := (1 : Int32)) Sa122 ⟨by decide, by decide⟩
    have hat122 : cl122.slots[((1 : Int32)).toNatClampNeg]? = some (.int p5) := Has.at Ha122 hin122 rfl
    obtain ⟨_, T123, L123, X123, hQ123, st123⟩ := own_cs X114 hx hZ hown (y := yn2) (own_w hw 27 rfl) (own_w hw 28 rfl) (own_w hw 29 rfl) (w_9 hw) e118 (argsL := [(.int p5)]) (rest := [(.int 3)]) (rm3 l Z a0 hw [] p5 h0 n0 O0 ) (g := (mkF m 24 (l262_15 o1 o2) [(.int p5), (.int 3)])) rfl (by rw [hml]; rfl) rfl (hb hby d2_24) (lenOf pd2 rfl) (W := 1) (c1 := 0) (s1 := 0)
    have pre124 : Go p e below T114 (mkF m 24 (l262_15 o1 o2) [(.int p5), (.int 3)]) E0 := fun t k => by
     refine pre115 _ ?_
     refine st114 _ ?_
     refine yis X114 hx hby d2_30 (l' := #[.val (.ref o1), .val (.int 0), .val (.ref o2), .val (.int 0), .val (.int 2), .val (.int 3), .val (.int 0), .unset]) rfl ?_
     refine XS.iinc X114.here hx rfl (hb hby d2_32) rfl (l' := (l262_15 o1 o2)) rfl ?_
     refine ygo X114 hx hby 35 9 rfl d2_35 (by decide) ?_
     refine yil X114 hx hby d2_9 rfl ?_
     refine yin X114 hx hby d2_11 rfl ?_
     refine yil X114 hx hby d2_12 rfl ?_
     refine yad X114 hx hby d2_14 ?_
     refine yno X114 hx hby d2_15 (tlt (by decide : (1 : Int32) < (2 : Int32))).2.1 ?_
     refine yil X114 hx hby d2_18 rfl ?_
     refine yan X114 hx hby d2_20 rfl rfl ?_
     refine yil X114 hx hby d2_21 rfl ?_
     refine X114.iaload hx (j := (1 : Int32)) (v := (.int p5)) (by rw [e118]; exact Ar122.1) (State.isArrayOf_alike hZ.alike Ar122.2.1) Ar122.2.2 hin122 hat122 (g := (mkF m 23 (l262_15 o1 o2) [(.int 1), (.ref o2), (.int 3)])) rfl rfl (hb hby d2_23) _ ?_
     exact k
    rcases hQ123 with ⟨hc125, rfl, Nq126, e127⟩ | ⟨hc128, hc129, rfl, Nq130, e131⟩ | ⟨hc132, hc133, rfl, Nq134, e135⟩
    ·
     have N123 := Fr.app N114 Nq126
     obtain ⟨_, T136, L136, X136, hQ136, st136⟩ := own_cs X123 hx hZ hown (y := yn3) (w_30 hw) (w_31 hw) (w_33 hw) (w_32 hw) e127 (argsL := [(.int 3), (.int 1)]) (rest := []) (rm4 l Z a0 hw [] ((3 : Int32)) ((1 : Int32)) h0 n0 O0 ) (g := (mkF m 27 (l262_15 o1 o2) [(.int 1), (.int 3)])) rfl (by rw [hml]; rfl) rfl (hb hby d2_27) (lenOf pd0 rfl) (W := 0) (c1 := 0) (s1 := 0)
     have pre137 : Go p e below T123 (mkF m 27 (l262_15 o1 o2) [(.int 1), (.int 3)]) E0 := fun t k => by
      refine pre124 _ ?_
      refine st123 _ ?_
      exact k
     rcases hQ136 with ⟨hc138, rfl, Nq139, e140⟩ | ⟨hc141, rfl, Nq142, e143⟩
     ·
      exact absurd hc138 (by decide : ¬ ((3 : Int32) < (1 : Int32)))
     ·
      have N136 := Fr.app N123 Nq142
      have pre144 : Go p e below T136 (mkF m 38 (l262_11 o1 o2) []) E0 := fun t k => by
       refine pre137 _ ?_
       refine st136 _ ?_
       refine yis X136 hx hby d2_30 (l' := (l262_15 o1 o2)) rfl ?_
       refine XS.iinc X136.here hx rfl (hb hby d2_32) rfl (l' := (l262_11 o1 o2)) rfl ?_
       refine ygo X136 hx hby 35 9 rfl d2_35 (by decide) ?_
       refine yil X136 hx hby d2_9 rfl ?_
       refine yin X136 hx hby d2_11 rfl ?_
       refine yil X136 hx hby d2_12 rfl ?_
       refine yad X136 hx hby d2_14 ?_
       refine yye X136 hx hby 15 38 rfl d2_15 (flt (by decide : ¬ ((2 : Int32) < (2 : Int32)))).2.1 (by decide) ?_
       exact k
      exact (Or.inr (Or.inr ⟨_, _, X136.more (by decide) (by decide), e143, N136, pre144⟩))
    ·
     have N123 := Fr.app N114 Nq130
     obtain ⟨_, T145, L145, X145, hQ145, st145⟩ := own_cs X123 hx hZ hown (y := yn3) (w_30 hw) (w_31 hw) (w_33 hw) (w_32 hw) e131 (argsL := [(.int 3), (.int 2)]) (rest := []) (rm4 l Z a0 hw [] ((3 : Int32)) ((2 : Int32)) h0 n0 O0 ) (g := (mkF m 27 (l262_15 o1 o2) [(.int 2), (.int 3)])) rfl (by rw [hml]; rfl) rfl (hb hby d2_27) (lenOf pd0 rfl) (W := 0) (c1 := 0) (s1 := 0)
     have pre146 : Go p e below T123 (mkF m 27 (l262_15 o1 o2) [(.int 2), (.int 3)]) E0 := fun t k => by
      refine pre124 _ ?_
      refine st123 _ ?_
      exact k
     rcases hQ145 with ⟨hc147, rfl, Nq148, e149⟩ | ⟨hc150, rfl, Nq151, e152⟩
     ·
      exact absurd hc147 (by decide : ¬ ((3 : Int32) < (2 : Int32)))
     ·
      have N145 := Fr.app N123 Nq151
      have pre153 : Go p e below T145 (mkF m 38 (l262_11 o1 o2) []) E0 := fun t k => by
       refine pre146 _ ?_
       refine st145 _ ?_
       refine yis X145 hx hby d2_30 (l' := (l262_15 o1 o2)) rfl ?_
       refine XS.iinc X145.here hx rfl (hb hby d2_32) rfl (l' := (l262_11 o1 o2)) rfl ?_
       refine ygo X145 hx hby 35 9 rfl d2_35 (by decide) ?_
       refine yil X145 hx hby d2_9 rfl ?_
       refine yin X145 hx hby d2_11 rfl ?_
       refine yil X145 hx hby d2_12 rfl ?_
       refine yad X145 hx hby d2_14 ?_
       refine yye X145 hx hby 15 38 rfl d2_15 (flt (by decide : ¬ ((2 : Int32) < (2 : Int32)))).2.1 (by decide) ?_
       exact k
      exact (Or.inr (Or.inr ⟨_, _, X145.more (by decide) (by decide), e152, N145, pre153⟩))
    ·
     have N123 := Fr.app N114 Nq134
     obtain ⟨_, T154, L154, X154, hQ154, st154⟩ := own_cs X123 hx hZ hown (y := yn3) (w_30 hw) (w_31 hw) (w_33 hw) (w_32 hw) e135 (argsL := [(.int 3), (.int 3)]) (rest := []) (rm4 l Z a0 hw [] ((3 : Int32)) ((3 : Int32)) h0 n0 O0 ) (g := (mkF m 27 (l262_15 o1 o2) [(.int 3), (.int 3)])) rfl (by rw [hml]; rfl) rfl (hb hby d2_27) (lenOf pd0 rfl) (W := 0) (c1 := 0) (s1 := 0)
     have pre155 : Go p e below T123 (mkF m 27 (l262_15 o1 o2) [(.int 3), (.int 3)]) E0 := fun t k => by
      refine pre124 _ ?_
      refine st123 _ ?_
      exact k
     rcases hQ154 with ⟨hc156, rfl, Nq157, e158⟩ | ⟨hc159, rfl, Nq160, e161⟩
     ·
      exact absurd hc156 (by decide : ¬ ((3 : Int32) < (3 : Int32)))
     ·
      have N154 := Fr.app N123 Nq160
      have pre162 : Go p e below T154 (mkF m 38 (l262_11 o1 o2) []) E0 := fun t k => by
       refine pre155 _ ?_
       refine st154 _ ?_
       refine yis X154 hx hby d2_30 (l' := (l262_15 o1 o2)) rfl ?_
       refine XS.iinc X154.here hx rfl (hb hby d2_32) rfl (l' := (l262_11 o1 o2)) rfl ?_
       refine ygo X154 hx hby 35 9 rfl d2_35 (by decide) ?_
       refine yil X154 hx hby d2_9 rfl ?_
       refine yin X154 hx hby d2_11 rfl ?_
       refine yil X154 hx hby d2_12 rfl ?_
       refine yad X154 hx hby d2_14 ?_
       refine yye X154 hx hby 15 38 rfl d2_15 (flt (by decide : ¬ ((2 : Int32) < (2 : Int32)))).2.1 (by decide) ?_
       exact k
      exact (Or.inr (Or.inr ⟨_, _, X154.more (by decide) (by decide), e161, N154, pre162⟩))
   ·
    exact absurd (by decide : (1 : Int32) < (3 : Int32)) hc119
 rcases J0 with ⟨T163, lc163, X163, e163, N163, pre163, hc164, hc165⟩ | ⟨T166, lc166, X166, e166, N166, pre166, hc167, hc168⟩ | ⟨T169, lc169, X169, e169, N169, pre169⟩
 ·
  obtain ⟨T170, X170, e170, st170⟩ := yag X163 hx hZ hown hby (w_20 hw) e163 P3 40 (l262_9 o1 o2) [(.int 1)] d2_40 d2_41 rfl
  obtain ⟨T171, X171, e171, st171⟩ := yag X170 hx hZ hown hby (w_34 hw) e170 P2 53 (l262_9 o1 o2) [] d2_53 d2_54 rfl
  obtain ⟨T172, X172, e172, st172⟩ := yag X171 hx hZ hown hby (w_20 hw) e171 P3 60 (l262_9 o1 o2) [(.int 2)] d2_60 d2_61 rfl
  obtain ⟨T173, X173, e173, st173⟩ := yag X172 hx hZ hown hby (w_18 hw) e172 P1 69 (l262_9 o1 o2) [(.int 2)] d2_69 d2_70 rfl
  obtain ⟨cl174, Ar174, qa174, Sa174, Na174, Ha174, Ga174⟩ := id ((A_w1.ext O0.2))
  obtain ⟨T175, X175, e175, st175⟩ := yag X173 hx hZ hown hby (w_18 hw) e173 P1 78 (l262_9 o1 o2) [(.ref o1)] d2_78 d2_79 rfl
  obtain ⟨T176, X176, e176, st176⟩ := yag X175 hx hZ hown hby (w_18 hw) e175 P1 84 (l262_9 o1 o2) [(.int 2), (.ref w1), (.ref o1)] d2_84 d2_85 rfl
  obtain ⟨cl177, Ar177, qa177, Sa177, Na177, Ha177, Ga177⟩ := id ((A_w1.ext O0.2))
  obtain ⟨T178, X178, e178, st178⟩ := yag X176 hx hZ hown hby (w_18 hw) e176 P1 89 (l262_9 o1 o2) [(.int 0), (.int 2), (.ref w1), (.ref o1)] d2_89 d2_90 rfl
  obtain ⟨cl179, Ar179, qa179, Sa179, Na179, Ha179, Ga179⟩ := id ((A_w1.ext O0.2))
  obtain ⟨_, T180, L180, X180, hQ180, st180⟩ := own_cs X178 hx hZ hown (y := yn3) (w_30 hw) (w_31 hw) (w_33 hw) (w_32 hw) e178 (argsL := [(.int 2), (.int 0)]) (rest := [(.ref w1), (.ref o1)]) (rm4 l Z a0 hw [] ((2 : Int32)) ((0 : Int32)) h0 n0 O0 ) (g := (mkF m 97 (l262_9 o1 o2) [(.int 0), (.int 2), (.ref w1), (.ref o1)])) rfl (by rw [hml]; rfl) rfl (hb hby d2_97) (lenOf pd0 rfl) (W := 2) (c1 := 0) (s1 := 0)
  have pre181 : Go p e below T178 (mkF m 97 (l262_9 o1 o2) [(.int 0), (.int 2), (.ref w1), (.ref o1)]) E0 := fun t k => by
   refine pre163 _ ?_
   refine yil X163 hx hby d2_38 rfl ?_
   refine st170 _ ?_
   refine yye X170 hx hby 44 53 rfl d2_44 (flt (by decide : ¬ ((1 : Int32) < (1 : Int32)))).2.2.2 (by decide) ?_
   refine st171 _ ?_
   refine yil X171 hx hby d2_57 rfl ?_
   refine yad X171 hx hby d2_59 ?_
   refine st172 _ ?_
   refine XS.imul X172.here hx rfl (hb hby d2_64) rfl ?_
   refine yis X172 hx hby d2_65 (l' := (l262_9 o1 o2)) rfl ?_
   refine yil X172 hx hby d2_67 rfl ?_
   refine st173 _ ?_
   refine X173.arraylength hx (by rw [e173]; exact Ar174.1) (State.isArrayOf_alike hZ.alike Ar174.2.1) (g := (mkF m 73 (l262_9 o1 o2) [(.ref w1), (.int 2)])) rfl rfl (hb hby d2_73) _ ?_
   rw [len_of Sa174 Na174]
   refine yno X173 hx hby d2_74 (tlt (by decide : (0 : Int32) < (2 : Int32))).2.2.2 ?_
   refine yan X173 hx hby d2_77 rfl rfl ?_
   refine st175 _ ?_
   refine yil X175 hx hby d2_82 rfl ?_
   refine st176 _ ?_
   refine X176.arraylength hx (by rw [e176]; exact Ar177.1) (State.isArrayOf_alike hZ.alike Ar177.2.1) (g := (mkF m 88 (l262_9 o1 o2) [(.ref w1), (.int 2), (.ref w1), (.ref o1)])) rfl rfl (hb hby d2_88) _ ?_
   rw [len_of Sa177 Na177]
   refine st178 _ ?_
   refine X178.arraylength hx (by rw [e178]; exact Ar179.1) (State.isArrayOf_alike hZ.alike Ar179.2.1) (g := (mkF m 93 (l262_9 o1 o2) [(.ref w1), (.int 0), (.int 2), (.ref w1), (.ref o1)])) rfl rfl (hb hby d2_93) _ ?_
   rw [len_of Sa179 Na179]
   refine XS.iconst X178.here hx rfl (hb hby d2_94) ?_
   refine XS.idiv X178.here hx rfl (hb hby d2_95) rfl (by decide : ¬ ((2 : Int32) = (0 : Int32))) ?_
   refine yad X178 hx hby d2_96 ?_
   exact k
  rcases hQ180 with ⟨hc182, rfl, Nq183, e184⟩ | ⟨hc185, rfl, Nq186, e187⟩
  ·
   exact absurd hc182 (by decide : ¬ ((2 : Int32) < (0 : Int32)))
  ·
   have N180 := Fr.app N163 Nq186
   obtain ⟨_, T188, L188, X188, hQ188, st188⟩ := own_cs X180 hx hZ hown (y := yn5) (own_w hw 36 rfl) (w_37 hw) (own_w hw 39 rfl) (w_38 hw) e187 (argsL := [(.ref w1), (.int 2)]) (rest := [(.ref o1)]) (rm6 l Z a0 hw w1 kw1 G []  h0 n0 O0 ) (g := (mkF m 100 (l262_9 o1 o2) [(.int 2), (.ref w1), (.ref o1)])) rfl (by rw [hml]; rfl) rfl (hb hby d2_100) (lenOf pd3 rfl) (W := 1) (c1 := 1) (s1 := 2)
   obtain ⟨b189, k190, rfl, Nq191, K192, sz_b189, f193, f194⟩ := hQ188
   have N188 := Fr.app N180 Nq191
   have g_b189 : n0 ≤ b189 := Nat.le_trans (own_oz O0) sz_b189
   have O188 := Old.keep O0 K192 all0
   have f195 := (P1.keep K192 nin0)
   have f196 := (P0.keep K192)
   obtain ⟨T197, h197, X197, e197, W197, st197⟩ := putF X188 hx hZ hown (host := "") (Or.inl (w_18 hw)) Via.refl rfl f195 f196 (Or.inl (w_19 hw)) (w_8 hw) (ty := (.array .byte)) (by decide) rfl rfl (g := (mkF m 103 (l262_9 o1 o2) [(.ref b189), (.ref o1)])) rfl rfl (hb hby d2_103)
   have N197 := Fr.snoc X197 N188 g_o1
   have Fw197 := f195.same W197
   have O197 := Old.wr O188 W197 g_o1
   obtain ⟨T198, X198, e198, st198⟩ := yag X197 hx hZ hown hby (w_18 hw) e197 Fw197 106 (l262_9 o1 o2) [] d2_106 d2_107 rfl
   have f199 := ((P3.keep K192 nin0).other W197 (Or.inr (slot_ne (Or.inl (w_21 hw)) (Or.inl (w_19 hw)) (by decide) (t := .int) (t' := (.array .byte)) (by decide) (by decide))))
   obtain ⟨T200, X200, e200, st200⟩ := yag X198 hx hZ hown hby (w_20 hw) e198 f199 111 (l262_9 o1 o2) [(.int 0), (.ref b189)] d2_111 d2_112 rfl
   obtain ⟨T201, X201, e201, st201⟩ := yag X200 hx hZ hown hby (w_18 hw) e200 Fw197 116 (l262_9 o1 o2) [(.int 0), (.ref b189)] d2_116 d2_117 rfl
   obtain ⟨T202, X202, e202, st202⟩ := yag X201 hx hZ hown hby (w_20 hw) e201 f199 124 (l262_9 o1 o2) [(.int 2), (.ref b189), (.int 0), (.ref b189)] d2_124 d2_125 rfl
   have f203 := ((P2.keep K192 nin0).other W197 (Or.inr (slot_ne (Or.inl (w_35 hw)) (Or.inl (w_19 hw)) (by decide) (t := .int) (t' := (.array .byte)) (by decide) (by decide))))
   obtain ⟨T204, X204, e204, st204⟩ := yag X202 hx hZ hown hby (w_34 hw) e202 f203 129 (l262_9 o1 o2) [(.int 2), (.ref b189), (.int 0), (.ref b189)] d2_129 d2_130 rfl
   obtain ⟨T205, X205, e205, st205⟩ := yag X204 hx hZ hown hby (w_20 hw) e204 f199 135 (l262_9 o1 o2) [(.int 0), (.int 2), (.ref b189), (.int 0), (.ref b189)] d2_135 d2_136 rfl
   have lt206 : o1 < h0.size := P0.lt
   have ne207 : o1 ≠ b189 := Nat.ne_of_lt (Nat.lt_of_lt_of_le lt206 sz_b189)
   have f208 := (f193.other W197 (Ne.symm ne207))
   obtain ⟨T209, h209, L209, X209, e209, N209, K209, VV209, st209⟩ := cpA X205 hx hZ hown (own_w hw 48 rfl) (w_47 hw) (w_45 hw) (w_46 hw) e205 (us := []) f208 f208 (Or.inl ⟨rfl, rfl⟩) (by decide) (by decide) (by decide) (by decide) (by decide) rfl (by first | decide | exact (by decide : 2 + 0 ≤ 2)) N197 g_b189 (g := (mkF m 140 (l262_9 o1 o2) [(.int 0), (.int 2), (.ref b189), (.int 0), (.ref b189)])) rfl (by rw [hml]; rfl) rfl (hb hby d2_140) (by decide) (W := 0) (by show 2 * 0 + _ ≤ _; exact Nat.le_of_eq rfl) (by decide)
   have V209 : Arv Z h209 b189 k190 .byte (2 : Int32) [(.int 0), (.int 0)] (.int 0) := VV209
   have O209 := Old.keep O197 K209 (allS g_b189 all0)
   have f210 := (f203.keep K209 (ninS ne207 nin0))
   obtain ⟨T211, X211, e211, st211⟩ := yg X209 hx hZ hown hby (w_34 hw) e209 f210 145 (l262_9 o1 o2) [(.ref o1)] d2_145
   have f212 := ((f196.wr W197).keep K209)
   obtain ⟨T213, h213, X213, e213, W213, st213⟩ := putF X211 hx hZ hown (host := "") (Or.inl (w_34 hw)) Via.refl e211 f210 f212 (Or.inl (w_35 hw)) (w_8 hw) (ty := .int) (by decide) rfl rfl (g := (mkF m 151 (l262_9 o1 o2) [(.int 2), (.ref o1)])) rfl rfl (hb hby d2_151)
   have N213 := Fr.snoc X213 N209 g_o1
   have Fw213 := f210.same W213
   have O213 := Old.wr O209 W213 g_o1
   have f214 := ((((P5.keep K192).wr W197).keep K209).wr W213)
   have f215 := (f212.wr W213)
   have ne216 : o2 ≠ o1 := ne_exa f214 f215 (by decide)
   have lt217 : o2 < h0.size := P4.lt
   have ne218 : o2 ≠ b189 := Nat.ne_of_lt (Nat.lt_of_lt_of_le lt217 sz_b189)
   have f219 := ((((P4.keep K192 nin0).other W197 ne216).keep K209 (ninS ne218 nin0)).other W213 ne216)
   obtain ⟨cl220, Ar220, qa220, Sa220, Na220, Ha220, Ga220⟩ := id (f219)
   have hin220 := inb_of (j := (0 : Int32)) Sa220 ⟨by decide, by decide⟩
   have hat220 : cl220.slots[((0 : Int32)).toNatClampNeg]? = some (.int p4) := Has.at Ha220 hin220 rfl
   have f221 := ((Fw197.keep K209 (ninS ne207 nin0)).other W213 (Or.inr (slot_ne (Or.inl (w_19 hw)) (Or.inl (w_35 hw)) (by decide) (t := (.array .byte)) (t' := .int) (by decide) (by decide))))
   have f222 := ((f199.keep K209 (ninS ne207 nin0)).other W213 (Or.inr (slot_ne (Or.inl (w_21 hw)) (Or.inl (w_35 hw)) (by decide) (t := .int) (t' := .int) (by decide) (by decide))))
   have f223 := (V209.other W213 (Ne.symm ne207))
   have f224 := (((f194.wr W197).keep K209).wr W213)
   obtain ⟨_, T225, L225, X225, hQ225, st225⟩ := own_pb X213 hx hZ hown (y := yn6) (w_49 hw) (w_50 hw) (own_selp (mvT hZ (w_25 hw)) rfl (Cond.privateMethod_at (mvP hZ (w_51 hw) (args := #[]))) (mvT hZ (w_50 hw)) (by decide)) (w_51 hw) (own_w hw 52 rfl) (w_9 hw) e213 f215 (argsL := [(.int 0), (.int p4)]) (rest := []) (rm7 l Z a0 hw [] o1 b189 k190 p4 h213 n0 O213 g_o1 g_b189 f221 f222 f223 f224) (g := (mkF m 175 (l262_0 o1 o2) [(.int p4), (.int 0), (.ref o1)])) rfl (by rw [hml]; rfl) rfl (hb hby d2_175) (lenOf pd4 rfl) (W := 0) (c1 := 1) (s1 := 2)
   obtain ⟨rfl, Nq226, K227, f228, f229⟩ := hQ225
   have N225 := Fr.app N213 Nq226
   have O225 := Old.keep O213 K227 (allS g_b189 all0)
   have f230 := (f219.keep K227 (ninS ne218 nin0))
   obtain ⟨cl231, Ar231, qa231, Sa231, Na231, Ha231, Ga231⟩ := id (f230)
   have hin231 := inb_of (j := (1 : Int32)) Sa231 ⟨by decide, by decide⟩
   have hat231 : cl231.slots[((1 : Int32)).toNatClampNeg]? = some (.int p5) := Has.at Ha231 hin231 rfl
   have f232 := (f221.keep K227 (ninS ne207 nin0))
   have f233 := (f222.keep K227 (ninS ne207 nin0))
   have f234 := (f215.keep K227)
   obtain ⟨_, T235, L235, X235, hQ235, st235⟩ := own_pb X225 hx hZ hown (y := yn6) (w_49 hw) (w_50 hw) (own_selp (mvT hZ (w_25 hw)) rfl (Cond.privateMethod_at (mvP hZ (w_51 hw) (args := #[]))) (mvT hZ (w_50 hw)) (by decide)) (w_51 hw) (own_w hw 52 rfl) (w_9 hw) rfl f234 (argsL := [(.int 1), (.int p5)]) (rest := []) (rm8 l Z a0 hw [] o1 b189 k190 (p4.toInt8.toInt32) p5 T225.heap n0 O225 g_o1 g_b189 f232 f233 f228 f229) (g := (mkF m 175 (l262_1 o1 o2) [(.int p5), (.int 1), (.ref o1)])) rfl (by rw [hml]; rfl) rfl (hb hby d2_175) (lenOf pd4 rfl) (W := 0) (c1 := 1) (s1 := 2)
   obtain ⟨rfl, Nq236, K237, f238, f239⟩ := hQ235
   have N235 := Fr.app N225 Nq236
   obtain ⟨fs, hr, hrun, hended, hW, hsame⟩ := X235.leave (v := none) (fun _ => rfl)
   have KL : Keep h0 T235.heap [o1] := (((((((Keep.refl h0 [o1]).trans K192 all0).wr W197 (Or.inl (List.mem_of_getElem? (i := 0) rfl))).trans K209 (allS (Or.inr (Nat.le_trans (Nat.le_refl _) sz_b189)) all0)).wr W213 (Or.inl (List.mem_of_getElem? (i := 0) rfl))).trans K227 (allS (Or.inr (Nat.le_trans (Nat.le_refl _) sz_b189)) all0)).trans K237 (allS (Or.inr (Nat.le_trans (Nat.le_refl _) sz_b189)) all0))
   have f240 := (f234.keep K237)
   have f241 := (f232.keep K237 (ninS ne207 nin0))
   have f242 := ((Fw213.keep K227 (ninS ne207 nin0)).keep K237 (ninS ne207 nin0))
   have f243 := (f233.keep K237 (ninS ne207 nin0))
   refine ⟨_, _, pre181 _ ?_, hrun, hended, _, _, rfl, ?_, ⟨_, rfl⟩, hW, hsame.mono (by decide) (by decide)⟩
   ·
    refine st180 _ ?_
    refine st188 _ ?_
    refine st197 _ ?_
    refine st198 _ ?_
    refine yin X198 hx hby d2_110 rfl ?_
    refine st200 _ ?_
    refine XS.imul X200.here hx rfl (hb hby d2_115) rfl ?_
    show Steps p.tables e below (T200.setTop (mkF m 116 (l262_9 o1 o2) [(.int 0), (.ref b189)])) _
    refine st201 _ ?_
    refine yin X201 hx hby d2_120 rfl ?_
    refine yil X201 hx hby d2_121 rfl ?_
    refine yad X201 hx hby d2_123 ?_
    refine st202 _ ?_
    refine XS.imul X202.here hx rfl (hb hby d2_128) rfl ?_
    refine st204 _ ?_
    refine yin X204 hx hby d2_133 rfl ?_
    refine ysu X204 hx hby d2_134 ?_
    refine st205 _ ?_
    refine XS.imul X205.here hx rfl (hb hby d2_139) rfl ?_
    refine st209 _ ?_
    refine yan X209 hx hby d2_143 rfl rfl ?_
    refine XS.dup X209.here hx rfl (hb hby d2_144) rfl rfl ?_
    refine st211 _ ?_
    refine yil X211 hx hby d2_148 rfl ?_
    refine yad X211 hx hby d2_150 ?_
    refine st213 _ ?_
    refine XS.iconst X213.here hx rfl (hb hby d2_154) ?_
    refine yis X213 hx hby d2_155 (l' := (l262_0 o1 o2)) rfl ?_
    refine yil X213 hx hby d2_157 rfl ?_
    refine yil X213 hx hby d2_159 rfl ?_
    refine yno X213 hx hby d2_161 (tlt (by decide : (0 : Int32) < (2 : Int32))).2.1 ?_
    refine yan X213 hx hby d2_164 rfl rfl ?_
    refine yin X213 hx hby d2_165 rfl ?_
    refine yil X213 hx hby d2_166 rfl ?_
    refine yad X213 hx hby d2_168 ?_
    refine yan X213 hx hby d2_169 rfl rfl ?_
    refine yin X213 hx hby d2_170 rfl ?_
    refine yil X213 hx hby d2_171 rfl ?_
    refine yad X213 hx hby d2_173 ?_
    refine X213.iaload hx (j := (0 : Int32)) (v := (.int p4)) (by rw [e213]; exact Ar220.1) (State.isArrayOf_alike hZ.alike Ar220.2.1) Ar220.2.2 hin220 hat220 (g := (mkF m 174 (l262_0 o1 o2) [(.int 0), (.ref o2), (.int 0), (.ref o1)])) rfl rfl (hb hby d2_174) _ ?_
    refine st225 _ ?_
    refine XS.iinc X225.here hx rfl (hb hby d2_178) rfl (l' := (l262_1 o1 o2)) rfl ?_
    refine ygo X225 hx hby 181 157 rfl d2_181 (by decide) ?_
    refine yil X225 hx hby d2_157 rfl ?_
    refine yil X225 hx hby d2_159 rfl ?_
    show Steps p.tables e below (T225.setTop (mkF m 161 (l262_1 o1 o2) [(.int 2), (.int 1)])) _
    refine yno X225 hx hby d2_161 (tlt (by decide : (1 : Int32) < (2 : Int32))).2.1 ?_
    refine yan X225 hx hby d2_164 rfl rfl ?_
    refine yin X225 hx hby d2_165 rfl ?_
    refine yil X225 hx hby d2_166 rfl ?_
    refine yad X225 hx hby d2_168 ?_
    refine yan X225 hx hby d2_169 rfl rfl ?_
    refine yin X225 hx hby d2_170 rfl ?_
    refine yil X225 hx hby d2_171 rfl ?_
    refine yad X225 hx hby d2_173 ?_
    refine X225.iaload hx (j := (1 : Int32)) (v := (.int p5)) Ar231.1 (State.isArrayOf_alike hZ.alike Ar231.2.1) Ar231.2.2 hin231 hat231 (g := (mkF m 174 (l262_1 o1 o2) [(.int 1), (.ref o2), (.int 1), (.ref o1)])) rfl rfl (hb hby d2_174) _ ?_
    refine st235 _ ?_
    refine XS.iinc X235.here hx rfl (hb hby d2_178) rfl (l' := (l262_2 o1 o2)) rfl ?_
    refine ygo X235 hx hby 181 157 rfl d2_181 (by decide) ?_
    refine yil X235 hx hby d2_157 rfl ?_
    refine yil X235 hx hby d2_159 rfl ?_
    refine yye X235 hx hby 161 184 rfl d2_161 (flt (by decide : ¬ ((2 : Int32) < (2 : Int32)))).2.1 (by decide) ?_
    show Steps p.tables e below (T235.setTop (mkF m 184 (l262_2 o1 o2) [])) _
    exact X235.returnOut hx hret (hb hby d2_184) hr
   ·
    show Q17 Z w1 kw1 o1 o2 kc3 p4 p5 p6 h0 n0 _ T235.heap _
    exact (Or.inl ⟨b189, k190, hc164, hc165, rfl, N235, KL, (Nat.le_trans (Nat.le_refl _) sz_b189), f240, f241, f242, f243, f238, f239⟩)
 ·
  obtain ⟨T244, X244, e244, st244⟩ := yag X166 hx hZ hown hby (w_20 hw) e166 P3 40 (l262_10 o1 o2) [(.int 2)] d2_40 d2_41 rfl
  obtain ⟨_, T245, L245, X245, hQ245, st245⟩ := own_pb X244 hx hZ hown (y := yn7) (own_w hw 65 rfl) (own_w hw 66 rfl) (own_selp (mvT hZ (w_25 hw)) rfl (Cond.privateMethod_at (mvP hZ (own_w hw 67 rfl) (args := #[]))) (mvT hZ (own_w hw 66 rfl)) (by decide)) (own_w hw 67 rfl) (own_w hw 68 rfl) (w_9 hw) e244 P0 (argsL := [(.int 2)]) (rest := []) (rm9 l Z a0 hw w1 kw1 G [] o1 h0 n0 O0 g_o1 P0 P1 P2 P3) (g := (mkF m 50 (l262_10 o1 o2) [(.int 2), (.ref o1)])) rfl (by rw [hml]; rfl) rfl (hb hby d2_50) (lenOf pd5 rfl) (W := 0) (c1 := 2) (s1 := 3)
  obtain ⟨b246, k247, rfl, Nq248, K249, sz_b246, f250, f251, f252, f253, f254, f255⟩ := hQ245
  have N245 := Fr.app N166 Nq248
  have g_b246 : n0 ≤ b246 := Nat.le_trans (own_oz O0) sz_b246
  have M245 : h0.size ≤ T245.heap.size := Nat.le_trans (Nat.le_refl _) K249.1
  have O245 := Old.keep O0 K249 (allS g_o1 all0)
  obtain ⟨T256, X256, e256, st256⟩ := yag X245 hx hZ hown hby (w_34 hw) rfl f252 53 (l262_10 o1 o2) [] d2_53 d2_54 rfl
  obtain ⟨T257, X257, e257, st257⟩ := yag X256 hx hZ hown hby (w_20 hw) e256 f253 60 (l262_10 o1 o2) [(.int 2)] d2_60 d2_61 rfl
  obtain ⟨T258, X258, e258, st258⟩ := yag X257 hx hZ hown hby (w_18 hw) e257 f251 69 (l262_16 o1 o2) [(.int 4)] d2_69 d2_70 rfl
  obtain ⟨cl259, Ar259, qa259, Sa259, Na259, Ha259, Ga259⟩ := id (f254)
  obtain ⟨T260, X260, e260, st260⟩ := yag X258 hx hZ hown hby (w_18 hw) e258 f251 78 (l262_16 o1 o2) [(.ref o1)] d2_78 d2_79 rfl
  obtain ⟨T261, X261, e261, st261⟩ := yag X260 hx hZ hown hby (w_18 hw) e260 f251 84 (l262_16 o1 o2) [(.int 4), (.ref b246), (.ref o1)] d2_84 d2_85 rfl
  obtain ⟨cl262, Ar262, qa262, Sa262, Na262, Ha262, Ga262⟩ := id (f254)
  obtain ⟨T263, X263, e263, st263⟩ := yag X261 hx hZ hown hby (w_18 hw) e261 f251 89 (l262_16 o1 o2) [(.int 0), (.int 4), (.ref b246), (.ref o1)] d2_89 d2_90 rfl
  obtain ⟨cl264, Ar264, qa264, Sa264, Na264, Ha264, Ga264⟩ := id (f254)
  obtain ⟨_, T265, L265, X265, hQ265, st265⟩ := own_cs X263 hx hZ hown (y := yn3) (w_30 hw) (w_31 hw) (w_33 hw) (w_32 hw) e263 (argsL := [(.int 4), (.int 0)]) (rest := [(.ref b246), (.ref o1)]) (rm4 l Z a0 hw [] ((4 : Int32)) ((0 : Int32)) T245.heap n0 O245 ) (g := (mkF m 97 (l262_16 o1 o2) [(.int 0), (.int 4), (.ref b246), (.ref o1)])) rfl (by rw [hml]; rfl) rfl (hb hby d2_97) (lenOf pd0 rfl) (W := 2) (c1 := 2) (s1 := 3)
  have pre266 : Go p e below T263 (mkF m 97 (l262_16 o1 o2) [(.int 0), (.int 4), (.ref b246), (.ref o1)]) E0 := fun t k => by
   refine pre166 _ ?_
   refine yil X166 hx hby d2_38 rfl ?_
   refine st244 _ ?_
   refine yno X244 hx hby d2_44 (tlt (by decide : (1 : Int32) < (2 : Int32))).2.2.2 ?_
   refine yan X244 hx hby d2_47 rfl rfl ?_
   refine yil X244 hx hby d2_48 rfl ?_
   refine st245 _ ?_
   refine st256 _ ?_
   refine yil X256 hx hby d2_57 rfl ?_
   refine yad X256 hx hby d2_59 ?_
   refine st257 _ ?_
   refine XS.imul X257.here hx rfl (hb hby d2_64) rfl ?_
   refine yis X257 hx hby d2_65 (l' := (l262_16 o1 o2)) rfl ?_
   refine yil X257 hx hby d2_67 rfl ?_
   refine st258 _ ?_
   refine X258.arraylength hx (by rw [e258]; exact Ar259.1) (State.isArrayOf_alike hZ.alike Ar259.2.1) (g := (mkF m 73 (l262_16 o1 o2) [(.ref b246), (.int 4)])) rfl rfl (hb hby d2_73) _ ?_
   rw [len_of Sa259 Na259]
   refine yno X258 hx hby d2_74 (tlt (by decide : (0 : Int32) < (4 : Int32))).2.2.2 ?_
   refine yan X258 hx hby d2_77 rfl rfl ?_
   refine st260 _ ?_
   refine yil X260 hx hby d2_82 rfl ?_
   refine st261 _ ?_
   refine X261.arraylength hx (by rw [e261]; exact Ar262.1) (State.isArrayOf_alike hZ.alike Ar262.2.1) (g := (mkF m 88 (l262_16 o1 o2) [(.ref b246), (.int 4), (.ref b246), (.ref o1)])) rfl rfl (hb hby d2_88) _ ?_
   rw [len_of Sa262 Na262]
   refine st263 _ ?_
   refine X263.arraylength hx (by rw [e263]; exact Ar264.1) (State.isArrayOf_alike hZ.alike Ar264.2.1) (g := (mkF m 93 (l262_16 o1 o2) [(.ref b246), (.int 0), (.int 4), (.ref b246), (.ref o1)])) rfl rfl (hb hby d2_93) _ ?_
   rw [len_of Sa264 Na264]
   refine XS.iconst X263.here hx rfl (hb hby d2_94) ?_
   refine XS.idiv X263.here hx rfl (hb hby d2_95) rfl (by decide : ¬ ((2 : Int32) = (0 : Int32))) ?_
   refine yad X263 hx hby d2_96 ?_
   exact k
  rcases hQ265 with ⟨hc267, rfl, Nq268, e269⟩ | ⟨hc270, rfl, Nq271, e272⟩
  ·
   exact absurd hc267 (by decide : ¬ ((4 : Int32) < (0 : Int32)))
  ·
   have N265 := Fr.app N245 Nq271
   obtain ⟨_, T273, L273, X273, hQ273, st273⟩ := own_cs X265 hx hZ hown (y := yn5) (own_w hw 36 rfl) (w_37 hw) (own_w hw 39 rfl) (w_38 hw) e272 (argsL := [(.ref b246), (.int 4)]) (rest := [(.ref o1)]) (rm10 l Z a0 hw [] b246 k247 T245.heap n0 O245 g_b246 f254) (g := (mkF m 100 (l262_16 o1 o2) [(.int 4), (.ref b246), (.ref o1)])) rfl (by rw [hml]; rfl) rfl (hb hby d2_100) (lenOf pd3 rfl) (W := 1) (c1 := 3) (s1 := 7)
   obtain ⟨b274, k275, rfl, Nq276, K277, sz_b274, f278, f279⟩ := hQ273
   have N273 := Fr.app N265 Nq276
   have g_b274 : n0 ≤ b274 := Nat.le_trans (own_oz O245) sz_b274
   have O273 := Old.keep O245 K277 all0
   have f280 := (f251.keep K277 nin0)
   have f281 := (f250.keep K277)
   obtain ⟨T282, h282, X282, e282, W282, st282⟩ := putF X273 hx hZ hown (host := "") (Or.inl (w_18 hw)) Via.refl rfl f280 f281 (Or.inl (w_19 hw)) (w_8 hw) (ty := (.array .byte)) (by decide) rfl rfl (g := (mkF m 103 (l262_16 o1 o2) [(.ref b274), (.ref o1)])) rfl rfl (hb hby d2_103)
   have N282 := Fr.snoc X282 N273 g_o1
   have Fw282 := f280.same W282
   have O282 := Old.wr O273 W282 g_o1
   obtain ⟨T283, X283, e283, st283⟩ := yag X282 hx hZ hown hby (w_18 hw) e282 Fw282 106 (l262_16 o1 o2) [] d2_106 d2_107 rfl
   have f284 := ((f253.keep K277 nin0).other W282 (Or.inr (slot_ne (Or.inl (w_21 hw)) (Or.inl (w_19 hw)) (by decide) (t := .int) (t' := (.array .byte)) (by decide) (by decide))))
   obtain ⟨T285, X285, e285, st285⟩ := yag X283 hx hZ hown hby (w_20 hw) e283 f284 111 (l262_16 o1 o2) [(.int 0), (.ref b274)] d2_111 d2_112 rfl
   obtain ⟨T286, X286, e286, st286⟩ := yag X285 hx hZ hown hby (w_18 hw) e285 Fw282 116 (l262_16 o1 o2) [(.int 0), (.ref b274)] d2_116 d2_117 rfl
   obtain ⟨T287, X287, e287, st287⟩ := yag X286 hx hZ hown hby (w_20 hw) e286 f284 124 (l262_16 o1 o2) [(.int 2), (.ref b274), (.int 0), (.ref b274)] d2_124 d2_125 rfl
   have f288 := ((f252.keep K277 nin0).other W282 (Or.inr (slot_ne (Or.inl (w_35 hw)) (Or.inl (w_19 hw)) (by decide) (t := .int) (t' := (.array .byte)) (by decide) (by decide))))
   obtain ⟨T289, X289, e289, st289⟩ := yag X287 hx hZ hown hby (w_34 hw) e287 f288 129 (l262_16 o1 o2) [(.int 4), (.ref b274), (.int 0), (.ref b274)] d2_129 d2_130 rfl
   obtain ⟨T290, X290, e290, st290⟩ := yag X289 hx hZ hown hby (w_20 hw) e289 f284 135 (l262_16 o1 o2) [(.int 0), (.int 4), (.ref b274), (.int 0), (.ref b274)] d2_135 d2_136 rfl
   have lt291 : o1 < T245.heap.size := (Nat.lt_of_lt_of_le P0.lt K249.1)
   have ne292 : o1 ≠ b274 := Nat.ne_of_lt (Nat.lt_of_lt_of_le lt291 sz_b274)
   have f293 := (f278.other W282 (Ne.symm ne292))
   obtain ⟨T294, h294, L294, X294, e294, N294, K294, VV294, st294⟩ := cpA X290 hx hZ hown (own_w hw 48 rfl) (w_47 hw) (w_45 hw) (w_46 hw) e290 (us := []) f293 f293 (Or.inl ⟨rfl, rfl⟩) (by decide) (by decide) (by decide) (by decide) (by decide) rfl (by first | decide | exact (by decide : 4 + 0 ≤ 4)) N282 g_b274 (g := (mkF m 140 (l262_16 o1 o2) [(.int 0), (.int 4), (.ref b274), (.int 0), (.ref b274)])) rfl (by rw [hml]; rfl) rfl (hb hby d2_140) (by decide) (W := 0) (by show 2 * 0 + _ ≤ _; exact Nat.le_of_eq rfl) (by decide)
   have V294 : Arv Z h294 b274 k275 .byte (4 : Int32) [(.int 0), (.int 0), (.int 0), (.int 0)] (.int 0) := VV294
   have O294 := Old.keep O282 K294 (allS g_b274 all0)
   have f295 := (f288.keep K294 (ninS ne292 nin0))
   obtain ⟨T296, X296, e296, st296⟩ := yg X294 hx hZ hown hby (w_34 hw) e294 f295 145 (l262_16 o1 o2) [(.ref o1)] d2_145
   have f297 := ((f281.wr W282).keep K294)
   obtain ⟨T298, h298, X298, e298, W298, st298⟩ := putF X296 hx hZ hown (host := "") (Or.inl (w_34 hw)) Via.refl e296 f295 f297 (Or.inl (w_35 hw)) (w_8 hw) (ty := .int) (by decide) rfl rfl (g := (mkF m 151 (l262_16 o1 o2) [(.int 2), (.ref o1)])) rfl rfl (hb hby d2_151)
   have N298 := Fr.snoc X298 N294 g_o1
   have Fw298 := f295.same W298
   have O298 := Old.wr O294 W298 g_o1
   have f299 := (((((P5.keep K249).keep K277).wr W282).keep K294).wr W298)
   have f300 := (f297.wr W298)
   have ne301 : o2 ≠ o1 := ne_exa f299 f300 (by decide)
   have lt302 : o2 < T245.heap.size := (Nat.lt_of_lt_of_le P4.lt K249.1)
   have ne303 : o2 ≠ b274 := Nat.ne_of_lt (Nat.lt_of_lt_of_le lt302 sz_b274)
   have f304 := (((((P4.keep K249 (ninS ne301 nin0)).keep K277 nin0).other W282 ne301).keep K294 (ninS ne303 nin0)).other W298 ne301)
   obtain ⟨cl305, Ar305, qa305, Sa305, Na305, Ha305, Ga305⟩ := id (f304)
   have hin305 := inb_of (j := (0 : Int32)) Sa305 ⟨by decide, by decide⟩
   have hat305 : cl305.slots[((0 : Int32)).toNatClampNeg]? = some (.int p4) := Has.at Ha305 hin305 rfl
   have f306 := ((Fw282.keep K294 (ninS ne292 nin0)).other W298 (Or.inr (slot_ne (Or.inl (w_19 hw)) (Or.inl (w_35 hw)) (by decide) (t := (.array .byte)) (t' := .int) (by decide) (by decide))))
   have f307 := ((f284.keep K294 (ninS ne292 nin0)).other W298 (Or.inr (slot_ne (Or.inl (w_21 hw)) (Or.inl (w_35 hw)) (by decide) (t := .int) (t' := .int) (by decide) (by decide))))
   have f308 := (V294.other W298 (Ne.symm ne292))
   have f309 := (((f279.wr W282).keep K294).wr W298)
   obtain ⟨_, T310, L310, X310, hQ310, st310⟩ := own_pb X298 hx hZ hown (y := yn6) (w_49 hw) (w_50 hw) (own_selp (mvT hZ (w_25 hw)) rfl (Cond.privateMethod_at (mvP hZ (w_51 hw) (args := #[]))) (mvT hZ (w_50 hw)) (by decide)) (w_51 hw) (own_w hw 52 rfl) (w_9 hw) e298 f300 (argsL := [(.int 0), (.int p4)]) (rest := []) (rm11 l Z a0 hw [] o1 b274 k275 p4 h298 n0 O298 g_o1 g_b274 f300 f306 f307 f308 f309) (g := (mkF m 175 (l262_3 o1 o2) [(.int p4), (.int 0), (.ref o1)])) rfl (by rw [hml]; rfl) rfl (hb hby d2_175) (lenOf pd4 rfl) (W := 0) (c1 := 3) (s1 := 7)
   obtain ⟨rfl, Nq311, K312, f313, f314⟩ := hQ310
   have N310 := Fr.app N298 Nq311
   have O310 := Old.keep O298 K312 (allS g_b274 all0)
   have f315 := (f304.keep K312 (ninS ne303 nin0))
   obtain ⟨cl316, Ar316, qa316, Sa316, Na316, Ha316, Ga316⟩ := id (f315)
   have hin316 := inb_of (j := (1 : Int32)) Sa316 ⟨by decide, by decide⟩
   have hat316 : cl316.slots[((1 : Int32)).toNatClampNeg]? = some (.int p5) := Has.at Ha316 hin316 rfl
   have f317 := (f300.keep K312)
   have f318 := (f306.keep K312 (ninS ne292 nin0))
   have f319 := (f307.keep K312 (ninS ne292 nin0))
   obtain ⟨_, T320, L320, X320, hQ320, st320⟩ := own_pb X310 hx hZ hown (y := yn6) (w_49 hw) (w_50 hw) (own_selp (mvT hZ (w_25 hw)) rfl (Cond.privateMethod_at (mvP hZ (w_51 hw) (args := #[]))) (mvT hZ (w_50 hw)) (by decide)) (w_51 hw) (own_w hw 52 rfl) (w_9 hw) rfl f317 (argsL := [(.int 1), (.int p5)]) (rest := []) (rm12 l Z a0 hw [] o1 b274 k275 ((((p4.toUInt32 >>> ((8 : Int32) &&& 31).toUInt32).toInt32).toInt8.toInt32)) (p4.toInt8.toInt32) p5 T310.heap n0 O310 g_o1 g_b274 f317 f318 f319 f313 f314) (g := (mkF m 175 (l262_4 o1 o2) [(.int p5), (.int 1), (.ref o1)])) rfl (by rw [hml]; rfl) rfl (hb hby d2_175) (lenOf pd4 rfl) (W := 0) (c1 := 3) (s1 := 7)
   obtain ⟨rfl, Nq321, K322, f323, f324⟩ := hQ320
   have N320 := Fr.app N310 Nq321
   obtain ⟨fs, hr, hrun, hended, hW, hsame⟩ := X320.leave (v := none) (fun _ => rfl)
   have KL : Keep h0 T320.heap [o1] := ((((((((Keep.refl h0 [o1]).trans K249 (allS (Or.inl (List.mem_of_getElem? (i := 0) rfl)) all0)).trans K277 all0).wr W282 (Or.inl (List.mem_of_getElem? (i := 0) rfl))).trans K294 (allS (Or.inr (Nat.le_trans M245 sz_b274)) all0)).wr W298 (Or.inl (List.mem_of_getElem? (i := 0) rfl))).trans K312 (allS (Or.inr (Nat.le_trans M245 sz_b274)) all0)).trans K322 (allS (Or.inr (Nat.le_trans M245 sz_b274)) all0))
   have f325 := (f317.keep K322)
   have f326 := (f318.keep K322 (ninS ne292 nin0))
   have f327 := ((Fw298.keep K312 (ninS ne292 nin0)).keep K322 (ninS ne292 nin0))
   have f328 := (f319.keep K322 (ninS ne292 nin0))
   refine ⟨_, _, pre266 _ ?_, hrun, hended, _, _, rfl, ?_, ⟨_, rfl⟩, hW, hsame.mono (by decide) (by decide)⟩
   ·
    refine st265 _ ?_
    refine st273 _ ?_
    refine st282 _ ?_
    refine st283 _ ?_
    refine yin X283 hx hby d2_110 rfl ?_
    show Steps p.tables e below (T283.setTop (mkF m 111 (l262_16 o1 o2) [(.int 0), (.ref b274)])) _
    refine st285 _ ?_
    refine XS.imul X285.here hx rfl (hb hby d2_115) rfl ?_
    refine st286 _ ?_
    refine yin X286 hx hby d2_120 rfl ?_
    refine yil X286 hx hby d2_121 rfl ?_
    refine yad X286 hx hby d2_123 ?_
    refine st287 _ ?_
    refine XS.imul X287.here hx rfl (hb hby d2_128) rfl ?_
    refine st289 _ ?_
    refine yin X289 hx hby d2_133 rfl ?_
    refine ysu X289 hx hby d2_134 ?_
    refine st290 _ ?_
    refine XS.imul X290.here hx rfl (hb hby d2_139) rfl ?_
    refine st294 _ ?_
    refine yan X294 hx hby d2_143 rfl rfl ?_
    refine XS.dup X294.here hx rfl (hb hby d2_144) rfl rfl ?_
    refine st296 _ ?_
    refine yil X296 hx hby d2_148 rfl ?_
    refine yad X296 hx hby d2_150 ?_
    refine st298 _ ?_
    refine XS.iconst X298.here hx rfl (hb hby d2_154) ?_
    refine yis X298 hx hby d2_155 (l' := (l262_3 o1 o2)) rfl ?_
    refine yil X298 hx hby d2_157 rfl ?_
    refine yil X298 hx hby d2_159 rfl ?_
    refine yno X298 hx hby d2_161 (tlt (by decide : (0 : Int32) < (2 : Int32))).2.1 ?_
    refine yan X298 hx hby d2_164 rfl rfl ?_
    refine yin X298 hx hby d2_165 rfl ?_
    refine yil X298 hx hby d2_166 rfl ?_
    refine yad X298 hx hby d2_168 ?_
    refine yan X298 hx hby d2_169 rfl rfl ?_
    refine yin X298 hx hby d2_170 rfl ?_
    refine yil X298 hx hby d2_171 rfl ?_
    refine yad X298 hx hby d2_173 ?_
    refine X298.iaload hx (j := (0 : Int32)) (v := (.int p4)) (by rw [e298]; exact Ar305.1) (State.isArrayOf_alike hZ.alike Ar305.2.1) Ar305.2.2 hin305 hat305 (g := (mkF m 174 (l262_3 o1 o2) [(.int 0), (.ref o2), (.int 0), (.ref o1)])) rfl rfl (hb hby d2_174) _ ?_
    refine st310 _ ?_
    refine XS.iinc X310.here hx rfl (hb hby d2_178) rfl (l' := (l262_4 o1 o2)) rfl ?_
    show Steps p.tables e below (T310.setTop (mkF m 181 (l262_4 o1 o2) [])) _
    refine ygo X310 hx hby 181 157 rfl d2_181 (by decide) ?_
    refine yil X310 hx hby d2_157 rfl ?_
    refine yil X310 hx hby d2_159 rfl ?_
    refine yno X310 hx hby d2_161 (tlt (by decide : (1 : Int32) < (2 : Int32))).2.1 ?_
    refine yan X310 hx hby d2_164 rfl rfl ?_
    refine yin X310 hx hby d2_165 rfl ?_
    refine yil X310 hx hby d2_166 rfl ?_
    refine yad X310 hx hby d2_168 ?_
    refine yan X310 hx hby d2_169 rfl rfl ?_
    refine yin X310 hx hby d2_170 rfl ?_
    refine yil X310 hx hby d2_171 rfl ?_
    refine yad X310 hx hby d2_173 ?_
    refine X310.iaload hx (j := (1 : Int32)) (v := (.int p5)) Ar316.1 (State.isArrayOf_alike hZ.alike Ar316.2.1) Ar316.2.2 hin316 hat316 (g := (mkF m 174 (l262_4 o1 o2) [(.int 1), (.ref o2), (.int 1), (.ref o1)])) rfl rfl (hb hby d2_174) _ ?_
    refine st320 _ ?_
    refine XS.iinc X320.here hx rfl (hb hby d2_178) rfl (l' := (l262_5 o1 o2)) rfl ?_
    refine ygo X320 hx hby 181 157 rfl d2_181 (by decide) ?_
    refine yil X320 hx hby d2_157 rfl ?_
    refine yil X320 hx hby d2_159 rfl ?_
    refine yye X320 hx hby 161 184 rfl d2_161 (flt (by decide : ¬ ((2 : Int32) < (2 : Int32)))).2.1 (by decide) ?_
    show Steps p.tables e below (T320.setTop (mkF m 184 (l262_5 o1 o2) [])) _
    exact X320.returnOut hx hret (hb hby d2_184) hr
   ·
    show Q17 Z w1 kw1 o1 o2 kc3 p4 p5 p6 h0 n0 _ T320.heap _
    exact (Or.inr (Or.inl ⟨b274, k275, hc167, hc168, rfl, N320, KL, (Nat.le_trans M245 sz_b274), f325, f326, f327, f328, f323, f324⟩))
 ·
  obtain ⟨T329, X329, e329, st329⟩ := yag X169 hx hZ hown hby (w_20 hw) e169 P3 40 (l262_11 o1 o2) [(.int 3)] d2_40 d2_41 rfl
  obtain ⟨_, T330, L330, X330, hQ330, st330⟩ := own_pb X329 hx hZ hown (y := yn7) (own_w hw 65 rfl) (own_w hw 66 rfl) (own_selp (mvT hZ (w_25 hw)) rfl (Cond.privateMethod_at (mvP hZ (own_w hw 67 rfl) (args := #[]))) (mvT hZ (own_w hw 66 rfl)) (by decide)) (own_w hw 67 rfl) (own_w hw 68 rfl) (w_9 hw) e329 P0 (argsL := [(.int 3)]) (rest := []) (rm13 l Z a0 hw w1 kw1 G [] o1 h0 n0 O0 g_o1 P0 P1 P2 P3) (g := (mkF m 50 (l262_11 o1 o2) [(.int 3), (.ref o1)])) rfl (by rw [hml]; rfl) rfl (hb hby d2_50) (lenOf pd5 rfl) (W := 0) (c1 := 2) (s1 := 3)
  obtain ⟨b331, k332, rfl, Nq333, K334, sz_b331, f335, f336, f337, f338, f339, f340⟩ := hQ330
  have N330 := Fr.app N169 Nq333
  have g_b331 : n0 ≤ b331 := Nat.le_trans (own_oz O0) sz_b331
  have M330 : h0.size ≤ T330.heap.size := Nat.le_trans (Nat.le_refl _) K334.1
  have O330 := Old.keep O0 K334 (allS g_o1 all0)
  obtain ⟨T341, X341, e341, st341⟩ := yag X330 hx hZ hown hby (w_34 hw) rfl f337 53 (l262_11 o1 o2) [] d2_53 d2_54 rfl
  obtain ⟨T342, X342, e342, st342⟩ := yag X341 hx hZ hown hby (w_20 hw) e341 f338 60 (l262_11 o1 o2) [(.int 2)] d2_60 d2_61 rfl
  obtain ⟨T343, X343, e343, st343⟩ := yag X342 hx hZ hown hby (w_18 hw) e342 f336 69 (l262_17 o1 o2) [(.int 6)] d2_69 d2_70 rfl
  obtain ⟨cl344, Ar344, qa344, Sa344, Na344, Ha344, Ga344⟩ := id (f339)
  obtain ⟨T345, X345, e345, st345⟩ := yag X343 hx hZ hown hby (w_18 hw) e343 f336 78 (l262_17 o1 o2) [(.ref o1)] d2_78 d2_79 rfl
  obtain ⟨T346, X346, e346, st346⟩ := yag X345 hx hZ hown hby (w_18 hw) e345 f336 84 (l262_17 o1 o2) [(.int 6), (.ref b331), (.ref o1)] d2_84 d2_85 rfl
  obtain ⟨cl347, Ar347, qa347, Sa347, Na347, Ha347, Ga347⟩ := id (f339)
  obtain ⟨T348, X348, e348, st348⟩ := yag X346 hx hZ hown hby (w_18 hw) e346 f336 89 (l262_17 o1 o2) [(.int 0), (.int 6), (.ref b331), (.ref o1)] d2_89 d2_90 rfl
  obtain ⟨cl349, Ar349, qa349, Sa349, Na349, Ha349, Ga349⟩ := id (f339)
  obtain ⟨_, T350, L350, X350, hQ350, st350⟩ := own_cs X348 hx hZ hown (y := yn3) (w_30 hw) (w_31 hw) (w_33 hw) (w_32 hw) e348 (argsL := [(.int 6), (.int 0)]) (rest := [(.ref b331), (.ref o1)]) (rm4 l Z a0 hw [] ((6 : Int32)) ((0 : Int32)) T330.heap n0 O330 ) (g := (mkF m 97 (l262_17 o1 o2) [(.int 0), (.int 6), (.ref b331), (.ref o1)])) rfl (by rw [hml]; rfl) rfl (hb hby d2_97) (lenOf pd0 rfl) (W := 2) (c1 := 2) (s1 := 3)
  have pre351 : Go p e below T348 (mkF m 97 (l262_17 o1 o2) [(.int 0), (.int 6), (.ref b331), (.ref o1)]) E0 := fun t k => by
   refine pre169 _ ?_
   refine yil X169 hx hby d2_38 rfl ?_
   refine st329 _ ?_
   refine yno X329 hx hby d2_44 (tlt (by decide : (1 : Int32) < (3 : Int32))).2.2.2 ?_
   refine yan X329 hx hby d2_47 rfl rfl ?_
   refine yil X329 hx hby d2_48 rfl ?_
   refine st330 _ ?_
   refine st341 _ ?_
   refine yil X341 hx hby d2_57 rfl ?_
   refine yad X341 hx hby d2_59 ?_
   refine st342 _ ?_
   refine XS.imul X342.here hx rfl (hb hby d2_64) rfl ?_
   refine yis X342 hx hby d2_65 (l' := (l262_17 o1 o2)) rfl ?_
   refine yil X342 hx hby d2_67 rfl ?_
   refine st343 _ ?_
   refine X343.arraylength hx (by rw [e343]; exact Ar344.1) (State.isArrayOf_alike hZ.alike Ar344.2.1) (g := (mkF m 73 (l262_17 o1 o2) [(.ref b331), (.int 6)])) rfl rfl (hb hby d2_73) _ ?_
   rw [len_of Sa344 Na344]
   refine yno X343 hx hby d2_74 (tlt (by decide : (0 : Int32) < (6 : Int32))).2.2.2 ?_
   refine yan X343 hx hby d2_77 rfl rfl ?_
   refine st345 _ ?_
   refine yil X345 hx hby d2_82 rfl ?_
   refine st346 _ ?_
   refine X346.arraylength hx (by rw [e346]; exact Ar347.1) (State.isArrayOf_alike hZ.alike Ar347.2.1) (g := (mkF m 88 (l262_17 o1 o2) [(.ref b331), (.int 6), (.ref b331), (.ref o1)])) rfl rfl (hb hby d2_88) _ ?_
   rw [len_of Sa347 Na347]
   refine st348 _ ?_
   refine X348.arraylength hx (by rw [e348]; exact Ar349.1) (State.isArrayOf_alike hZ.alike Ar349.2.1) (g := (mkF m 93 (l262_17 o1 o2) [(.ref b331), (.int 0), (.int 6), (.ref b331), (.ref o1)])) rfl rfl (hb hby d2_93) _ ?_
   rw [len_of Sa349 Na349]
   refine XS.iconst X348.here hx rfl (hb hby d2_94) ?_
   refine XS.idiv X348.here hx rfl (hb hby d2_95) rfl (by decide : ¬ ((2 : Int32) = (0 : Int32))) ?_
   refine yad X348 hx hby d2_96 ?_
   exact k
  rcases hQ350 with ⟨hc352, rfl, Nq353, e354⟩ | ⟨hc355, rfl, Nq356, e357⟩
  ·
   exact absurd hc352 (by decide : ¬ ((6 : Int32) < (0 : Int32)))
  ·
   have N350 := Fr.app N330 Nq356
   obtain ⟨_, T358, L358, X358, hQ358, st358⟩ := own_cs X350 hx hZ hown (y := yn5) (own_w hw 36 rfl) (w_37 hw) (own_w hw 39 rfl) (w_38 hw) e357 (argsL := [(.ref b331), (.int 6)]) (rest := [(.ref o1)]) (rm14 l Z a0 hw [] b331 k332 T330.heap n0 O330 g_b331 f339) (g := (mkF m 100 (l262_17 o1 o2) [(.int 6), (.ref b331), (.ref o1)])) rfl (by rw [hml]; rfl) rfl (hb hby d2_100) (lenOf pd3 rfl) (W := 1) (c1 := 3) (s1 := 9)
   obtain ⟨b359, k360, rfl, Nq361, K362, sz_b359, f363, f364⟩ := hQ358
   have N358 := Fr.app N350 Nq361
   have g_b359 : n0 ≤ b359 := Nat.le_trans (own_oz O330) sz_b359
   have O358 := Old.keep O330 K362 all0
   have f365 := (f336.keep K362 nin0)
   have f366 := (f335.keep K362)
   obtain ⟨T367, h367, X367, e367, W367, st367⟩ := putF X358 hx hZ hown (host := "") (Or.inl (w_18 hw)) Via.refl rfl f365 f366 (Or.inl (w_19 hw)) (w_8 hw) (ty := (.array .byte)) (by decide) rfl rfl (g := (mkF m 103 (l262_17 o1 o2) [(.ref b359), (.ref o1)])) rfl rfl (hb hby d2_103)
   have N367 := Fr.snoc X367 N358 g_o1
   have Fw367 := f365.same W367
   have O367 := Old.wr O358 W367 g_o1
   obtain ⟨T368, X368, e368, st368⟩ := yag X367 hx hZ hown hby (w_18 hw) e367 Fw367 106 (l262_17 o1 o2) [] d2_106 d2_107 rfl
   have f369 := ((f338.keep K362 nin0).other W367 (Or.inr (slot_ne (Or.inl (w_21 hw)) (Or.inl (w_19 hw)) (by decide) (t := .int) (t' := (.array .byte)) (by decide) (by decide))))
   obtain ⟨T370, X370, e370, st370⟩ := yag X368 hx hZ hown hby (w_20 hw) e368 f369 111 (l262_17 o1 o2) [(.int 0), (.ref b359)] d2_111 d2_112 rfl
   obtain ⟨T371, X371, e371, st371⟩ := yag X370 hx hZ hown hby (w_18 hw) e370 Fw367 116 (l262_17 o1 o2) [(.int 0), (.ref b359)] d2_116 d2_117 rfl
   obtain ⟨T372, X372, e372, st372⟩ := yag X371 hx hZ hown hby (w_20 hw) e371 f369 124 (l262_17 o1 o2) [(.int 2), (.ref b359), (.int 0), (.ref b359)] d2_124 d2_125 rfl
   have f373 := ((f337.keep K362 nin0).other W367 (Or.inr (slot_ne (Or.inl (w_35 hw)) (Or.inl (w_19 hw)) (by decide) (t := .int) (t' := (.array .byte)) (by decide) (by decide))))
   obtain ⟨T374, X374, e374, st374⟩ := yag X372 hx hZ hown hby (w_34 hw) e372 f373 129 (l262_17 o1 o2) [(.int 6), (.ref b359), (.int 0), (.ref b359)] d2_129 d2_130 rfl
   obtain ⟨T375, X375, e375, st375⟩ := yag X374 hx hZ hown hby (w_20 hw) e374 f369 135 (l262_17 o1 o2) [(.int 0), (.int 6), (.ref b359), (.int 0), (.ref b359)] d2_135 d2_136 rfl
   have lt376 : o1 < T330.heap.size := (Nat.lt_of_lt_of_le P0.lt K334.1)
   have ne377 : o1 ≠ b359 := Nat.ne_of_lt (Nat.lt_of_lt_of_le lt376 sz_b359)
   have f378 := (f363.other W367 (Ne.symm ne377))
   obtain ⟨T379, h379, L379, X379, e379, N379, K379, VV379, st379⟩ := cpA X375 hx hZ hown (own_w hw 48 rfl) (w_47 hw) (w_45 hw) (w_46 hw) e375 (us := []) f378 f378 (Or.inl ⟨rfl, rfl⟩) (by decide) (by decide) (by decide) (by decide) (by decide) rfl (by first | decide | exact (by decide : 6 + 0 ≤ 6)) N367 g_b359 (g := (mkF m 140 (l262_17 o1 o2) [(.int 0), (.int 6), (.ref b359), (.int 0), (.ref b359)])) rfl (by rw [hml]; rfl) rfl (hb hby d2_140) (by decide) (W := 0) (by show 2 * 0 + _ ≤ _; exact Nat.le_of_eq rfl) (by decide)
   have V379 : Arv Z h379 b359 k360 .byte (6 : Int32) [(.int 0), (.int 0), (.int 0), (.int 0), (.int 0), (.int 0)] (.int 0) := VV379
   have O379 := Old.keep O367 K379 (allS g_b359 all0)
   have f380 := (f373.keep K379 (ninS ne377 nin0))
   obtain ⟨T381, X381, e381, st381⟩ := yg X379 hx hZ hown hby (w_34 hw) e379 f380 145 (l262_17 o1 o2) [(.ref o1)] d2_145
   have f382 := ((f366.wr W367).keep K379)
   obtain ⟨T383, h383, X383, e383, W383, st383⟩ := putF X381 hx hZ hown (host := "") (Or.inl (w_34 hw)) Via.refl e381 f380 f382 (Or.inl (w_35 hw)) (w_8 hw) (ty := .int) (by decide) rfl rfl (g := (mkF m 151 (l262_17 o1 o2) [(.int 2), (.ref o1)])) rfl rfl (hb hby d2_151)
   have N383 := Fr.snoc X383 N379 g_o1
   have Fw383 := f380.same W383
   have O383 := Old.wr O379 W383 g_o1
   have f384 := (((((P5.keep K334).keep K362).wr W367).keep K379).wr W383)
   have f385 := (f382.wr W383)
   have ne386 : o2 ≠ o1 := ne_exa f384 f385 (by decide)
   have lt387 : o2 < T330.heap.size := (Nat.lt_of_lt_of_le P4.lt K334.1)
   have ne388 : o2 ≠ b359 := Nat.ne_of_lt (Nat.lt_of_lt_of_le lt387 sz_b359)
   have f389 := (((((P4.keep K334 (ninS ne386 nin0)).keep K362 nin0).other W367 ne386).keep K379 (ninS ne388 nin0)).other W383 ne386)
   obtain ⟨cl390, Ar390, qa390, Sa390, Na390, Ha390, Ga390⟩ := id (f389)
   have hin390 := inb_of (j := (0 : Int32)) Sa390 ⟨by decide, by decide⟩
   have hat390 : cl390.slots[((0 : Int32)).toNatClampNeg]? = some (.int p4) := Has.at Ha390 hin390 rfl
   have f391 := ((Fw367.keep K379 (ninS ne377 nin0)).other W383 (Or.inr (slot_ne (Or.inl (w_19 hw)) (Or.inl (w_35 hw)) (by decide) (t := (.array .byte)) (t' := .int) (by decide) (by decide))))
   have f392 := ((f369.keep K379 (ninS ne377 nin0)).other W383 (Or.inr (slot_ne (Or.inl (w_21 hw)) (Or.inl (w_35 hw)) (by decide) (t := .int) (t' := .int) (by decide) (by decide))))
   have f393 := (V379.other W383 (Ne.symm ne377))
   have f394 := (((f364.wr W367).keep K379).wr W383)
   obtain ⟨_, T395, L395, X395, hQ395, st395⟩ := own_pb X383 hx hZ hown (y := yn6) (w_49 hw) (w_50 hw) (own_selp (mvT hZ (w_25 hw)) rfl (Cond.privateMethod_at (mvP hZ (w_51 hw) (args := #[]))) (mvT hZ (w_50 hw)) (by decide)) (w_51 hw) (own_w hw 52 rfl) (w_9 hw) e383 f385 (argsL := [(.int 0), (.int p4)]) (rest := []) (rm15 l Z a0 hw [] o1 b359 k360 p4 h383 n0 O383 g_o1 g_b359 f385 f391 f392 f393 f394) (g := (mkF m 175 (l262_6 o1 o2) [(.int p4), (.int 0), (.ref o1)])) rfl (by rw [hml]; rfl) rfl (hb hby d2_175) (lenOf pd4 rfl) (W := 0) (c1 := 3) (s1 := 9)
   obtain ⟨rfl, Nq396, K397, f398, f399⟩ := hQ395
   have N395 := Fr.app N383 Nq396
   have O395 := Old.keep O383 K397 (allS g_b359 all0)
   have f400 := (f389.keep K397 (ninS ne388 nin0))
   obtain ⟨cl401, Ar401, qa401, Sa401, Na401, Ha401, Ga401⟩ := id (f400)
   have hin401 := inb_of (j := (1 : Int32)) Sa401 ⟨by decide, by decide⟩
   have hat401 : cl401.slots[((1 : Int32)).toNatClampNeg]? = some (.int p5) := Has.at Ha401 hin401 rfl
   have f402 := (f385.keep K397)
   have f403 := (f391.keep K397 (ninS ne377 nin0))
   have f404 := (f392.keep K397 (ninS ne377 nin0))
   obtain ⟨_, T405, L405, X405, hQ405, st405⟩ := own_pb X395 hx hZ hown (y := yn6) (w_49 hw) (w_50 hw) (own_selp (mvT hZ (w_25 hw)) rfl (Cond.privateMethod_at (mvP hZ (w_51 hw) (args := #[]))) (mvT hZ (w_50 hw)) (by decide)) (w_51 hw) (own_w hw 52 rfl) (w_9 hw) rfl f402 (argsL := [(.int 1), (.int p5)]) (rest := []) (rm16 l Z a0 hw [] o1 b359 k360 ((((((p4.toUInt32 >>> ((8 : Int32) &&& 31).toUInt32).toInt32).toUInt32 >>> ((8 : Int32) &&& 31).toUInt32).toInt32).toInt8.toInt32)) ((((p4.toUInt32 >>> ((8 : Int32) &&& 31).toUInt32).toInt32).toInt8.toInt32)) (p4.toInt8.toInt32) p5 T395.heap n0 O395 g_o1 g_b359 f402 f403 f404 f398 f399) (g := (mkF m 175 (l262_7 o1 o2) [(.int p5), (.int 1), (.ref o1)])) rfl (by rw [hml]; rfl) rfl (hb hby d2_175) (lenOf pd4 rfl) (W := 0) (c1 := 3) (s1 := 9)
   obtain ⟨rfl, Nq406, K407, f408, f409⟩ := hQ405
   have N405 := Fr.app N395 Nq406
   obtain ⟨fs, hr, hrun, hended, hW, hsame⟩ := X405.leave (v := none) (fun _ => rfl)
   have KL : Keep h0 T405.heap [o1] := ((((((((Keep.refl h0 [o1]).trans K334 (allS (Or.inl (List.mem_of_getElem? (i := 0) rfl)) all0)).trans K362 all0).wr W367 (Or.inl (List.mem_of_getElem? (i := 0) rfl))).trans K379 (allS (Or.inr (Nat.le_trans M330 sz_b359)) all0)).wr W383 (Or.inl (List.mem_of_getElem? (i := 0) rfl))).trans K397 (allS (Or.inr (Nat.le_trans M330 sz_b359)) all0)).trans K407 (allS (Or.inr (Nat.le_trans M330 sz_b359)) all0))
   have f410 := (f402.keep K407)
   have f411 := (f403.keep K407 (ninS ne377 nin0))
   have f412 := ((Fw383.keep K397 (ninS ne377 nin0)).keep K407 (ninS ne377 nin0))
   have f413 := (f404.keep K407 (ninS ne377 nin0))
   refine ⟨_, _, pre351 _ ?_, hrun, hended, _, _, rfl, ?_, ⟨_, rfl⟩, hW, hsame.mono (by decide) (by decide)⟩
   ·
    refine st350 _ ?_
    refine st358 _ ?_
    refine st367 _ ?_
    refine st368 _ ?_
    refine yin X368 hx hby d2_110 rfl ?_
    show Steps p.tables e below (T368.setTop (mkF m 111 (l262_17 o1 o2) [(.int 0), (.ref b359)])) _
    refine st370 _ ?_
    refine XS.imul X370.here hx rfl (hb hby d2_115) rfl ?_
    refine st371 _ ?_
    refine yin X371 hx hby d2_120 rfl ?_
    refine yil X371 hx hby d2_121 rfl ?_
    refine yad X371 hx hby d2_123 ?_
    refine st372 _ ?_
    refine XS.imul X372.here hx rfl (hb hby d2_128) rfl ?_
    refine st374 _ ?_
    refine yin X374 hx hby d2_133 rfl ?_
    refine ysu X374 hx hby d2_134 ?_
    refine st375 _ ?_
    refine XS.imul X375.here hx rfl (hb hby d2_139) rfl ?_
    refine st379 _ ?_
    refine yan X379 hx hby d2_143 rfl rfl ?_
    refine XS.dup X379.here hx rfl (hb hby d2_144) rfl rfl ?_
    refine st381 _ ?_
    refine yil X381 hx hby d2_148 rfl ?_
    refine yad X381 hx hby d2_150 ?_
    refine st383 _ ?_
    refine XS.iconst X383.here hx rfl (hb hby d2_154) ?_
    refine yis X383 hx hby d2_155 (l' := (l262_6 o1 o2)) rfl ?_
    refine yil X383 hx hby d2_157 rfl ?_
    refine yil X383 hx hby d2_159 rfl ?_
    refine yno X383 hx hby d2_161 (tlt (by decide : (0 : Int32) < (2 : Int32))).2.1 ?_
    refine yan X383 hx hby d2_164 rfl rfl ?_
    refine yin X383 hx hby d2_165 rfl ?_
    refine yil X383 hx hby d2_166 rfl ?_
    refine yad X383 hx hby d2_168 ?_
    refine yan X383 hx hby d2_169 rfl rfl ?_
    refine yin X383 hx hby d2_170 rfl ?_
    refine yil X383 hx hby d2_171 rfl ?_
    refine yad X383 hx hby d2_173 ?_
    refine X383.iaload hx (j := (0 : Int32)) (v := (.int p4)) (by rw [e383]; exact Ar390.1) (State.isArrayOf_alike hZ.alike Ar390.2.1) Ar390.2.2 hin390 hat390 (g := (mkF m 174 (l262_6 o1 o2) [(.int 0), (.ref o2), (.int 0), (.ref o1)])) rfl rfl (hb hby d2_174) _ ?_
    refine st395 _ ?_
    refine XS.iinc X395.here hx rfl (hb hby d2_178) rfl (l' := (l262_7 o1 o2)) rfl ?_
    show Steps p.tables e below (T395.setTop (mkF m 181 (l262_7 o1 o2) [])) _
    refine ygo X395 hx hby 181 157 rfl d2_181 (by decide) ?_
    refine yil X395 hx hby d2_157 rfl ?_
    refine yil X395 hx hby d2_159 rfl ?_
    refine yno X395 hx hby d2_161 (tlt (by decide : (1 : Int32) < (2 : Int32))).2.1 ?_
    refine yan X395 hx hby d2_164 rfl rfl ?_
    refine yin X395 hx hby d2_165 rfl ?_
    refine yil X395 hx hby d2_166 rfl ?_
    refine yad X395 hx hby d2_168 ?_
    refine yan X395 hx hby d2_169 rfl rfl ?_
    refine yin X395 hx hby d2_170 rfl ?_
    refine yil X395 hx hby d2_171 rfl ?_
    refine yad X395 hx hby d2_173 ?_
    refine X395.iaload hx (j := (1 : Int32)) (v := (.int p5)) Ar401.1 (State.isArrayOf_alike hZ.alike Ar401.2.1) Ar401.2.2 hin401 hat401 (g := (mkF m 174 (l262_7 o1 o2) [(.int 1), (.ref o2), (.int 1), (.ref o1)])) rfl rfl (hb hby d2_174) _ ?_
    refine st405 _ ?_
    refine XS.iinc X405.here hx rfl (hb hby d2_178) rfl (l' := (l262_8 o1 o2)) rfl ?_
    refine ygo X405 hx hby 181 157 rfl d2_181 (by decide) ?_
    refine yil X405 hx hby d2_157 rfl ?_
    refine yil X405 hx hby d2_159 rfl ?_
    refine yye X405 hx hby 161 184 rfl d2_161 (flt (by decide : ¬ ((2 : Int32) < (2 : Int32)))).2.1 (by decide) ?_
    show Steps p.tables e below (T405.setTop (mkF m 184 (l262_8 o1 o2) [])) _
    exact X405.returnOut hx hret (hb hby d2_184) hr
   ·
    show Q17 Z w1 kw1 o1 o2 kc3 p4 p5 p6 h0 n0 _ T405.heap _
    exact (Or.inr (Or.inr ⟨b359, k360, rfl, N405, KL, (Nat.le_trans M330 sz_b359), f410, f411, f412, f413, f408, f409⟩))
theorem pd6 : parseMethodDescriptor "(I[III)V" = some ⟨[.int, (.array .int), .int, .int], none⟩ := by decide +kernel
def l264_0 (o1 b2 : Addr) : Array Slot := #[.val (.ref o1), .val (.int 3), .val (.ref b2)]
theorem ef18 (m : MethodId) (x0 : Addr) (x1 : Int32) : entryFrame m #[(.ref x0), (.int x1)] 3 = mkF m 0 #[.val (.ref x0), .val (.int x1), .unset] [] := by first | (simp [entryFrame, mkF, argsToLocals, Value.category]; done) | rfl
def Q18 (Z : State) (o1 : Addr) (kc2 : ClassId) (p3 p4 : Int32) (h0 : Heap) (n0 : Nat) (v : Option Value) (h : Heap) (L : List Loc) : Prop :=
  (∃ b2 : Addr, ∃ k2 : ClassId, v = some (.ref b2) ∧ Fr n0 L ∧ Keep h0 h [] ∧ h0.size ≤ b2 ∧ (Arv Z h b2 k2 .byte (3 : Int32) [(.int p3), (.int p4), (.int 0)] (.int 0)) ∧ (Exa Z h b2 "[B"))
set_option maxRecDepth 65536 in
set_option maxHeartbeats 40000000 in
theorem rm18 (l : Launch) (Z : State) (a0 : Array Value) (hw : HW a0 Z) (ws : List Jvm.Cond) (o1 : Addr) (kc2 : ClassId) (p3 p4 : Int32) (h0 : Heap) (n0 : Nat) (O0 : Old Z n0 h0) (g_o1 : n0 ≤ o1) (P0 : Arv Z h0 o1 kc2 .byte (2 : Int32) [(.int p3), (.int p4)] (.int 0)) :
    MF l yn5 jdk_65_method_121_code 3 (some (.array .byte)) ws ({ frames := 1, cells := 1, slots := 3, locals := 21 } : Room) #[(.ref o1), (.int 3)] Z h0 (Q18 Z o1 kc2 p3 p4 h0 n0) := by
 refine MetFree.of_bodySF (plainFor_of_name pn2) hisR ?_
 intro p e s m args below meth c s₁ Bd hml hP hK
 obtain ⟨rfl, hZ, hh⟩ := hP
 obtain ⟨hx, hby, hown, hret, hlk, X0, e0, N0⟩ := own_bd Bd hh n0
 have pre0 := own_ct s₁ (p := p) (e := e) (below := below) (ef18 m o1 (3 : Int32))
 revert pre0
 generalize s₁.setTop (entryFrame m #[(.ref o1), (.int 3)] 3) = E0
 intro pre0
 obtain ⟨cl1, Ar1, qa1, Sa1, Na1, Ha1, Ga1⟩ := id (P0)
 obtain ⟨T2, h2, k2, X2, e2, E2, A2, EX2, st2⟩ := newPE X0 hx hZ (own_w hw 40 rfl) e0 (g := (mkF m 15 #[.val (.ref o1), .val (.int 3), .unset] [(.int 3)])) rfl (hb hby d5_15) rfl (by decide) (cap := 3) (by decide) (by decide) (by decide) (by decide) (ad := "[B") (by decide)
 obtain ⟨b2, g2⟩ : ∃ z, z = h0.size := ⟨_, rfl⟩
 rw [← g2] at A2 EX2 st2
 have O2 := Old.ext O0 E2
 have sz_b2 : h0.size ≤ b2 := Nat.le_of_eq g2.symm
 have g_b2 : n0 ≤ b2 := Nat.le_trans (own_oz O0) (Nat.le_trans (Nat.le_refl _) sz_b2)
 have V2_0 := Arv.new A2 (by decide)
 have V2 : Arv Z h2 b2 k2 .byte (3 : Int32) [(.int 0), (.int 0), (.int 0)] (.int 0) := V2_0.pad (pad_rep [] (.int 0) 3)
 have f3 := (P0.ext E2)
 obtain ⟨cl4, Ar4, qa4, Sa4, Na4, Ha4, Ga4⟩ := id (f3)
 obtain ⟨_, T5, L5, X5, hQ5, st5⟩ := own_cs X2 hx hZ hown (y := yn4) (own_w hw 41 rfl) (own_w hw 42 rfl) (own_w hw 43 rfl) (w_32 hw) e2 (argsL := [(.int 2), (.int 3)]) (rest := [(.int 0), (.ref b2), (.int 0), (.ref o1)]) (rm5 l Z a0 hw [] ((2 : Int32)) ((3 : Int32)) h2 n0 O2 ) (g := (mkF m 25 (l264_0 o1 b2) [(.int 3), (.int 2), (.int 0), (.ref b2), (.int 0), (.ref o1)])) rfl (by rw [hml]; rfl) rfl (hb hby d5_25) (lenOf pd0 rfl) (W := 4) (c1 := 1) (s1 := 3)
 have pre6 : Go p e below T2 (mkF m 25 (l264_0 o1 b2) [(.int 3), (.int 2), (.int 0), (.ref b2), (.int 0), (.ref o1)]) E0 := fun t k => by
  refine pre0 _ ?_
  refine yin X0 hx hby d5_0 rfl ?_
  refine yan X0 hx hby d5_1 rfl rfl ?_
  refine X0.arraylength hx (by rw [e0]; exact Ar1.1) (State.isArrayOf_alike hZ.alike Ar1.2.1) (g := (mkF m 2 #[.val (.ref o1), .val (.int 3), .unset] [(.ref o1), (.int 3)])) rfl rfl (hb hby d5_2) _ ?_
  rw [len_of Sa1 Na1]
  refine yye X0 hx hby 3 14 rfl d5_3 (feq (by decide : ¬ ((3 : Int32) = (2 : Int32)))).2 (by decide) ?_
  refine yin X0 hx hby d5_14 rfl ?_
  refine st2 _ ?_
  refine XS.astoreN X2.here hx rfl (hb hby d5_17) rfl rfl (l' := (l264_0 o1 b2)) rfl ?_
  refine yan X2 hx hby d5_18 rfl rfl ?_
  refine XS.iconst X2.here hx rfl (hb hby d5_19) ?_
  refine yan X2 hx hby d5_20 rfl rfl ?_
  refine XS.iconst X2.here hx rfl (hb hby d5_21) ?_
  refine yan X2 hx hby d5_22 rfl rfl ?_
  refine X2.arraylength hx (by rw [e2]; exact Ar4.1) (State.isArrayOf_alike hZ.alike Ar4.2.1) (g := (mkF m 23 (l264_0 o1 b2) [(.ref o1), (.int 0), (.ref b2), (.int 0), (.ref o1)])) rfl rfl (hb hby d5_23) _ ?_
  rw [len_of Sa4 Na4]
  refine yin X2 hx hby d5_24 rfl ?_
  exact k
 rcases hQ5 with ⟨hc7, rfl, Nq8, e9⟩ | ⟨hc10, rfl, Nq11, e12⟩
 ·
  exact absurd hc7 (by decide : ¬ ((3 : Int32) < (2 : Int32)))
 ·
  have N5 := Fr.app N0 Nq11
  obtain ⟨T13, h13, L13, X13, e13, N13, K13, VV13, st13⟩ := cpA X5 hx hZ hown (own_w hw 44 rfl) (w_47 hw) (w_45 hw) (w_46 hw) e12 (us := [(.int p3), (.int p4)]) f3 V2 (Or.inl ⟨rfl, rfl⟩) (by decide) (by decide) (by decide) (by decide) (by decide) rfl (by first | decide | exact (by decide : 0 + 2 ≤ 3)) N5 g_b2 (g := (mkF m 28 (l264_0 o1 b2) [(.int 2), (.int 0), (.ref b2), (.int 0), (.ref o1)])) rfl (by rw [hml]; rfl) rfl (hb hby d5_28) (by decide) (W := 0) (by show 2 * 0 + _ ≤ _; exact Nat.le_of_eq rfl) (by decide)
  have V13 : Arv Z h13 b2 k2 .byte (3 : Int32) [(.int p3), (.int p4), (.int 0)] (.int 0) := VV13
  obtain ⟨fs, hr, hrun, hended, hW, hsame⟩ := X13.leave (v := some (.ref b2)) (fun h => by rw [hret] at h; cases h)
  have KL : Keep h0 h13 [] := (((Keep.refl h0 []).ext E2).trans K13 (allS (Or.inr (Nat.le_trans (Nat.le_refl _) sz_b2)) all0))
  have f14 := (EX2.keep K13)
  refine ⟨_, _, pre6 _ ?_, hrun, hended, _, _, rfl, ?_, ⟨_, rfl⟩, hW, hsame.mono (by decide) (by decide)⟩
  ·
   refine st5 _ ?_
   refine st13 _ ?_
   refine yan X13 hx hby d5_31 rfl rfl ?_
   show Steps p.tables e below (T13.setTop (mkF m 32 (l264_0 o1 b2) [(.ref b2)])) _
   exact retOut X13 hx hret rfl (Or.inr (Or.inr (Or.inr (Or.inr ⟨rfl, rfl, rfl⟩)))) (hb hby d5_32) hr
  ·
   show Q18 Z o1 kc2 p3 p4 h0 n0 _ T13.heap _
   rw [e13]
   exact ⟨b2, k2, rfl, N13, KL, (Nat.le_trans (Nat.le_refl _) sz_b2), V13, f14⟩
def l265_0 (o1 : Addr) (p2 : Int32) : Array Slot := #[.val (.ref o1), .val (.int 0), .val (.int ((p2.toUInt32 >>> ((8 : Int32) &&& 31).toUInt32).toInt32)), .val (.int 0), .val (.int (-1))]
def l265_1 (o1 : Addr) (p2 : Int32) : Array Slot := #[.val (.ref o1), .val (.int 0), .val (.int p2), .val (.int 0), .val (.int 0)]
theorem ef19 (m : MethodId) (x0 : Addr) (x1 x2 : Int32) : entryFrame m #[(.ref x0), (.int x1), (.int x2)] 5 = mkF m 0 #[.val (.ref x0), .val (.int x1), .val (.int x2), .unset, .unset] [] := by first | (simp [entryFrame, mkF, argsToLocals, Value.category]; done) | rfl
def Q19 (Z : State) (o1 o3 : Addr) (kc4 : ClassId) (p5 p6 : Int32) (p7 p2 : Int32) (h0 : Heap) (n0 : Nat) (v : Option Value) (h : Heap) (L : List Loc) : Prop :=
  (v = none ∧ Fr n0 L ∧ Keep h0 h [o3] ∧ (Arv Z h o3 kc4 .byte (3 : Int32) [(.int (p2.toInt8.toInt32)), (.int p6), (.int p7)] (.int 0)) ∧ (Exa Z h o3 "[B"))
set_option maxRecDepth 65536 in
set_option maxHeartbeats 40000000 in
theorem rm19 (l : Launch) (Z : State) (a0 : Array Value) (hw : HW a0 Z) (ws : List Jvm.Cond) (o1 o3 : Addr) (kc4 : ClassId) (p5 p6 : Int32) (p7 p2 : Int32) (h0 : Heap) (n0 : Nat) (O0 : Old Z n0 h0) (g_o1 : n0 ≤ o1) (g_o3 : n0 ≤ o3) (P1 : Fld Z h0 o1 "com/example/driftless/driftless/CodePoints" "bytes" "[B" (.ref o3)) (P3 : Fld Z h0 o1 "com/example/driftless/driftless/CodePoints" "width" "I" (.int 1)) (P4 : Arv Z h0 o3 kc4 .byte (3 : Int32) [(.int p5), (.int p6), (.int p7)] (.int 0)) (P5 : Exa Z h0 o3 "[B") :
    MF l yn6 prog_6_method_9_code 5 none ws ({ frames := 0, cells := 0, slots := 0, locals := 0 } : Room) #[(.ref o1), (.int 0), (.int p2)] Z h0 (Q19 Z o1 o3 kc4 p5 p6 p7 p2 h0 n0) := by
 refine MetFree.of_bodySF (plainFor_of_name pn1) hisR ?_
 intro p e s m args below meth c s₁ Bd hml hP hK
 obtain ⟨rfl, hZ, hh⟩ := hP
 obtain ⟨hx, hby, hown, hret, hlk, X0, e0, N0⟩ := own_bd Bd hh n0
 have pre0 := own_ct s₁ (p := p) (e := e) (below := below) (ef19 m o1 (0 : Int32) p2)
 obtain ⟨T1, X1, e1, st1⟩ := yag X0 hx hZ hown hby (w_20 hw) e0 P3 1 #[.val (.ref o1), .val (.int 0), .val (.int p2), .unset, .unset] [(.int 0)] d7_1 d7_2 rfl
 obtain ⟨T2, X2, e2, st2⟩ := yag X1 hx hZ hown hby (w_20 hw) e1 P3 7 #[.val (.ref o1), .val (.int 0), .val (.int p2), .val (.int 0), .unset] [] d7_7 d7_8 rfl
 obtain ⟨T3, X3, e3, st3⟩ := yag X2 hx hZ hown hby (w_18 hw) e2 P1 20 (l265_1 o1 p2) [] d7_20 d7_21 rfl
 obtain ⟨cl4, Ar4, qa4, Sa4, Na4, Ha4, Ga4⟩ := id (P4)
 have hin4 := inb_of (j := (0 : Int32)) Sa4 ⟨by decide, by decide⟩
 obtain ⟨T5, h5, X5, e5, W5, st5⟩ := stB X3 hx hZ e3 Ar4 (j := (0 : Int32)) hin4 (g := (mkF m 30 (l265_1 o1 p2) [(.int (p2.toInt8.toInt32)), (.int 0), (.ref o3)])) rfl rfl (hb hby d7_30)
 rw [own_nb8] at W5
 have V5 : Arv Z h5 o3 kc4 .byte (3 : Int32) [(.int (p2.toInt8.toInt32)), (.int p6), (.int p7)] (.int 0) := Arv.set Ar4 qa4 Sa4 Na4 Ha4 Ga4 (fits_nar_byte _) W5 0 rfl (Nat.le_of_ble_eq_true rfl)
 have N5 := Fr.snoc X5 N0 g_o3
 obtain ⟨fs, hr, hrun, hended, hW, hsame⟩ := X5.leave (v := none) (fun _ => rfl)
 have KL : Keep h0 h5 [o3] := ((Keep.refl h0 [o3]).wr W5 (Or.inl (List.mem_of_getElem? (i := 0) rfl)))
 have f6 := (P5.wr W5)
 refine ⟨_, _, pre0 _ ?_, hrun, hended, _, _, rfl, ?_, ⟨_, rfl⟩, hW, hsame.mono (by decide) (by decide)⟩
 ·
  refine yin X0 hx hby d7_0 rfl ?_
  refine st1 _ ?_
  refine XS.imul X1.here hx rfl (hb hby d7_5) rfl ?_
  refine yit X1 hx hby d7_6 (l' := #[.val (.ref o1), .val (.int 0), .val (.int p2), .val (.int 0), .unset]) rfl ?_
  refine st2 _ ?_
  refine XS.iconst X2.here hx rfl (hb hby d7_11) ?_
  refine ysu X2 hx hby d7_12 ?_
  refine yis X2 hx hby d7_13 (l' := (l265_1 o1 p2)) rfl ?_
  refine yil X2 hx hby d7_15 rfl ?_
  refine XS.ifNo X2.here hx rfl (hb hby d7_17) rfl ((if0 _ _).trans (flt (by decide : ¬ ((0 : Int32) < (0 : Int32)))).1) ?_
  refine st3 _ ?_
  refine yin X3 hx hby d7_24 rfl ?_
  refine yil X3 hx hby d7_25 rfl ?_
  refine yad X3 hx hby d7_27 ?_
  refine yin X3 hx hby d7_28 rfl ?_
  refine XS.i2b X3.here hx rfl (hb hby d7_29) rfl ?_
  refine st5 _ ?_
  refine yin X5 hx hby d7_31 rfl ?_
  refine XS.bipush X5.here hx rfl (hb hby d7_32) ?_
  refine XS.iushr X5.here hx rfl (hb hby d7_34) rfl ?_
  refine yit X5 hx hby d7_35 (l' := #[.val (.ref o1), .val (.int 0), .val (.int ((p2.toUInt32 >>> ((8 : Int32) &&& 31).toUInt32).toInt32)), .val (.int 0), .val (.int 0)]) rfl ?_
  refine XS.iinc X5.here hx rfl (hb hby d7_36) rfl (l' := (l265_0 o1 p2)) rfl ?_
  refine ygo X5 hx hby 39 15 rfl d7_39 (by decide) ?_
  refine yil X5 hx hby d7_15 rfl ?_
  refine XS.ifYes X5.here hx rfl (pc0 := 17) (pc' := 42) rfl (hb hby d7_17) rfl ((if0 _ _).trans (tlt (by decide : (-1 : Int32) < (0 : Int32))).1) (by decide) (by decide) ?_
  show Steps p.tables e below (T5.setTop (mkF m 42 (l265_0 o1 p2) [])) _
  exact X5.returnOut hx hret (hb hby d7_42) hr
 ·
  show Q19 Z o1 o3 kc4 p5 p6 p7 p2 h0 n0 _ T5.heap _
  rw [e5]
  exact ⟨rfl, N5, KL, V5, f6⟩
theorem d8_59 : decode prog_6_method_10_code 59 = .ok (.aload_n 0, 1) := by decide +kernel
theorem d8_60 : decode prog_6_method_10_code 60 = .ok (.iload_n 3, 1) := by decide +kernel
theorem d8_61 : decode prog_6_method_10_code 61 = .ok (.aload_n 2, 1) := by decide +kernel
theorem d8_62 : decode prog_6_method_10_code 62 = .ok (.iload_n 3, 1) := by decide +kernel
theorem d8_63 : decode prog_6_method_10_code 63 = .ok (.invokevirtual 54, 3) := by decide +kernel
theorem d9_0 : decode prog_6_method_4_code 0 = .ok (.iload_n 1, 1) := by decide +kernel
theorem d9_1 : decode prog_6_method_4_code 1 = .ok (.aload_n 0, 1) := by decide +kernel
theorem d9_2 : decode prog_6_method_4_code 2 = .ok (.getfield 16, 3) := by decide +kernel
theorem d9_5 : decode prog_6_method_4_code 5 = .ok (.imul, 1) := by decide +kernel
theorem d9_6 : decode prog_6_method_4_code 6 = .ok (.istore_n 2, 1) := by decide +kernel
theorem d9_7 : decode prog_6_method_4_code 7 = .ok (.aload_n 0, 1) := by decide +kernel
theorem d9_8 : decode prog_6_method_4_code 8 = .ok (.getfield 13, 3) := by decide +kernel
theorem d9_11 : decode prog_6_method_4_code 11 = .ok (.iload_n 2, 1) := by decide +kernel
theorem d9_12 : decode prog_6_method_4_code 12 = .ok (.baload, 1) := by decide +kernel
theorem d9_13 : decode prog_6_method_4_code 13 = .ok (.sipush 255, 3) := by decide +kernel
theorem d9_16 : decode prog_6_method_4_code 16 = .ok (.iand, 1) := by decide +kernel
theorem d9_17 : decode prog_6_method_4_code 17 = .ok (.istore_n 3, 1) := by decide +kernel
theorem d9_18 : decode prog_6_method_4_code 18 = .ok (.iconst 1, 1) := by decide +kernel
theorem d9_19 : decode prog_6_method_4_code 19 = .ok (.istore 4, 2) := by decide +kernel
theorem d9_21 : decode prog_6_method_4_code 21 = .ok (.iload 4, 2) := by decide +kernel
theorem d9_23 : decode prog_6_method_4_code 23 = .ok (.aload_n 0, 1) := by decide +kernel
theorem d9_24 : decode prog_6_method_4_code 24 = .ok (.getfield 16, 3) := by decide +kernel
theorem d9_27 : decode prog_6_method_4_code 27 = .ok (.if_icmp .ge 28, 3) := by decide +kernel
theorem d9_55 : decode prog_6_method_4_code 55 = .ok (.iload_n 3, 1) := by decide +kernel
theorem d9_56 : decode prog_6_method_4_code 56 = .ok (.ireturn, 1) := by decide +kernel
def l291_0 (o1 : Addr) (p4 : Int32) : Array Slot := #[.val (.ref o1), .val (.int 0), .val (.int 0), .val (.int (p4 &&& (255 : Int32))), .val (.int 1)]
def l291_1 (o1 : Addr) : Array Slot := #[.val (.ref o1), .val (.int 0), .val (.int 0), .unset, .unset]
theorem ef20 (m : MethodId) (x0 : Addr) (x1 : Int32) : entryFrame m #[(.ref x0), (.int x1)] 5 = mkF m 0 #[.val (.ref x0), .val (.int x1), .unset, .unset, .unset] [] := by first | (simp [entryFrame, mkF, argsToLocals, Value.category]; done) | rfl
def Q20 (Z : State) (o1 o2 : Addr) (kc3 : ClassId) (p4 p5 : Int32) (h0 : Heap) (n0 : Nat) (v : Option Value) (h : Heap) (L : List Loc) : Prop :=
  (v = some (.int (p4 &&& (255 : Int32))) ∧ Fr n0 L ∧ h = h0)
set_option maxRecDepth 65536 in
set_option maxHeartbeats 40000000 in
theorem rm20 (l : Launch) (Z : State) (a0 : Array Value) (hw : HW a0 Z) (ws : List Jvm.Cond) (o1 o2 : Addr) (kc3 : ClassId) (p4 p5 : Int32) (h0 : Heap) (n0 : Nat) (O0 : Old Z n0 h0) (g_o1 : n0 ≤ o1) (g_o2 : n0 ≤ o2) (P1 : Fld Z h0 o1 "com/example/driftless/driftless/CodePoints" "bytes" "[B" (.ref o2)) (P3 : Fld Z h0 o1 "com/example/driftless/driftless/CodePoints" "width" "I" (.int 1)) (P4 : Arv Z h0 o2 kc3 .byte (2 : Int32) [(.int p4), (.int p5)] (.int 0)) :
    MF l yn9 prog_6_method_4_code 5 (some .int) ws ({ frames := 0, cells := 0, slots := 0, locals := 0 } : Room) #[(.ref o1), (.int 0)] Z h0 (Q20 Z o1 o2 kc3 p4 p5 h0 n0) := by
 refine MetFree.of_bodySF (plainFor_of_name pn1) hisR ?_
 intro p e s m args below meth c s₁ Bd hml hP hK
 obtain ⟨rfl, hZ, hh⟩ := hP
 obtain ⟨hx, hby, hown, hret, hlk, X0, e0, N0⟩ := own_bd Bd hh n0
 have pre0 := own_ct s₁ (p := p) (e := e) (below := below) (ef20 m o1 (0 : Int32))
 obtain ⟨T1, X1, e1, st1⟩ := yag X0 hx hZ hown hby (w_20 hw) e0 P3 1 #[.val (.ref o1), .val (.int 0), .unset, .unset, .unset] [(.int 0)] d9_1 d9_2 rfl
 obtain ⟨T2, X2, e2, st2⟩ := yag X1 hx hZ hown hby (w_18 hw) e1 P1 7 (l291_1 o1) [] d9_7 d9_8 rfl
 obtain ⟨cl3, Ar3, qa3, Sa3, Na3, Ha3, Ga3⟩ := id (P4)
 have hin3 := inb_of (j := (0 : Int32)) Sa3 ⟨by decide, by decide⟩
 have hat3 : cl3.slots[((0 : Int32)).toNatClampNeg]? = some (.int p4) := Has.at Ha3 hin3 rfl
 obtain ⟨T4, X4, e4, st4⟩ := yag X2 hx hZ hown hby (w_20 hw) e2 P3 23 (l291_0 o1 p4) [(.int 1)] d9_23 d9_24 rfl
 obtain ⟨fs, hr, hrun, hended, hW, hsame⟩ := X4.leave (v := some (.int (p4 &&& (255 : Int32)))) (fun h => by rw [hret] at h; cases h)
 refine ⟨_, _, pre0 _ ?_, hrun, hended, _, _, rfl, ?_, ⟨_, rfl⟩, hW, hsame.mono (by decide) (by decide)⟩
 ·
  refine yin X0 hx hby d9_0 rfl ?_
  refine st1 _ ?_
  refine XS.imul X1.here hx rfl (hb hby d9_5) rfl ?_
  refine yit X1 hx hby d9_6 (l' := (l291_1 o1)) rfl ?_
  refine st2 _ ?_
  refine yin X2 hx hby d9_11 rfl ?_
  refine X2.baloadBytes hx (j := (0 : Int32)) (v := (.int p4)) (by rw [e2]; exact Ar3.1) (State.isArrayOf_alike hZ.alike Ar3.2.1) Ar3.2.2 hin3 hat3 (g := (mkF m 12 (l291_1 o1) [(.int 0), (.ref o2)])) rfl rfl (hb hby d9_12) _ ?_
  refine XS.sipush X2.here hx rfl (hb hby d9_13) ?_
  refine XS.iand X2.here hx rfl (hb hby d9_16) rfl ?_
  refine yit X2 hx hby d9_17 (l' := #[.val (.ref o1), .val (.int 0), .val (.int 0), .val (.int (p4 &&& (255 : Int32))), .unset]) rfl ?_
  refine XS.iconst X2.here hx rfl (hb hby d9_18) ?_
  refine yis X2 hx hby d9_19 (l' := (l291_0 o1 p4)) rfl ?_
  refine yil X2 hx hby d9_21 rfl ?_
  refine st4 _ ?_
  refine yye X4 hx hby 27 55 rfl d9_27 (flt (by decide : ¬ ((1 : Int32) < (1 : Int32)))).2.1 (by decide) ?_
  refine yin X4 hx hby d9_55 rfl ?_
  show Steps p.tables e below (T4.setTop (mkF m 56 (l291_0 o1 p4) [(.int (p4 &&& (255 : Int32)))])) _
  exact retI X4 hx hret (hb hby d9_56) hr
 ·
  show Q20 Z o1 o2 kc3 p4 p5 h0 n0 _ T4.heap _
  rw [e4]
  exact ⟨rfl, N0, rfl⟩
theorem d8_66 : decode prog_6_method_10_code 66 = .ok (.invokevirtual 28, 3) := by decide +kernel
theorem d8_69 : decode prog_6_method_10_code 69 = .ok (.iinc 3 1, 3) := by decide +kernel
theorem d8_72 : decode prog_6_method_10_code 72 = .ok (.goto (-21), 3) := by decide +kernel
def l295_0 (o1 : Addr) (p5 : Int32) : Array Slot := #[.val (.ref o1), .val (.int 1), .val (.int 1), .val (.int (p5 &&& (255 : Int32))), .val (.int 1)]
def l295_1 (o1 : Addr) : Array Slot := #[.val (.ref o1), .val (.int 1), .val (.int 1), .unset, .unset]
theorem ef21 (m : MethodId) (x0 : Addr) (x1 : Int32) : entryFrame m #[(.ref x0), (.int x1)] 5 = mkF m 0 #[.val (.ref x0), .val (.int x1), .unset, .unset, .unset] [] := by first | (simp [entryFrame, mkF, argsToLocals, Value.category]; done) | rfl
def Q21 (Z : State) (o1 o2 : Addr) (kc3 : ClassId) (p4 p5 : Int32) (h0 : Heap) (n0 : Nat) (v : Option Value) (h : Heap) (L : List Loc) : Prop :=
  (v = some (.int (p5 &&& (255 : Int32))) ∧ Fr n0 L ∧ h = h0)
set_option maxRecDepth 65536 in
set_option maxHeartbeats 40000000 in
theorem rm21 (l : Launch) (Z : State) (a0 : Array Value) (hw : HW a0 Z) (ws : List Jvm.Cond) (o1 o2 : Addr) (kc3 : ClassId) (p4 p5 : Int32) (h0 : Heap) (n0 : Nat) (O0 : Old Z n0 h0) (g_o1 : n0 ≤ o1) (g_o2 : n0 ≤ o2) (P1 : Fld Z h0 o1 "com/example/driftless/driftless/CodePoints" "bytes" "[B" (.ref o2)) (P3 : Fld Z h0 o1 "com/example/driftless/driftless/CodePoints" "width" "I" (.int 1)) (P4 : Arv Z h0 o2 kc3 .byte (2 : Int32) [(.int p4), (.int p5)] (.int 0)) :
    MF l yn9 prog_6_method_4_code 5 (some .int) ws ({ frames := 0, cells := 0, slots := 0, locals := 0 } : Room) #[(.ref o1), (.int 1)] Z h0 (Q21 Z o1 o2 kc3 p4 p5 h0 n0) := by
 refine MetFree.of_bodySF (plainFor_of_name pn1) hisR ?_
 intro p e s m args below meth c s₁ Bd hml hP hK
 obtain ⟨rfl, hZ, hh⟩ := hP
 obtain ⟨hx, hby, hown, hret, hlk, X0, e0, N0⟩ := own_bd Bd hh n0
 have pre0 := own_ct s₁ (p := p) (e := e) (below := below) (ef21 m o1 (1 : Int32))
 obtain ⟨T1, X1, e1, st1⟩ := yag X0 hx hZ hown hby (w_20 hw) e0 P3 1 #[.val (.ref o1), .val (.int 1), .unset, .unset, .unset] [(.int 1)] d9_1 d9_2 rfl
 obtain ⟨T2, X2, e2, st2⟩ := yag X1 hx hZ hown hby (w_18 hw) e1 P1 7 (l295_1 o1) [] d9_7 d9_8 rfl
 obtain ⟨cl3, Ar3, qa3, Sa3, Na3, Ha3, Ga3⟩ := id (P4)
 have hin3 := inb_of (j := (1 : Int32)) Sa3 ⟨by decide, by decide⟩
 have hat3 : cl3.slots[((1 : Int32)).toNatClampNeg]? = some (.int p5) := Has.at Ha3 hin3 rfl
 obtain ⟨T4, X4, e4, st4⟩ := yag X2 hx hZ hown hby (w_20 hw) e2 P3 23 (l295_0 o1 p5) [(.int 1)] d9_23 d9_24 rfl
 obtain ⟨fs, hr, hrun, hended, hW, hsame⟩ := X4.leave (v := some (.int (p5 &&& (255 : Int32)))) (fun h => by rw [hret] at h; cases h)
 refine ⟨_, _, pre0 _ ?_, hrun, hended, _, _, rfl, ?_, ⟨_, rfl⟩, hW, hsame.mono (by decide) (by decide)⟩
 ·
  refine yin X0 hx hby d9_0 rfl ?_
  refine st1 _ ?_
  refine XS.imul X1.here hx rfl (hb hby d9_5) rfl ?_
  refine yit X1 hx hby d9_6 (l' := (l295_1 o1)) rfl ?_
  refine st2 _ ?_
  refine yin X2 hx hby d9_11 rfl ?_
  refine X2.baloadBytes hx (j := (1 : Int32)) (v := (.int p5)) (by rw [e2]; exact Ar3.1) (State.isArrayOf_alike hZ.alike Ar3.2.1) Ar3.2.2 hin3 hat3 (g := (mkF m 12 (l295_1 o1) [(.int 1), (.ref o2)])) rfl rfl (hb hby d9_12) _ ?_
  refine XS.sipush X2.here hx rfl (hb hby d9_13) ?_
  refine XS.iand X2.here hx rfl (hb hby d9_16) rfl ?_
  refine yit X2 hx hby d9_17 (l' := #[.val (.ref o1), .val (.int 1), .val (.int 1), .val (.int (p5 &&& (255 : Int32))), .unset]) rfl ?_
  refine XS.iconst X2.here hx rfl (hb hby d9_18) ?_
  refine yis X2 hx hby d9_19 (l' := (l295_0 o1 p5)) rfl ?_
  refine yil X2 hx hby d9_21 rfl ?_
  refine st4 _ ?_
  refine yye X4 hx hby 27 55 rfl d9_27 (flt (by decide : ¬ ((1 : Int32) < (1 : Int32)))).2.1 (by decide) ?_
  refine yin X4 hx hby d9_55 rfl ?_
  show Steps p.tables e below (T4.setTop (mkF m 56 (l295_0 o1 p5) [(.int (p5 &&& (255 : Int32)))])) _
  exact retI X4 hx hret (hb hby d9_56) hr
 ·
  show Q21 Z o1 o2 kc3 p4 p5 h0 n0 _ T4.heap _
  rw [e4]
  exact ⟨rfl, N0, rfl⟩
def l296_0 (o1 b1 : Addr) : Array Slot := #[.val (.ref o1), .val (.int 2), .val (.ref b1), .val (.int 0)]
def l296_1 (o1 b1 : Addr) : Array Slot := #[.val (.ref o1), .val (.int 2), .val (.ref b1), .val (.int 1)]
def l296_2 (o1 b1 : Addr) : Array Slot := #[.val (.ref o1), .val (.int 2), .val (.ref b1), .val (.int 2)]
def l296_3 (o1 b1 : Addr) : Array Slot := #[.val (.ref o1), .val (.int 2), .val (.ref b1), .unset]
theorem ef22 (m : MethodId) (x0 : Addr) (x1 : Int32) : entryFrame m #[(.ref x0), (.int x1)] 4 = mkF m 0 #[.val (.ref x0), .val (.int x1), .unset, .unset] [] := by first | (simp [entryFrame, mkF, argsToLocals, Value.category]; done) | rfl
def Q22 (Z : State) (w1 : Addr) (kw1 : ClassId) (o1 o2 : Addr) (kc3 : ClassId) (p4 p5 : Int32) (h0 : Heap) (n0 : Nat) (v : Option Value) (h : Heap) (L : List Loc) : Prop :=
  (∃ b26 : Addr, ∃ k26 : ClassId, v = none ∧ Fr n0 L ∧ Keep h0 h [o1] ∧ h0.size ≤ b26 ∧ (Exa Z h o1 "com/example/driftless/driftless/CodePoints") ∧ (Fld Z h o1 "com/example/driftless/driftless/CodePoints" "bytes" "[B" (.ref b26)) ∧ (Fld Z h o1 "com/example/driftless/driftless/CodePoints" "length" "I" (.int 2)) ∧ (Fld Z h o1 "com/example/driftless/driftless/CodePoints" "width" "I" (.int 2)) ∧ (Arv Z h b26 k26 .byte (4 : Int32) [(.int ((((p4 &&& (255 : Int32)).toUInt32 >>> ((8 : Int32) &&& 31).toUInt32).toInt32).toInt8.toInt32)), (.int ((p4 &&& (255 : Int32)).toInt8.toInt32)), (.int ((((p5 &&& (255 : Int32)).toUInt32 >>> ((8 : Int32) &&& 31).toUInt32).toInt32).toInt8.toInt32)), (.int ((p5 &&& (255 : Int32)).toInt8.toInt32))] (.int 0)) ∧ (Exa Z h b26 "[B"))
set_option maxRecDepth 65536 in
set_option maxHeartbeats 40000000 in
theorem rm22 (l : Launch) (Z : State) (a0 : Array Value) (hw : HW a0 Z) (w1 : Addr) (kw1 : ClassId) (G : GW Z w1 kw1) (ws : List Jvm.Cond) (o1 o2 : Addr) (kc3 : ClassId) (p4 p5 : Int32) (h0 : Heap) (n0 : Nat) (O0 : Old Z n0 h0) (g_o1 : n0 ≤ o1) (g_o2 : n0 ≤ o2) (P0 : Exa Z h0 o1 "com/example/driftless/driftless/CodePoints") (P1 : Fld Z h0 o1 "com/example/driftless/driftless/CodePoints" "bytes" "[B" (.ref o2)) (P2 : Fld Z h0 o1 "com/example/driftless/driftless/CodePoints" "length" "I" (.int 2)) (P3 : Fld Z h0 o1 "com/example/driftless/driftless/CodePoints" "width" "I" (.int 1)) (P4 : Arv Z h0 o2 kc3 .byte (2 : Int32) [(.int p4), (.int p5)] (.int 0)) (P5 : Exa Z h0 o2 "[B") :
    MF l yn7 prog_6_method_10_code 4 none ws ({ frames := 2, cells := 2, slots := 7, locals := 25 } : Room) #[(.ref o1), (.int 2)] Z h0 (Q22 Z w1 kw1 o1 o2 kc3 p4 p5 h0 n0) := by
 obtain ⟨S_w1, E_w1, A_w1⟩ := id G
 refine MetFree.of_bodySF (plainFor_of_name pn1) hisR ?_
 intro p e s m args below meth c s₁ Bd hml hP hK
 obtain ⟨rfl, hZ, hh⟩ := hP
 obtain ⟨hx, hby, hown, hret, hlk, X0, e0, N0⟩ := own_bd Bd hh n0
 have pre0 := own_ct s₁ (p := p) (e := e) (below := below) (ef22 m o1 (2 : Int32))
 obtain ⟨T1, h1, X1, e1, E1, A1, D1, -, st1⟩ := newO X0 hx hZ hown (own_w hw 69 rfl) (w_8 hw) (w_9 hw) e0 (g := (mkF m 0 #[.val (.ref o1), .val (.int 2), .unset, .unset] [])) rfl (hb hby d8_0) (by decide) (by decide)
 obtain ⟨b1, g1⟩ : ∃ z, z = h0.size := ⟨_, rfl⟩
 rw [← g1] at A1 D1 st1
 have M1 : h0.size ≤ h1.size := Nat.le_trans (Nat.le_refl _) E1.1
 have O1 := Old.ext O0 E1
 have sz_b1 : h0.size ≤ b1 := Nat.le_of_eq g1.symm
 have g_b1 : n0 ≤ b1 := Nat.le_trans (own_oz O0) (Nat.le_trans (Nat.le_refl _) sz_b1)
 have F1_19 : Fld Z h1 b1 "com/example/driftless/driftless/CodePoints" "bytes" "[B" .null := D1 (Or.inl (w_19 hw)) (ty := (.array .byte)) (by decide)
 have F1_21 : Fld Z h1 b1 "com/example/driftless/driftless/CodePoints" "width" "I" (.int 0) := D1 (Or.inl (w_21 hw)) (ty := .int) (by decide)
 have F1_35 : Fld Z h1 b1 "com/example/driftless/driftless/CodePoints" "length" "I" (.int 0) := D1 (Or.inl (w_35 hw)) (ty := .int) (by decide)
 obtain ⟨_, T2, L2, X2, hQ2, st2⟩ := own_sb X1 hx hZ hown (y := yn1) (own_w hw 70 rfl) (own_w hw 11 rfl) (own_w hw 12 rfl) (w_9 hw) e1 (a := b1) (argsL := []) (rest := [(.ref b1)]) (rm2 l Z a0 hw w1 kw1 G [] b1 h1 n0 O1 g_b1 A1 F1_19 F1_35 F1_21) (g := (mkF m 4 #[.val (.ref o1), .val (.int 2), .unset, .unset] [(.ref b1), (.ref b1)])) rfl (by rw [hml]; rfl) rfl (hb hby d8_4) (lenOf pd1 rfl) (W := 1) (c1 := 1) (s1 := 3)
 obtain ⟨rfl, Nq3, K4, f5, f6, f7, f8⟩ := hQ2
 have N2 := Fr.app N0 Nq3
 have M2 : h0.size ≤ T2.heap.size := Nat.le_trans M1 K4.1
 have O2 := Old.keep O1 K4 (allS g_b1 all0)
 have lt9 : o1 < h0.size := P0.lt
 have ne10 : o1 ≠ b1 := Nat.ne_of_lt (Nat.lt_of_lt_of_le lt9 sz_b1)
 have f11 := ((P1.ext E1).keep K4 (ninS ne10 nin0))
 obtain ⟨T12, X12, e12, st12⟩ := yag X2 hx hZ hown hby (w_18 hw) rfl f11 9 (l296_3 o1 b1) [(.ref b1)] d8_9 d8_10 rfl
 obtain ⟨T13, h13, X13, e13, W13, st13⟩ := putF X12 hx hZ hown (host := "") (Or.inl (w_18 hw)) Via.refl e12 f6 f5 (Or.inl (w_19 hw)) (w_8 hw) (ty := (.array .byte)) (by decide) rfl rfl (g := (mkF m 13 (l296_3 o1 b1) [(.ref o2), (.ref b1)])) rfl rfl (hb hby d8_13)
 have N13 := Fr.snoc X13 N2 g_b1
 have Fw13 := f6.same W13
 have M13 : h0.size ≤ h13.size := Nat.le_trans M2 (Nat.le_of_eq W13.size.symm)
 have O13 := Old.wr O2 W13 g_b1
 have f14 := (((P3.ext E1).keep K4 (ninS ne10 nin0)).other W13 (Or.inl ne10))
 obtain ⟨T15, X15, e15, st15⟩ := yag X13 hx hZ hown hby (w_20 hw) e13 f14 17 (l296_3 o1 b1) [(.ref b1)] d8_17 d8_18 rfl
 have f16 := (f8.other W13 (Or.inr (slot_ne (Or.inl (w_21 hw)) (Or.inl (w_19 hw)) (by decide) (t := .int) (t' := (.array .byte)) (by decide) (by decide))))
 have f17 := (f5.wr W13)
 obtain ⟨T18, h18, X18, e18, W18, st18⟩ := putF X15 hx hZ hown (host := "") (Or.inl (w_20 hw)) Via.refl e15 f16 f17 (Or.inl (w_21 hw)) (w_8 hw) (ty := .int) (by decide) rfl rfl (g := (mkF m 21 (l296_3 o1 b1) [(.int 1), (.ref b1)])) rfl rfl (hb hby d8_21)
 have N18 := Fr.snoc X18 N13 g_b1
 have Fw18 := f16.same W18
 have M18 : h0.size ≤ h18.size := Nat.le_trans M13 (Nat.le_of_eq W18.size.symm)
 have O18 := Old.wr O13 W18 g_b1
 have f19 := ((((P2.ext E1).keep K4 (ninS ne10 nin0)).other W13 (Or.inl ne10)).other W18 (Or.inl ne10))
 obtain ⟨T20, X20, e20, st20⟩ := yag X18 hx hZ hown hby (w_34 hw) e18 f19 25 (l296_3 o1 b1) [(.ref b1)] d8_25 d8_26 rfl
 have f21 := ((f7.other W13 (Or.inr (slot_ne (Or.inl (w_35 hw)) (Or.inl (w_19 hw)) (by decide) (t := .int) (t' := (.array .byte)) (by decide) (by decide)))).other W18 (Or.inr (slot_ne (Or.inl (w_35 hw)) (Or.inl (w_21 hw)) (by decide) (t := .int) (t' := .int) (by decide) (by decide))))
 have f22 := (f17.wr W18)
 obtain ⟨T23, h23, X23, e23, W23, st23⟩ := putF X20 hx hZ hown (host := "") (Or.inl (w_34 hw)) Via.refl e20 f21 f22 (Or.inl (w_35 hw)) (w_8 hw) (ty := .int) (by decide) rfl rfl (g := (mkF m 29 (l296_3 o1 b1) [(.int 2), (.ref b1)])) rfl rfl (hb hby d8_29)
 have N23 := Fr.snoc X23 N18 g_b1
 have M23 : h0.size ≤ h23.size := Nat.le_trans M18 (Nat.le_of_eq W23.size.symm)
 have O23 := Old.wr O18 W23 g_b1
 have f24 := (f19.other W23 (Or.inl ne10))
 obtain ⟨T25, X25, e25, st25⟩ := yag X23 hx hZ hown hby (w_34 hw) e23 f24 33 (l296_3 o1 b1) [(.ref o1)] d8_33 d8_34 rfl
 obtain ⟨T26, h26, k26, X26, e26, E26, A26, EX26, st26⟩ := newPE X25 hx hZ (own_w hw 40 rfl) e25 (g := (mkF m 39 (l296_3 o1 b1) [(.int 4), (.ref o1)])) rfl (hb hby d8_39) rfl (by decide) (cap := 4) (by decide) (by decide) (by decide) (by decide) (ad := "[B") (by decide)
 obtain ⟨b26, g26⟩ : ∃ z, z = h23.size := ⟨_, rfl⟩
 rw [← g26] at A26 EX26 st26
 have O26 := Old.ext O23 E26
 have sz_b26 : h23.size ≤ b26 := Nat.le_of_eq g26.symm
 have g_b26 : n0 ≤ b26 := Nat.le_trans (own_oz O0) (Nat.le_trans M23 sz_b26)
 have V26_0 := Arv.new A26 (by decide)
 have V26 : Arv Z h26 b26 k26 .byte (4 : Int32) [(.int 0), (.int 0), (.int 0), (.int 0)] (.int 0) := V26_0.pad (pad_rep [] (.int 0) 4)
 have f27 := ((((f11.other W13 (Or.inl ne10)).other W18 (Or.inl ne10)).other W23 (Or.inl ne10)).ext E26)
 have f28 := ((((((P0.ext E1).keep K4).wr W13).wr W18).wr W23).ext E26)
 obtain ⟨T29, h29, X29, e29, W29, st29⟩ := putF X26 hx hZ hown (host := "") (Or.inl (w_18 hw)) Via.refl e26 f27 f28 (Or.inl (w_19 hw)) (w_8 hw) (ty := (.array .byte)) (by decide) rfl rfl (g := (mkF m 41 (l296_3 o1 b1) [(.ref b26), (.ref o1)])) rfl rfl (hb hby d8_41)
 have N29 := Fr.snoc X29 N23 g_o1
 have Fw29 := f27.same W29
 have O29 := Old.wr O26 W29 g_o1
 have f30 := ((((f14.other W18 (Or.inl ne10)).other W23 (Or.inl ne10)).ext E26).other W29 (Or.inr (slot_ne (Or.inl (w_21 hw)) (Or.inl (w_19 hw)) (by decide) (t := .int) (t' := (.array .byte)) (by decide) (by decide))))
 have f31 := (f28.wr W29)
 obtain ⟨T32, h32, X32, e32, W32, st32⟩ := putF X29 hx hZ hown (host := "") (Or.inl (w_20 hw)) Via.refl e29 f30 f31 (Or.inl (w_21 hw)) (w_8 hw) (ty := .int) (by decide) rfl rfl (g := (mkF m 46 (l296_3 o1 b1) [(.int 2), (.ref o1)])) rfl rfl (hb hby d8_46)
 have N32 := Fr.snoc X32 N29 g_o1
 have Fw32 := f30.same W32
 have O32 := Old.wr O29 W32 g_o1
 have f33 := (((f24.ext E26).other W29 (Or.inr (slot_ne (Or.inl (w_35 hw)) (Or.inl (w_19 hw)) (by decide) (t := .int) (t' := (.array .byte)) (by decide) (by decide)))).other W32 (Or.inr (slot_ne (Or.inl (w_35 hw)) (Or.inl (w_21 hw)) (by decide) (t := .int) (t' := .int) (by decide) (by decide))))
 obtain ⟨T34, X34, e34, st34⟩ := yag X32 hx hZ hown hby (w_34 hw) e32 f33 52 (l296_0 o1 b1) [(.int 0)] d8_52 d8_53 rfl
 have f35 := (((((Fw13.other W18 (Or.inr (slot_ne (Or.inl (w_19 hw)) (Or.inl (w_21 hw)) (by decide) (t := (.array .byte)) (t' := .int) (by decide) (by decide)))).other W23 (Or.inr (slot_ne (Or.inl (w_19 hw)) (Or.inl (w_35 hw)) (by decide) (t := (.array .byte)) (t' := .int) (by decide) (by decide)))).ext E26).other W29 (Or.inl (Ne.symm ne10))).other W32 (Or.inl (Ne.symm ne10)))
 have f36 := ((((Fw18.other W23 (Or.inr (slot_ne (Or.inl (w_21 hw)) (Or.inl (w_35 hw)) (by decide) (t := .int) (t' := .int) (by decide) (by decide)))).ext E26).other W29 (Or.inl (Ne.symm ne10))).other W32 (Or.inl (Ne.symm ne10)))
 have lt37 : o2 < h0.size := P4.lt
 have ne38 : o2 ≠ b1 := Nat.ne_of_lt (Nat.lt_of_lt_of_le lt37 sz_b1)
 have f39 := ((((((((P5.ext E1).keep K4).wr W13).wr W18).wr W23).ext E26).wr W29).wr W32)
 have f40 := (f31.wr W32)
 have ne41 : o2 ≠ o1 := ne_exa f39 f40 (by decide)
 have f42 := ((((((((P4.ext E1).keep K4 (ninS ne38 nin0)).other W13 ne38).other W18 ne38).other W23 ne38).ext E26).other W29 ne41).other W32 ne41)
 have f43 := ((((f22.wr W23).ext E26).wr W29).wr W32)
 obtain ⟨_, T44, L44, X44, hQ44, st44⟩ := own_vb X34 hx hZ hown (y := yn9) (own_w hw 71 rfl) (own_w hw 59 rfl) (own_w hw 61 rfl) (own_w hw 60 rfl) (own_w hw 62 rfl) (w_9 hw) e34 f43 (argsL := [(.int 0)]) (rest := [(.int 0), (.ref o1)]) (rm20 l Z a0 hw [] b1 o2 kc3 p4 p5 h32 n0 O32 g_b1 g_o2 f35 f36 f42) (g := (mkF m 63 (l296_0 o1 b1) [(.int 0), (.ref b1), (.int 0), (.ref o1)])) rfl (by rw [hml]; rfl) rfl (hb hby d8_63) (lenOf pd2 rfl) (W := 2) (c1 := 2) (s1 := 7)
 obtain ⟨rfl, Nq45, e46⟩ := hQ44
 have N44 := Fr.app N32 Nq45
 have f47 := (Fw29.other W32 (Or.inr (slot_ne (Or.inl (w_19 hw)) (Or.inl (w_21 hw)) (by decide) (t := (.array .byte)) (t' := .int) (by decide) (by decide))))
 have lt48 : o1 < h23.size := (Nat.lt_of_lt_of_le (Nat.lt_of_lt_of_le (Nat.lt_of_lt_of_le (Nat.lt_of_lt_of_le (Nat.lt_of_lt_of_le P0.lt E1.1) K4.1) (Nat.le_of_eq W13.size.symm)) (Nat.le_of_eq W18.size.symm)) (Nat.le_of_eq W23.size.symm))
 have ne49 : o1 ≠ b26 := Nat.ne_of_lt (Nat.lt_of_lt_of_le lt48 sz_b26)
 have f50 := ((V26.other W29 (Ne.symm ne49)).other W32 (Ne.symm ne49))
 have f51 := ((EX26.wr W29).wr W32)
 obtain ⟨_, T52, L52, X52, hQ52, st52⟩ := own_pb X44 hx hZ hown (y := yn6) (w_49 hw) (w_50 hw) (own_selp (mvT hZ (w_25 hw)) rfl (Cond.privateMethod_at (mvP hZ (w_51 hw) (args := #[]))) (mvT hZ (w_50 hw)) (by decide)) (w_51 hw) (own_w hw 52 rfl) (w_9 hw) e46 f40 (argsL := [(.int 0), (.int (p4 &&& (255 : Int32)))]) (rest := []) (rm11 l Z a0 hw [] o1 b26 k26 ((p4 &&& (255 : Int32))) h32 n0 O32 g_o1 g_b26 f40 f47 Fw32 f50 f51) (g := (mkF m 66 (l296_0 o1 b1) [(.int (p4 &&& (255 : Int32))), (.int 0), (.ref o1)])) rfl (by rw [hml]; rfl) rfl (hb hby d8_66) (lenOf pd4 rfl) (W := 0) (c1 := 2) (s1 := 7)
 obtain ⟨rfl, Nq53, K54, f55, f56⟩ := hQ52
 have N52 := Fr.app N44 Nq53
 have O52 := Old.keep O32 K54 (allS g_b26 all0)
 have f57 := (f33.keep K54 (ninS ne49 nin0))
 obtain ⟨T58, X58, e58, st58⟩ := yag X52 hx hZ hown hby (w_34 hw) rfl f57 52 (l296_1 o1 b1) [(.int 1)] d8_52 d8_53 rfl
 have lt59 : b1 < h23.size := (Nat.lt_of_lt_of_le (Nat.lt_of_lt_of_le (Nat.lt_of_lt_of_le (Nat.lt_of_lt_of_le A1.lt K4.1) (Nat.le_of_eq W13.size.symm)) (Nat.le_of_eq W18.size.symm)) (Nat.le_of_eq W23.size.symm))
 have ne60 : b1 ≠ b26 := Nat.ne_of_lt (Nat.lt_of_lt_of_le lt59 sz_b26)
 have f61 := (f35.keep K54 (ninS ne60 nin0))
 have f62 := (f36.keep K54 (ninS ne60 nin0))
 have lt63 : o2 < h23.size := (Nat.lt_of_lt_of_le (Nat.lt_of_lt_of_le (Nat.lt_of_lt_of_le (Nat.lt_of_lt_of_le (Nat.lt_of_lt_of_le P4.lt E1.1) K4.1) (Nat.le_of_eq W13.size.symm)) (Nat.le_of_eq W18.size.symm)) (Nat.le_of_eq W23.size.symm))
 have ne64 : o2 ≠ b26 := Nat.ne_of_lt (Nat.lt_of_lt_of_le lt63 sz_b26)
 have f65 := (f42.keep K54 (ninS ne64 nin0))
 have f66 := (f43.keep K54)
 obtain ⟨_, T67, L67, X67, hQ67, st67⟩ := own_vb X58 hx hZ hown (y := yn9) (own_w hw 71 rfl) (own_w hw 59 rfl) (own_w hw 61 rfl) (own_w hw 60 rfl) (own_w hw 62 rfl) (w_9 hw) e58 f66 (argsL := [(.int 1)]) (rest := [(.int 1), (.ref o1)]) (rm21 l Z a0 hw [] b1 o2 kc3 p4 p5 T52.heap n0 O52 g_b1 g_o2 f61 f62 f65) (g := (mkF m 63 (l296_1 o1 b1) [(.int 1), (.ref b1), (.int 1), (.ref o1)])) rfl (by rw [hml]; rfl) rfl (hb hby d8_63) (lenOf pd2 rfl) (W := 2) (c1 := 2) (s1 := 7)
 obtain ⟨rfl, Nq68, e69⟩ := hQ67
 have N67 := Fr.app N52 Nq68
 have f70 := (f40.keep K54)
 have f71 := (f47.keep K54 (ninS ne49 nin0))
 have f72 := (Fw32.keep K54 (ninS ne49 nin0))
 obtain ⟨_, T73, L73, X73, hQ73, st73⟩ := own_pb X67 hx hZ hown (y := yn6) (w_49 hw) (w_50 hw) (own_selp (mvT hZ (w_25 hw)) rfl (Cond.privateMethod_at (mvP hZ (w_51 hw) (args := #[]))) (mvT hZ (w_50 hw)) (by decide)) (w_51 hw) (own_w hw 52 rfl) (w_9 hw) e69 f70 (argsL := [(.int 1), (.int (p5 &&& (255 : Int32)))]) (rest := []) (rm12 l Z a0 hw [] o1 b26 k26 (((((p4 &&& (255 : Int32)).toUInt32 >>> ((8 : Int32) &&& 31).toUInt32).toInt32).toInt8.toInt32)) (((p4 &&& (255 : Int32)).toInt8.toInt32)) ((p5 &&& (255 : Int32))) T52.heap n0 O52 g_o1 g_b26 f70 f71 f72 f55 f56) (g := (mkF m 66 (l296_1 o1 b1) [(.int (p5 &&& (255 : Int32))), (.int 1), (.ref o1)])) rfl (by rw [hml]; rfl) rfl (hb hby d8_66) (lenOf pd4 rfl) (W := 0) (c1 := 2) (s1 := 7)
 obtain ⟨rfl, Nq74, K75, f76, f77⟩ := hQ73
 have N73 := Fr.app N67 Nq74
 have f78 := (f57.keep K75 (ninS ne49 nin0))
 obtain ⟨T79, X79, e79, st79⟩ := yag X73 hx hZ hown hby (w_34 hw) rfl f78 52 (l296_2 o1 b1) [(.int 2)] d8_52 d8_53 rfl
 obtain ⟨fs, hr, hrun, hended, hW, hsame⟩ := X79.leave (v := none) (fun _ => rfl)
 have KL : Keep h0 T73.heap [o1] := (((((((((((Keep.refl h0 [o1]).ext E1).trans K4 (allS (Or.inr (Nat.le_trans (Nat.le_refl _) sz_b1)) all0)).wr W13 (Or.inr (Nat.le_trans (Nat.le_refl _) sz_b1))).wr W18 (Or.inr (Nat.le_trans (Nat.le_refl _) sz_b1))).wr W23 (Or.inr (Nat.le_trans (Nat.le_refl _) sz_b1))).ext E26).wr W29 (Or.inl (List.mem_of_getElem? (i := 0) rfl))).wr W32 (Or.inl (List.mem_of_getElem? (i := 0) rfl))).trans K54 (allS (Or.inr (Nat.le_trans M23 sz_b26)) all0)).trans K75 (allS (Or.inr (Nat.le_trans M23 sz_b26)) all0))
 have f80 := (f70.keep K75)
 have f81 := (f71.keep K75 (ninS ne49 nin0))
 have f82 := (f72.keep K75 (ninS ne49 nin0))
 refine ⟨_, _, pre0 _ ?_, hrun, hended, _, _, rfl, ?_, ⟨_, rfl⟩, hW, hsame.mono (by decide) (by decide)⟩
 ·
  refine st1 _ ?_
  refine XS.dup X1.here hx rfl (hb hby d8_3) rfl rfl ?_
  refine st2 _ ?_
  refine XS.astoreN X2.here hx rfl (hb hby d8_7) rfl rfl (l' := (l296_3 o1 b1)) rfl ?_
  refine yan X2 hx hby d8_8 rfl rfl ?_
  refine st12 _ ?_
  refine st13 _ ?_
  refine yan X13 hx hby d8_16 rfl rfl ?_
  refine st15 _ ?_
  refine st18 _ ?_
  refine yan X18 hx hby d8_24 rfl rfl ?_
  refine st20 _ ?_
  refine st23 _ ?_
  refine yan X23 hx hby d8_32 rfl rfl ?_
  refine st25 _ ?_
  refine yin X25 hx hby d8_37 rfl ?_
  refine XS.imul X25.here hx rfl (hb hby d8_38) rfl ?_
  refine st26 _ ?_
  refine st29 _ ?_
  refine yan X29 hx hby d8_44 rfl rfl ?_
  refine yin X29 hx hby d8_45 rfl ?_
  refine st32 _ ?_
  refine XS.iconst X32.here hx rfl (hb hby d8_49) ?_
  refine yit X32 hx hby d8_50 (l' := (l296_0 o1 b1)) rfl ?_
  refine yin X32 hx hby d8_51 rfl ?_
  refine st34 _ ?_
  refine yno X34 hx hby d8_56 (tlt (by decide : (0 : Int32) < (2 : Int32))).2.1 ?_
  refine yan X34 hx hby d8_59 rfl rfl ?_
  refine yin X34 hx hby d8_60 rfl ?_
  refine yan X34 hx hby d8_61 rfl rfl ?_
  refine yin X34 hx hby d8_62 rfl ?_
  refine st44 _ ?_
  refine st52 _ ?_
  refine XS.iinc X52.here hx rfl (hb hby d8_69) rfl (l' := (l296_1 o1 b1)) rfl ?_
  refine ygo X52 hx hby 72 51 rfl d8_72 (by decide) ?_
  show Steps p.tables e below (T52.setTop (mkF m 51 (l296_1 o1 b1) [])) _
  refine yin X52 hx hby d8_51 rfl ?_
  refine st58 _ ?_
  refine yno X58 hx hby d8_56 (tlt (by decide : (1 : Int32) < (2 : Int32))).2.1 ?_
  refine yan X58 hx hby d8_59 rfl rfl ?_
  refine yin X58 hx hby d8_60 rfl ?_
  refine yan X58 hx hby d8_61 rfl rfl ?_
  refine yin X58 hx hby d8_62 rfl ?_
  refine st67 _ ?_
  refine st73 _ ?_
  refine XS.iinc X73.here hx rfl (hb hby d8_69) rfl (l' := (l296_2 o1 b1)) rfl ?_
  refine ygo X73 hx hby 72 51 rfl d8_72 (by decide) ?_
  refine yin X73 hx hby d8_51 rfl ?_
  refine st79 _ ?_
  refine yye X79 hx hby 56 75 rfl d8_56 (flt (by decide : ¬ ((2 : Int32) < (2 : Int32)))).2.1 (by decide) ?_
  show Steps p.tables e below (T79.setTop (mkF m 75 (l296_2 o1 b1) [])) _
  exact X79.returnOut hx hret (hb hby d8_75) hr
 ·
  show Q22 Z w1 kw1 o1 o2 kc3 p4 p5 h0 n0 _ T79.heap _
  rw [e79]
  exact ⟨b26, k26, rfl, N73, KL, (Nat.le_trans M23 sz_b26), f80, f81, f78, f82, f76, f77⟩
def l297_0 (o1 b2 : Addr) : Array Slot := #[.val (.ref o1), .val (.int 6), .val (.ref b2)]
theorem ef23 (m : MethodId) (x0 : Addr) (x1 : Int32) : entryFrame m #[(.ref x0), (.int x1)] 3 = mkF m 0 #[.val (.ref x0), .val (.int x1), .unset] [] := by first | (simp [entryFrame, mkF, argsToLocals, Value.category]; done) | rfl
def Q23 (Z : State) (o1 : Addr) (kc2 : ClassId) (p3 p4 : Int32) (p5 p6 : Int32) (h0 : Heap) (n0 : Nat) (v : Option Value) (h : Heap) (L : List Loc) : Prop :=
  (∃ b2 : Addr, ∃ k2 : ClassId, v = some (.ref b2) ∧ Fr n0 L ∧ Keep h0 h [] ∧ h0.size ≤ b2 ∧ (Arv Z h b2 k2 .byte (6 : Int32) [(.int p3), (.int p4), (.int p5), (.int p6), (.int 0), (.int 0)] (.int 0)) ∧ (Exa Z h b2 "[B"))
set_option maxRecDepth 65536 in
set_option maxHeartbeats 40000000 in
theorem rm23 (l : Launch) (Z : State) (a0 : Array Value) (hw : HW a0 Z) (ws : List Jvm.Cond) (o1 : Addr) (kc2 : ClassId) (p3 p4 : Int32) (p5 p6 : Int32) (h0 : Heap) (n0 : Nat) (O0 : Old Z n0 h0) (g_o1 : n0 ≤ o1) (P0 : Arv Z h0 o1 kc2 .byte (4 : Int32) [(.int p3), (.int p4), (.int p5), (.int p6)] (.int 0)) :
    MF l yn5 jdk_65_method_121_code 3 (some (.array .byte)) ws ({ frames := 1, cells := 1, slots := 6, locals := 21 } : Room) #[(.ref o1), (.int 6)] Z h0 (Q23 Z o1 kc2 p3 p4 p5 p6 h0 n0) := by
 refine MetFree.of_bodySF (plainFor_of_name pn2) hisR ?_
 intro p e s m args below meth c s₁ Bd hml hP hK
 obtain ⟨rfl, hZ, hh⟩ := hP
 obtain ⟨hx, hby, hown, hret, hlk, X0, e0, N0⟩ := own_bd Bd hh n0
 have pre0 := own_ct s₁ (p := p) (e := e) (below := below) (ef23 m o1 (6 : Int32))
 revert pre0
 generalize s₁.setTop (entryFrame m #[(.ref o1), (.int 6)] 3) = E0
 intro pre0
 obtain ⟨cl1, Ar1, qa1, Sa1, Na1, Ha1, Ga1⟩ := id (P0)
 obtain ⟨T2, h2, k2, X2, e2, E2, A2, EX2, st2⟩ := newPE X0 hx hZ (own_w hw 40 rfl) e0 (g := (mkF m 15 #[.val (.ref o1), .val (.int 6), .unset] [(.int 6)])) rfl (hb hby d5_15) rfl (by decide) (cap := 6) (by decide) (by decide) (by decide) (by decide) (ad := "[B") (by decide)
 obtain ⟨b2, g2⟩ : ∃ z, z = h0.size := ⟨_, rfl⟩
 rw [← g2] at A2 EX2 st2
 have O2 := Old.ext O0 E2
 have sz_b2 : h0.size ≤ b2 := Nat.le_of_eq g2.symm
 have g_b2 : n0 ≤ b2 := Nat.le_trans (own_oz O0) (Nat.le_trans (Nat.le_refl _) sz_b2)
 have V2_0 := Arv.new A2 (by decide)
 have V2 : Arv Z h2 b2 k2 .byte (6 : Int32) [(.int 0), (.int 0), (.int 0), (.int 0), (.int 0), (.int 0)] (.int 0) := V2_0.pad (pad_rep [] (.int 0) 6)
 have f3 := (P0.ext E2)
 obtain ⟨cl4, Ar4, qa4, Sa4, Na4, Ha4, Ga4⟩ := id (f3)
 obtain ⟨_, T5, L5, X5, hQ5, st5⟩ := own_cs X2 hx hZ hown (y := yn4) (own_w hw 41 rfl) (own_w hw 42 rfl) (own_w hw 43 rfl) (w_32 hw) e2 (argsL := [(.int 4), (.int 6)]) (rest := [(.int 0), (.ref b2), (.int 0), (.ref o1)]) (rm5 l Z a0 hw [] ((4 : Int32)) ((6 : Int32)) h2 n0 O2 ) (g := (mkF m 25 (l297_0 o1 b2) [(.int 6), (.int 4), (.int 0), (.ref b2), (.int 0), (.ref o1)])) rfl (by rw [hml]; rfl) rfl (hb hby d5_25) (lenOf pd0 rfl) (W := 4) (c1 := 1) (s1 := 6)
 have pre6 : Go p e below T2 (mkF m 25 (l297_0 o1 b2) [(.int 6), (.int 4), (.int 0), (.ref b2), (.int 0), (.ref o1)]) E0 := fun t k => by
  refine pre0 _ ?_
  refine yin X0 hx hby d5_0 rfl ?_
  refine yan X0 hx hby d5_1 rfl rfl ?_
  refine X0.arraylength hx (by rw [e0]; exact Ar1.1) (State.isArrayOf_alike hZ.alike Ar1.2.1) (g := (mkF m 2 #[.val (.ref o1), .val (.int 6), .unset] [(.ref o1), (.int 6)])) rfl rfl (hb hby d5_2) _ ?_
  rw [len_of Sa1 Na1]
  refine yye X0 hx hby 3 14 rfl d5_3 (feq (by decide : ¬ ((6 : Int32) = (4 : Int32)))).2 (by decide) ?_
  refine yin X0 hx hby d5_14 rfl ?_
  refine st2 _ ?_
  refine XS.astoreN X2.here hx rfl (hb hby d5_17) rfl rfl (l' := (l297_0 o1 b2)) rfl ?_
  refine yan X2 hx hby d5_18 rfl rfl ?_
  refine XS.iconst X2.here hx rfl (hb hby d5_19) ?_
  refine yan X2 hx hby d5_20 rfl rfl ?_
  refine XS.iconst X2.here hx rfl (hb hby d5_21) ?_
  refine yan X2 hx hby d5_22 rfl rfl ?_
  refine X2.arraylength hx (by rw [e2]; exact Ar4.1) (State.isArrayOf_alike hZ.alike Ar4.2.1) (g := (mkF m 23 (l297_0 o1 b2) [(.ref o1), (.int 0), (.ref b2), (.int 0), (.ref o1)])) rfl rfl (hb hby d5_23) _ ?_
  rw [len_of Sa4 Na4]
  refine yin X2 hx hby d5_24 rfl ?_
  exact k
 rcases hQ5 with ⟨hc7, rfl, Nq8, e9⟩ | ⟨hc10, rfl, Nq11, e12⟩
 ·
  exact absurd hc7 (by decide : ¬ ((6 : Int32) < (4 : Int32)))
 ·
  have N5 := Fr.app N0 Nq11
  obtain ⟨T13, h13, L13, X13, e13, N13, K13, VV13, st13⟩ := cpA X5 hx hZ hown (own_w hw 44 rfl) (w_47 hw) (w_45 hw) (w_46 hw) e12 (us := [(.int p3), (.int p4), (.int p5), (.int p6)]) f3 V2 (Or.inl ⟨rfl, rfl⟩) (by decide) (by decide) (by decide) (by decide) (by decide) rfl (by first | decide | exact (by decide : 0 + 4 ≤ 6)) N5 g_b2 (g := (mkF m 28 (l297_0 o1 b2) [(.int 4), (.int 0), (.ref b2), (.int 0), (.ref o1)])) rfl (by rw [hml]; rfl) rfl (hb hby d5_28) (by decide) (W := 0) (by show 2 * 0 + _ ≤ _; exact Nat.le_of_eq rfl) (by decide)
  have V13 : Arv Z h13 b2 k2 .byte (6 : Int32) [(.int p3), (.int p4), (.int p5), (.int p6), (.int 0), (.int 0)] (.int 0) := VV13
  obtain ⟨fs, hr, hrun, hended, hW, hsame⟩ := X13.leave (v := some (.ref b2)) (fun h => by rw [hret] at h; cases h)
  have KL : Keep h0 h13 [] := (((Keep.refl h0 []).ext E2).trans K13 (allS (Or.inr (Nat.le_trans (Nat.le_refl _) sz_b2)) all0))
  have f14 := (EX2.keep K13)
  refine ⟨_, _, pre6 _ ?_, hrun, hended, _, _, rfl, ?_, ⟨_, rfl⟩, hW, hsame.mono (by decide) (by decide)⟩
  ·
   refine st5 _ ?_
   refine st13 _ ?_
   refine yan X13 hx hby d5_31 rfl rfl ?_
   show Steps p.tables e below (T13.setTop (mkF m 32 (l297_0 o1 b2) [(.ref b2)])) _
   exact retOut X13 hx hret rfl (Or.inr (Or.inr (Or.inr (Or.inr ⟨rfl, rfl, rfl⟩)))) (hb hby d5_32) hr
  ·
   show Q23 Z o1 kc2 p3 p4 p5 p6 h0 n0 _ T13.heap _
   rw [e13]
   exact ⟨b2, k2, rfl, N13, KL, (Nat.le_trans (Nat.le_refl _) sz_b2), V13, f14⟩
def l298_0 (o1 : Addr) (p2 : Int32) : Array Slot := #[.val (.ref o1), .val (.int 0), .val (.int ((((p2.toUInt32 >>> ((8 : Int32) &&& 31).toUInt32).toInt32).toUInt32 >>> ((8 : Int32) &&& 31).toUInt32).toInt32)), .val (.int 0), .val (.int (-1))]
def l298_1 (o1 : Addr) (p2 : Int32) : Array Slot := #[.val (.ref o1), .val (.int 0), .val (.int ((((p2.toUInt32 >>> ((8 : Int32) &&& 31).toUInt32).toInt32).toUInt32 >>> ((8 : Int32) &&& 31).toUInt32).toInt32)), .val (.int 0), .val (.int 0)]
def l298_2 (o1 : Addr) (p2 : Int32) : Array Slot := #[.val (.ref o1), .val (.int 0), .val (.int ((p2.toUInt32 >>> ((8 : Int32) &&& 31).toUInt32).toInt32)), .val (.int 0), .val (.int 0)]
def l298_3 (o1 : Addr) (p2 : Int32) : Array Slot := #[.val (.ref o1), .val (.int 0), .val (.int p2), .val (.int 0), .val (.int 1)]
theorem ef24 (m : MethodId) (x0 : Addr) (x1 x2 : Int32) : entryFrame m #[(.ref x0), (.int x1), (.int x2)] 5 = mkF m 0 #[.val (.ref x0), .val (.int x1), .val (.int x2), .unset, .unset] [] := by first | (simp [entryFrame, mkF, argsToLocals, Value.category]; done) | rfl
def Q24 (Z : State) (o1 o3 : Addr) (kc4 : ClassId) (p5 p6 : Int32) (p7 p8 : Int32) (p9 p10 p2 : Int32) (h0 : Heap) (n0 : Nat) (v : Option Value) (h : Heap) (L : List Loc) : Prop :=
  (v = none ∧ Fr n0 L ∧ Keep h0 h [o3] ∧ (Arv Z h o3 kc4 .byte (6 : Int32) [(.int (((p2.toUInt32 >>> ((8 : Int32) &&& 31).toUInt32).toInt32).toInt8.toInt32)), (.int (p2.toInt8.toInt32)), (.int p7), (.int p8), (.int p9), (.int p10)] (.int 0)) ∧ (Exa Z h o3 "[B"))
set_option maxRecDepth 65536 in
set_option maxHeartbeats 40000000 in
theorem rm24 (l : Launch) (Z : State) (a0 : Array Value) (hw : HW a0 Z) (ws : List Jvm.Cond) (o1 o3 : Addr) (kc4 : ClassId) (p5 p6 : Int32) (p7 p8 : Int32) (p9 p10 p2 : Int32) (h0 : Heap) (n0 : Nat) (O0 : Old Z n0 h0) (g_o1 : n0 ≤ o1) (g_o3 : n0 ≤ o3) (P0 : Exa Z h0 o1 "com/example/driftless/driftless/CodePoints") (P1 : Fld Z h0 o1 "com/example/driftless/driftless/CodePoints" "bytes" "[B" (.ref o3)) (P3 : Fld Z h0 o1 "com/example/driftless/driftless/CodePoints" "width" "I" (.int 2)) (P4 : Arv Z h0 o3 kc4 .byte (6 : Int32) [(.int p5), (.int p6), (.int p7), (.int p8), (.int p9), (.int p10)] (.int 0)) (P5 : Exa Z h0 o3 "[B") :
    MF l yn6 prog_6_method_9_code 5 none ws ({ frames := 0, cells := 0, slots := 0, locals := 0 } : Room) #[(.ref o1), (.int 0), (.int p2)] Z h0 (Q24 Z o1 o3 kc4 p5 p6 p7 p8 p9 p10 p2 h0 n0) := by
 refine MetFree.of_bodySF (plainFor_of_name pn1) hisR ?_
 intro p e s m args below meth c s₁ Bd hml hP hK
 obtain ⟨rfl, hZ, hh⟩ := hP
 obtain ⟨hx, hby, hown, hret, hlk, X0, e0, N0⟩ := own_bd Bd hh n0
 have pre0 := own_ct s₁ (p := p) (e := e) (below := below) (ef24 m o1 (0 : Int32) p2)
 obtain ⟨T1, X1, e1, st1⟩ := yag X0 hx hZ hown hby (w_20 hw) e0 P3 1 #[.val (.ref o1), .val (.int 0), .val (.int p2), .unset, .unset] [(.int 0)] d7_1 d7_2 rfl
 obtain ⟨T2, X2, e2, st2⟩ := yag X1 hx hZ hown hby (w_20 hw) e1 P3 7 #[.val (.ref o1), .val (.int 0), .val (.int p2), .val (.int 0), .unset] [] d7_7 d7_8 rfl
 obtain ⟨T3, X3, e3, st3⟩ := yag X2 hx hZ hown hby (w_18 hw) e2 P1 20 (l298_3 o1 p2) [] d7_20 d7_21 rfl
 obtain ⟨cl4, Ar4, qa4, Sa4, Na4, Ha4, Ga4⟩ := id (P4)
 have hin4 := inb_of (j := (1 : Int32)) Sa4 ⟨by decide, by decide⟩
 obtain ⟨T5, h5, X5, e5, W5, st5⟩ := stB X3 hx hZ e3 Ar4 (j := (1 : Int32)) hin4 (g := (mkF m 30 (l298_3 o1 p2) [(.int (p2.toInt8.toInt32)), (.int 1), (.ref o3)])) rfl rfl (hb hby d7_30)
 rw [own_nb8] at W5
 have V5 : Arv Z h5 o3 kc4 .byte (6 : Int32) [(.int p5), (.int (p2.toInt8.toInt32)), (.int p7), (.int p8), (.int p9), (.int p10)] (.int 0) := Arv.set Ar4 qa4 Sa4 Na4 Ha4 Ga4 (fits_nar_byte _) W5 1 rfl (Nat.le_of_ble_eq_true rfl)
 have N5 := Fr.snoc X5 N0 g_o3
 have f6 := (P0.wr W5)
 have f7 := (P5.wr W5)
 have ne8 : o1 ≠ o3 := ne_exa f6 f7 (by decide)
 have f9 := (P1.other W5 (Or.inl ne8))
 obtain ⟨T10, X10, e10, st10⟩ := yag X5 hx hZ hown hby (w_18 hw) e5 f9 20 (l298_2 o1 p2) [] d7_20 d7_21 rfl
 obtain ⟨cl11, Ar11, qa11, Sa11, Na11, Ha11, Ga11⟩ := id (V5)
 have hin11 := inb_of (j := (0 : Int32)) Sa11 ⟨by decide, by decide⟩
 obtain ⟨T12, h12, X12, e12, W12, st12⟩ := stB X10 hx hZ e10 Ar11 (j := (0 : Int32)) hin11 (g := (mkF m 30 (l298_2 o1 p2) [(.int (((p2.toUInt32 >>> ((8 : Int32) &&& 31).toUInt32).toInt32).toInt8.toInt32)), (.int 0), (.ref o3)])) rfl rfl (hb hby d7_30)
 rw [own_nb8] at W12
 have V12 : Arv Z h12 o3 kc4 .byte (6 : Int32) [(.int (((p2.toUInt32 >>> ((8 : Int32) &&& 31).toUInt32).toInt32).toInt8.toInt32)), (.int (p2.toInt8.toInt32)), (.int p7), (.int p8), (.int p9), (.int p10)] (.int 0) := Arv.set Ar11 qa11 Sa11 Na11 Ha11 Ga11 (fits_nar_byte _) W12 0 rfl (Nat.le_of_ble_eq_true rfl)
 have N12 := Fr.snoc X12 N5 g_o3
 obtain ⟨fs, hr, hrun, hended, hW, hsame⟩ := X12.leave (v := none) (fun _ => rfl)
 have KL : Keep h0 h12 [o3] := (((Keep.refl h0 [o3]).wr W5 (Or.inl (List.mem_of_getElem? (i := 0) rfl))).wr W12 (Or.inl (List.mem_of_getElem? (i := 0) rfl)))
 have f13 := (f7.wr W12)
 refine ⟨_, _, pre0 _ ?_, hrun, hended, _, _, rfl, ?_, ⟨_, rfl⟩, hW, hsame.mono (by decide) (by decide)⟩
 ·
  refine yin X0 hx hby d7_0 rfl ?_
  refine st1 _ ?_
  refine XS.imul X1.here hx rfl (hb hby d7_5) rfl ?_
  refine yit X1 hx hby d7_6 (l' := #[.val (.ref o1), .val (.int 0), .val (.int p2), .val (.int 0), .unset]) rfl ?_
  refine st2 _ ?_
  refine XS.iconst X2.here hx rfl (hb hby d7_11) ?_
  refine ysu X2 hx hby d7_12 ?_
  refine yis X2 hx hby d7_13 (l' := (l298_3 o1 p2)) rfl ?_
  refine yil X2 hx hby d7_15 rfl ?_
  refine XS.ifNo X2.here hx rfl (hb hby d7_17) rfl ((if0 _ _).trans (flt (by decide : ¬ ((1 : Int32) < (0 : Int32)))).1) ?_
  refine st3 _ ?_
  refine yin X3 hx hby d7_24 rfl ?_
  refine yil X3 hx hby d7_25 rfl ?_
  refine yad X3 hx hby d7_27 ?_
  refine yin X3 hx hby d7_28 rfl ?_
  refine XS.i2b X3.here hx rfl (hb hby d7_29) rfl ?_
  refine st5 _ ?_
  refine yin X5 hx hby d7_31 rfl ?_
  refine XS.bipush X5.here hx rfl (hb hby d7_32) ?_
  refine XS.iushr X5.here hx rfl (hb hby d7_34) rfl ?_
  refine yit X5 hx hby d7_35 (l' := #[.val (.ref o1), .val (.int 0), .val (.int ((p2.toUInt32 >>> ((8 : Int32) &&& 31).toUInt32).toInt32)), .val (.int 0), .val (.int 1)]) rfl ?_
  refine XS.iinc X5.here hx rfl (hb hby d7_36) rfl (l' := (l298_2 o1 p2)) rfl ?_
  refine ygo X5 hx hby 39 15 rfl d7_39 (by decide) ?_
  refine yil X5 hx hby d7_15 rfl ?_
  refine XS.ifNo X5.here hx rfl (hb hby d7_17) rfl ((if0 _ _).trans (flt (by decide : ¬ ((0 : Int32) < (0 : Int32)))).1) ?_
  refine st10 _ ?_
  refine yin X10 hx hby d7_24 rfl ?_
  refine yil X10 hx hby d7_25 rfl ?_
  refine yad X10 hx hby d7_27 ?_
  refine yin X10 hx hby d7_28 rfl ?_
  refine XS.i2b X10.here hx rfl (hb hby d7_29) rfl ?_
  refine st12 _ ?_
  refine yin X12 hx hby d7_31 rfl ?_
  refine XS.bipush X12.here hx rfl (hb hby d7_32) ?_
  refine XS.iushr X12.here hx rfl (hb hby d7_34) rfl ?_
  refine yit X12 hx hby d7_35 (l' := (l298_1 o1 p2)) rfl ?_
  show Steps p.tables e below (T12.setTop (mkF m 36 (l298_1 o1 p2) [])) _
  refine XS.iinc X12.here hx rfl (hb hby d7_36) rfl (l' := (l298_0 o1 p2)) rfl ?_
  refine ygo X12 hx hby 39 15 rfl d7_39 (by decide) ?_
  refine yil X12 hx hby d7_15 rfl ?_
  refine XS.ifYes X12.here hx rfl (pc0 := 17) (pc' := 42) rfl (hb hby d7_17) rfl ((if0 _ _).trans (tlt (by decide : (-1 : Int32) < (0 : Int32))).1) (by decide) (by decide) ?_
  show Steps p.tables e below (T12.setTop (mkF m 42 (l298_0 o1 p2) [])) _
  exact X12.returnOut hx hret (hb hby d7_42) hr
 ·
  show Q24 Z o1 o3 kc4 p5 p6 p7 p8 p9 p10 p2 h0 n0 _ T12.heap _
  rw [e12]
  exact ⟨rfl, N12, KL, V12, f13⟩
def l299_0 (o1 b1 : Addr) : Array Slot := #[.val (.ref o1), .val (.int 3), .val (.ref b1), .val (.int 0)]
def l299_1 (o1 b1 : Addr) : Array Slot := #[.val (.ref o1), .val (.int 3), .val (.ref b1), .val (.int 1)]
def l299_2 (o1 b1 : Addr) : Array Slot := #[.val (.ref o1), .val (.int 3), .val (.ref b1), .val (.int 2)]
def l299_3 (o1 b1 : Addr) : Array Slot := #[.val (.ref o1), .val (.int 3), .val (.ref b1), .unset]
theorem ef25 (m : MethodId) (x0 : Addr) (x1 : Int32) : entryFrame m #[(.ref x0), (.int x1)] 4 = mkF m 0 #[.val (.ref x0), .val (.int x1), .unset, .unset] [] := by first | (simp [entryFrame, mkF, argsToLocals, Value.category]; done) | rfl
def Q25 (Z : State) (w1 : Addr) (kw1 : ClassId) (o1 o2 : Addr) (kc3 : ClassId) (p4 p5 : Int32) (h0 : Heap) (n0 : Nat) (v : Option Value) (h : Heap) (L : List Loc) : Prop :=
  (∃ b26 : Addr, ∃ k26 : ClassId, v = none ∧ Fr n0 L ∧ Keep h0 h [o1] ∧ h0.size ≤ b26 ∧ (Exa Z h o1 "com/example/driftless/driftless/CodePoints") ∧ (Fld Z h o1 "com/example/driftless/driftless/CodePoints" "bytes" "[B" (.ref b26)) ∧ (Fld Z h o1 "com/example/driftless/driftless/CodePoints" "length" "I" (.int 2)) ∧ (Fld Z h o1 "com/example/driftless/driftless/CodePoints" "width" "I" (.int 3)) ∧ (Arv Z h b26 k26 .byte (6 : Int32) [(.int ((((((p4 &&& (255 : Int32)).toUInt32 >>> ((8 : Int32) &&& 31).toUInt32).toInt32).toUInt32 >>> ((8 : Int32) &&& 31).toUInt32).toInt32).toInt8.toInt32)), (.int ((((p4 &&& (255 : Int32)).toUInt32 >>> ((8 : Int32) &&& 31).toUInt32).toInt32).toInt8.toInt32)), (.int ((p4 &&& (255 : Int32)).toInt8.toInt32)), (.int ((((((p5 &&& (255 : Int32)).toUInt32 >>> ((8 : Int32) &&& 31).toUInt32).toInt32).toUInt32 >>> ((8 : Int32) &&& 31).toUInt32).toInt32).toInt8.toInt32)), (.int ((((p5 &&& (255 : Int32)).toUInt32 >>> ((8 : Int32) &&& 31).toUInt32).toInt32).toInt8.toInt32)), (.int ((p5 &&& (255 : Int32)).toInt8.toInt32))] (.int 0)) ∧ (Exa Z h b26 "[B"))
set_option maxRecDepth 65536 in
set_option maxHeartbeats 40000000 in
theorem rm25 (l : Launch) (Z : State) (a0 : Array Value) (hw : HW a0 Z) (w1 : Addr) (kw1 : ClassId) (G : GW Z w1 kw1) (ws : List Jvm.Cond) (o1 o2 : Addr) (kc3 : ClassId) (p4 p5 : Int32) (h0 : Heap) (n0 : Nat) (O0 : Old Z n0 h0) (g_o1 : n0 ≤ o1) (g_o2 : n0 ≤ o2) (P0 : Exa Z h0 o1 "com/example/driftless/driftless/CodePoints") (P1 : Fld Z h0 o1 "com/example/driftless/driftless/CodePoints" "bytes" "[B" (.ref o2)) (P2 : Fld Z h0 o1 "com/example/driftless/driftless/CodePoints" "length" "I" (.int 2)) (P3 : Fld Z h0 o1 "com/example/driftless/driftless/CodePoints" "width" "I" (.int 1)) (P4 : Arv Z h0 o2 kc3 .byte (2 : Int32) [(.int p4), (.int p5)] (.int 0)) (P5 : Exa Z h0 o2 "[B") :
    MF l yn7 prog_6_method_10_code 4 none ws ({ frames := 2, cells := 2, slots := 9, locals := 25 } : Room) #[(.ref o1), (.int 3)] Z h0 (Q25 Z w1 kw1 o1 o2 kc3 p4 p5 h0 n0) := by
 obtain ⟨S_w1, E_w1, A_w1⟩ := id G
 refine MetFree.of_bodySF (plainFor_of_name pn1) hisR ?_
 intro p e s m args below meth c s₁ Bd hml hP hK
 obtain ⟨rfl, hZ, hh⟩ := hP
 obtain ⟨hx, hby, hown, hret, hlk, X0, e0, N0⟩ := own_bd Bd hh n0
 have pre0 := own_ct s₁ (p := p) (e := e) (below := below) (ef25 m o1 (3 : Int32))
 obtain ⟨T1, h1, X1, e1, E1, A1, D1, -, st1⟩ := newO X0 hx hZ hown (own_w hw 69 rfl) (w_8 hw) (w_9 hw) e0 (g := (mkF m 0 #[.val (.ref o1), .val (.int 3), .unset, .unset] [])) rfl (hb hby d8_0) (by decide) (by decide)
 obtain ⟨b1, g1⟩ : ∃ z, z = h0.size := ⟨_, rfl⟩
 rw [← g1] at A1 D1 st1
 have M1 : h0.size ≤ h1.size := Nat.le_trans (Nat.le_refl _) E1.1
 have O1 := Old.ext O0 E1
 have sz_b1 : h0.size ≤ b1 := Nat.le_of_eq g1.symm
 have g_b1 : n0 ≤ b1 := Nat.le_trans (own_oz O0) (Nat.le_trans (Nat.le_refl _) sz_b1)
 have F1_19 : Fld Z h1 b1 "com/example/driftless/driftless/CodePoints" "bytes" "[B" .null := D1 (Or.inl (w_19 hw)) (ty := (.array .byte)) (by decide)
 have F1_21 : Fld Z h1 b1 "com/example/driftless/driftless/CodePoints" "width" "I" (.int 0) := D1 (Or.inl (w_21 hw)) (ty := .int) (by decide)
 have F1_35 : Fld Z h1 b1 "com/example/driftless/driftless/CodePoints" "length" "I" (.int 0) := D1 (Or.inl (w_35 hw)) (ty := .int) (by decide)
 obtain ⟨_, T2, L2, X2, hQ2, st2⟩ := own_sb X1 hx hZ hown (y := yn1) (own_w hw 70 rfl) (own_w hw 11 rfl) (own_w hw 12 rfl) (w_9 hw) e1 (a := b1) (argsL := []) (rest := [(.ref b1)]) (rm2 l Z a0 hw w1 kw1 G [] b1 h1 n0 O1 g_b1 A1 F1_19 F1_35 F1_21) (g := (mkF m 4 #[.val (.ref o1), .val (.int 3), .unset, .unset] [(.ref b1), (.ref b1)])) rfl (by rw [hml]; rfl) rfl (hb hby d8_4) (lenOf pd1 rfl) (W := 1) (c1 := 1) (s1 := 3)
 obtain ⟨rfl, Nq3, K4, f5, f6, f7, f8⟩ := hQ2
 have N2 := Fr.app N0 Nq3
 have M2 : h0.size ≤ T2.heap.size := Nat.le_trans M1 K4.1
 have O2 := Old.keep O1 K4 (allS g_b1 all0)
 have lt9 : o1 < h0.size := P0.lt
 have ne10 : o1 ≠ b1 := Nat.ne_of_lt (Nat.lt_of_lt_of_le lt9 sz_b1)
 have f11 := ((P1.ext E1).keep K4 (ninS ne10 nin0))
 obtain ⟨T12, X12, e12, st12⟩ := yag X2 hx hZ hown hby (w_18 hw) rfl f11 9 (l299_3 o1 b1) [(.ref b1)] d8_9 d8_10 rfl
 obtain ⟨T13, h13, X13, e13, W13, st13⟩ := putF X12 hx hZ hown (host := "") (Or.inl (w_18 hw)) Via.refl e12 f6 f5 (Or.inl (w_19 hw)) (w_8 hw) (ty := (.array .byte)) (by decide) rfl rfl (g := (mkF m 13 (l299_3 o1 b1) [(.ref o2), (.ref b1)])) rfl rfl (hb hby d8_13)
 have N13 := Fr.snoc X13 N2 g_b1
 have Fw13 := f6.same W13
 have M13 : h0.size ≤ h13.size := Nat.le_trans M2 (Nat.le_of_eq W13.size.symm)
 have O13 := Old.wr O2 W13 g_b1
 have f14 := (((P3.ext E1).keep K4 (ninS ne10 nin0)).other W13 (Or.inl ne10))
 obtain ⟨T15, X15, e15, st15⟩ := yag X13 hx hZ hown hby (w_20 hw) e13 f14 17 (l299_3 o1 b1) [(.ref b1)] d8_17 d8_18 rfl
 have f16 := (f8.other W13 (Or.inr (slot_ne (Or.inl (w_21 hw)) (Or.inl (w_19 hw)) (by decide) (t := .int) (t' := (.array .byte)) (by decide) (by decide))))
 have f17 := (f5.wr W13)
 obtain ⟨T18, h18, X18, e18, W18, st18⟩ := putF X15 hx hZ hown (host := "") (Or.inl (w_20 hw)) Via.refl e15 f16 f17 (Or.inl (w_21 hw)) (w_8 hw) (ty := .int) (by decide) rfl rfl (g := (mkF m 21 (l299_3 o1 b1) [(.int 1), (.ref b1)])) rfl rfl (hb hby d8_21)
 have N18 := Fr.snoc X18 N13 g_b1
 have Fw18 := f16.same W18
 have M18 : h0.size ≤ h18.size := Nat.le_trans M13 (Nat.le_of_eq W18.size.symm)
 have O18 := Old.wr O13 W18 g_b1
 have f19 := ((((P2.ext E1).keep K4 (ninS ne10 nin0)).other W13 (Or.inl ne10)).other W18 (Or.inl ne10))
 obtain ⟨T20, X20, e20, st20⟩ := yag X18 hx hZ hown hby (w_34 hw) e18 f19 25 (l299_3 o1 b1) [(.ref b1)] d8_25 d8_26 rfl
 have f21 := ((f7.other W13 (Or.inr (slot_ne (Or.inl (w_35 hw)) (Or.inl (w_19 hw)) (by decide) (t := .int) (t' := (.array .byte)) (by decide) (by decide)))).other W18 (Or.inr (slot_ne (Or.inl (w_35 hw)) (Or.inl (w_21 hw)) (by decide) (t := .int) (t' := .int) (by decide) (by decide))))
 have f22 := (f17.wr W18)
 obtain ⟨T23, h23, X23, e23, W23, st23⟩ := putF X20 hx hZ hown (host := "") (Or.inl (w_34 hw)) Via.refl e20 f21 f22 (Or.inl (w_35 hw)) (w_8 hw) (ty := .int) (by decide) rfl rfl (g := (mkF m 29 (l299_3 o1 b1) [(.int 2), (.ref b1)])) rfl rfl (hb hby d8_29)
 have N23 := Fr.snoc X23 N18 g_b1
 have M23 : h0.size ≤ h23.size := Nat.le_trans M18 (Nat.le_of_eq W23.size.symm)
 have O23 := Old.wr O18 W23 g_b1
 have f24 := (f19.other W23 (Or.inl ne10))
 obtain ⟨T25, X25, e25, st25⟩ := yag X23 hx hZ hown hby (w_34 hw) e23 f24 33 (l299_3 o1 b1) [(.ref o1)] d8_33 d8_34 rfl
 obtain ⟨T26, h26, k26, X26, e26, E26, A26, EX26, st26⟩ := newPE X25 hx hZ (own_w hw 40 rfl) e25 (g := (mkF m 39 (l299_3 o1 b1) [(.int 6), (.ref o1)])) rfl (hb hby d8_39) rfl (by decide) (cap := 6) (by decide) (by decide) (by decide) (by decide) (ad := "[B") (by decide)
 obtain ⟨b26, g26⟩ : ∃ z, z = h23.size := ⟨_, rfl⟩
 rw [← g26] at A26 EX26 st26
 have O26 := Old.ext O23 E26
 have sz_b26 : h23.size ≤ b26 := Nat.le_of_eq g26.symm
 have g_b26 : n0 ≤ b26 := Nat.le_trans (own_oz O0) (Nat.le_trans M23 sz_b26)
 have V26_0 := Arv.new A26 (by decide)
 have V26 : Arv Z h26 b26 k26 .byte (6 : Int32) [(.int 0), (.int 0), (.int 0), (.int 0), (.int 0), (.int 0)] (.int 0) := V26_0.pad (pad_rep [] (.int 0) 6)
 have f27 := ((((f11.other W13 (Or.inl ne10)).other W18 (Or.inl ne10)).other W23 (Or.inl ne10)).ext E26)
 have f28 := ((((((P0.ext E1).keep K4).wr W13).wr W18).wr W23).ext E26)
 obtain ⟨T29, h29, X29, e29, W29, st29⟩ := putF X26 hx hZ hown (host := "") (Or.inl (w_18 hw)) Via.refl e26 f27 f28 (Or.inl (w_19 hw)) (w_8 hw) (ty := (.array .byte)) (by decide) rfl rfl (g := (mkF m 41 (l299_3 o1 b1) [(.ref b26), (.ref o1)])) rfl rfl (hb hby d8_41)
 have N29 := Fr.snoc X29 N23 g_o1
 have Fw29 := f27.same W29
 have O29 := Old.wr O26 W29 g_o1
 have f30 := ((((f14.other W18 (Or.inl ne10)).other W23 (Or.inl ne10)).ext E26).other W29 (Or.inr (slot_ne (Or.inl (w_21 hw)) (Or.inl (w_19 hw)) (by decide) (t := .int) (t' := (.array .byte)) (by decide) (by decide))))
 have f31 := (f28.wr W29)
 obtain ⟨T32, h32, X32, e32, W32, st32⟩ := putF X29 hx hZ hown (host := "") (Or.inl (w_20 hw)) Via.refl e29 f30 f31 (Or.inl (w_21 hw)) (w_8 hw) (ty := .int) (by decide) rfl rfl (g := (mkF m 46 (l299_3 o1 b1) [(.int 3), (.ref o1)])) rfl rfl (hb hby d8_46)
 have N32 := Fr.snoc X32 N29 g_o1
 have Fw32 := f30.same W32
 have O32 := Old.wr O29 W32 g_o1
 have f33 := (((f24.ext E26).other W29 (Or.inr (slot_ne (Or.inl (w_35 hw)) (Or.inl (w_19 hw)) (by decide) (t := .int) (t' := (.array .byte)) (by decide) (by decide)))).other W32 (Or.inr (slot_ne (Or.inl (w_35 hw)) (Or.inl (w_21 hw)) (by decide) (t := .int) (t' := .int) (by decide) (by decide))))
 obtain ⟨T34, X34, e34, st34⟩ := yag X32 hx hZ hown hby (w_34 hw) e32 f33 52 (l299_0 o1 b1) [(.int 0)] d8_52 d8_53 rfl
 have f35 := (((((Fw13.other W18 (Or.inr (slot_ne (Or.inl (w_19 hw)) (Or.inl (w_21 hw)) (by decide) (t := (.array .byte)) (t' := .int) (by decide) (by decide)))).other W23 (Or.inr (slot_ne (Or.inl (w_19 hw)) (Or.inl (w_35 hw)) (by decide) (t := (.array .byte)) (t' := .int) (by decide) (by decide)))).ext E26).other W29 (Or.inl (Ne.symm ne10))).other W32 (Or.inl (Ne.symm ne10)))
 have f36 := ((((Fw18.other W23 (Or.inr (slot_ne (Or.inl (w_21 hw)) (Or.inl (w_35 hw)) (by decide) (t := .int) (t' := .int) (by decide) (by decide)))).ext E26).other W29 (Or.inl (Ne.symm ne10))).other W32 (Or.inl (Ne.symm ne10)))
 have lt37 : o2 < h0.size := P4.lt
 have ne38 : o2 ≠ b1 := Nat.ne_of_lt (Nat.lt_of_lt_of_le lt37 sz_b1)
 have f39 := ((((((((P5.ext E1).keep K4).wr W13).wr W18).wr W23).ext E26).wr W29).wr W32)
 have f40 := (f31.wr W32)
 have ne41 : o2 ≠ o1 := ne_exa f39 f40 (by decide)
 have f42 := ((((((((P4.ext E1).keep K4 (ninS ne38 nin0)).other W13 ne38).other W18 ne38).other W23 ne38).ext E26).other W29 ne41).other W32 ne41)
 have f43 := ((((f22.wr W23).ext E26).wr W29).wr W32)
 obtain ⟨_, T44, L44, X44, hQ44, st44⟩ := own_vb X34 hx hZ hown (y := yn9) (own_w hw 71 rfl) (own_w hw 59 rfl) (own_w hw 61 rfl) (own_w hw 60 rfl) (own_w hw 62 rfl) (w_9 hw) e34 f43 (argsL := [(.int 0)]) (rest := [(.int 0), (.ref o1)]) (rm20 l Z a0 hw [] b1 o2 kc3 p4 p5 h32 n0 O32 g_b1 g_o2 f35 f36 f42) (g := (mkF m 63 (l299_0 o1 b1) [(.int 0), (.ref b1), (.int 0), (.ref o1)])) rfl (by rw [hml]; rfl) rfl (hb hby d8_63) (lenOf pd2 rfl) (W := 2) (c1 := 2) (s1 := 9)
 obtain ⟨rfl, Nq45, e46⟩ := hQ44
 have N44 := Fr.app N32 Nq45
 have f47 := (Fw29.other W32 (Or.inr (slot_ne (Or.inl (w_19 hw)) (Or.inl (w_21 hw)) (by decide) (t := (.array .byte)) (t' := .int) (by decide) (by decide))))
 have lt48 : o1 < h23.size := (Nat.lt_of_lt_of_le (Nat.lt_of_lt_of_le (Nat.lt_of_lt_of_le (Nat.lt_of_lt_of_le (Nat.lt_of_lt_of_le P0.lt E1.1) K4.1) (Nat.le_of_eq W13.size.symm)) (Nat.le_of_eq W18.size.symm)) (Nat.le_of_eq W23.size.symm))
 have ne49 : o1 ≠ b26 := Nat.ne_of_lt (Nat.lt_of_lt_of_le lt48 sz_b26)
 have f50 := ((V26.other W29 (Ne.symm ne49)).other W32 (Ne.symm ne49))
 have f51 := ((EX26.wr W29).wr W32)
 obtain ⟨_, T52, L52, X52, hQ52, st52⟩ := own_pb X44 hx hZ hown (y := yn6) (w_49 hw) (w_50 hw) (own_selp (mvT hZ (w_25 hw)) rfl (Cond.privateMethod_at (mvP hZ (w_51 hw) (args := #[]))) (mvT hZ (w_50 hw)) (by decide)) (w_51 hw) (own_w hw 52 rfl) (w_9 hw) e46 f40 (argsL := [(.int 0), (.int (p4 &&& (255 : Int32)))]) (rest := []) (rm15 l Z a0 hw [] o1 b26 k26 ((p4 &&& (255 : Int32))) h32 n0 O32 g_o1 g_b26 f40 f47 Fw32 f50 f51) (g := (mkF m 66 (l299_0 o1 b1) [(.int (p4 &&& (255 : Int32))), (.int 0), (.ref o1)])) rfl (by rw [hml]; rfl) rfl (hb hby d8_66) (lenOf pd4 rfl) (W := 0) (c1 := 2) (s1 := 9)
 obtain ⟨rfl, Nq53, K54, f55, f56⟩ := hQ52
 have N52 := Fr.app N44 Nq53
 have O52 := Old.keep O32 K54 (allS g_b26 all0)
 have f57 := (f33.keep K54 (ninS ne49 nin0))
 obtain ⟨T58, X58, e58, st58⟩ := yag X52 hx hZ hown hby (w_34 hw) rfl f57 52 (l299_1 o1 b1) [(.int 1)] d8_52 d8_53 rfl
 have lt59 : b1 < h23.size := (Nat.lt_of_lt_of_le (Nat.lt_of_lt_of_le (Nat.lt_of_lt_of_le (Nat.lt_of_lt_of_le A1.lt K4.1) (Nat.le_of_eq W13.size.symm)) (Nat.le_of_eq W18.size.symm)) (Nat.le_of_eq W23.size.symm))
 have ne60 : b1 ≠ b26 := Nat.ne_of_lt (Nat.lt_of_lt_of_le lt59 sz_b26)
 have f61 := (f35.keep K54 (ninS ne60 nin0))
 have f62 := (f36.keep K54 (ninS ne60 nin0))
 have lt63 : o2 < h23.size := (Nat.lt_of_lt_of_le (Nat.lt_of_lt_of_le (Nat.lt_of_lt_of_le (Nat.lt_of_lt_of_le (Nat.lt_of_lt_of_le P4.lt E1.1) K4.1) (Nat.le_of_eq W13.size.symm)) (Nat.le_of_eq W18.size.symm)) (Nat.le_of_eq W23.size.symm))
 have ne64 : o2 ≠ b26 := Nat.ne_of_lt (Nat.lt_of_lt_of_le lt63 sz_b26)
 have f65 := (f42.keep K54 (ninS ne64 nin0))
 have f66 := (f43.keep K54)
 obtain ⟨_, T67, L67, X67, hQ67, st67⟩ := own_vb X58 hx hZ hown (y := yn9) (own_w hw 71 rfl) (own_w hw 59 rfl) (own_w hw 61 rfl) (own_w hw 60 rfl) (own_w hw 62 rfl) (w_9 hw) e58 f66 (argsL := [(.int 1)]) (rest := [(.int 1), (.ref o1)]) (rm21 l Z a0 hw [] b1 o2 kc3 p4 p5 T52.heap n0 O52 g_b1 g_o2 f61 f62 f65) (g := (mkF m 63 (l299_1 o1 b1) [(.int 1), (.ref b1), (.int 1), (.ref o1)])) rfl (by rw [hml]; rfl) rfl (hb hby d8_63) (lenOf pd2 rfl) (W := 2) (c1 := 2) (s1 := 9)
 obtain ⟨rfl, Nq68, e69⟩ := hQ67
 have N67 := Fr.app N52 Nq68
 have f70 := (f40.keep K54)
 have f71 := (f47.keep K54 (ninS ne49 nin0))
 have f72 := (Fw32.keep K54 (ninS ne49 nin0))
 obtain ⟨_, T73, L73, X73, hQ73, st73⟩ := own_pb X67 hx hZ hown (y := yn6) (w_49 hw) (w_50 hw) (own_selp (mvT hZ (w_25 hw)) rfl (Cond.privateMethod_at (mvP hZ (w_51 hw) (args := #[]))) (mvT hZ (w_50 hw)) (by decide)) (w_51 hw) (own_w hw 52 rfl) (w_9 hw) e69 f70 (argsL := [(.int 1), (.int (p5 &&& (255 : Int32)))]) (rest := []) (rm16 l Z a0 hw [] o1 b26 k26 (((((((p4 &&& (255 : Int32)).toUInt32 >>> ((8 : Int32) &&& 31).toUInt32).toInt32).toUInt32 >>> ((8 : Int32) &&& 31).toUInt32).toInt32).toInt8.toInt32)) (((((p4 &&& (255 : Int32)).toUInt32 >>> ((8 : Int32) &&& 31).toUInt32).toInt32).toInt8.toInt32)) (((p4 &&& (255 : Int32)).toInt8.toInt32)) ((p5 &&& (255 : Int32))) T52.heap n0 O52 g_o1 g_b26 f70 f71 f72 f55 f56) (g := (mkF m 66 (l299_1 o1 b1) [(.int (p5 &&& (255 : Int32))), (.int 1), (.ref o1)])) rfl (by rw [hml]; rfl) rfl (hb hby d8_66) (lenOf pd4 rfl) (W := 0) (c1 := 2) (s1 := 9)
 obtain ⟨rfl, Nq74, K75, f76, f77⟩ := hQ73
 have N73 := Fr.app N67 Nq74
 have f78 := (f57.keep K75 (ninS ne49 nin0))
 obtain ⟨T79, X79, e79, st79⟩ := yag X73 hx hZ hown hby (w_34 hw) rfl f78 52 (l299_2 o1 b1) [(.int 2)] d8_52 d8_53 rfl
 obtain ⟨fs, hr, hrun, hended, hW, hsame⟩ := X79.leave (v := none) (fun _ => rfl)
 have KL : Keep h0 T73.heap [o1] := (((((((((((Keep.refl h0 [o1]).ext E1).trans K4 (allS (Or.inr (Nat.le_trans (Nat.le_refl _) sz_b1)) all0)).wr W13 (Or.inr (Nat.le_trans (Nat.le_refl _) sz_b1))).wr W18 (Or.inr (Nat.le_trans (Nat.le_refl _) sz_b1))).wr W23 (Or.inr (Nat.le_trans (Nat.le_refl _) sz_b1))).ext E26).wr W29 (Or.inl (List.mem_of_getElem? (i := 0) rfl))).wr W32 (Or.inl (List.mem_of_getElem? (i := 0) rfl))).trans K54 (allS (Or.inr (Nat.le_trans M23 sz_b26)) all0)).trans K75 (allS (Or.inr (Nat.le_trans M23 sz_b26)) all0))
 have f80 := (f70.keep K75)
 have f81 := (f71.keep K75 (ninS ne49 nin0))
 have f82 := (f72.keep K75 (ninS ne49 nin0))
 refine ⟨_, _, pre0 _ ?_, hrun, hended, _, _, rfl, ?_, ⟨_, rfl⟩, hW, hsame.mono (by decide) (by decide)⟩
 ·
  refine st1 _ ?_
  refine XS.dup X1.here hx rfl (hb hby d8_3) rfl rfl ?_
  refine st2 _ ?_
  refine XS.astoreN X2.here hx rfl (hb hby d8_7) rfl rfl (l' := (l299_3 o1 b1)) rfl ?_
  refine yan X2 hx hby d8_8 rfl rfl ?_
  refine st12 _ ?_
  refine st13 _ ?_
  refine yan X13 hx hby d8_16 rfl rfl ?_
  refine st15 _ ?_
  refine st18 _ ?_
  refine yan X18 hx hby d8_24 rfl rfl ?_
  refine st20 _ ?_
  refine st23 _ ?_
  refine yan X23 hx hby d8_32 rfl rfl ?_
  refine st25 _ ?_
  refine yin X25 hx hby d8_37 rfl ?_
  refine XS.imul X25.here hx rfl (hb hby d8_38) rfl ?_
  refine st26 _ ?_
  refine st29 _ ?_
  refine yan X29 hx hby d8_44 rfl rfl ?_
  refine yin X29 hx hby d8_45 rfl ?_
  refine st32 _ ?_
  refine XS.iconst X32.here hx rfl (hb hby d8_49) ?_
  refine yit X32 hx hby d8_50 (l' := (l299_0 o1 b1)) rfl ?_
  refine yin X32 hx hby d8_51 rfl ?_
  refine st34 _ ?_
  refine yno X34 hx hby d8_56 (tlt (by decide : (0 : Int32) < (2 : Int32))).2.1 ?_
  refine yan X34 hx hby d8_59 rfl rfl ?_
  refine yin X34 hx hby d8_60 rfl ?_
  refine yan X34 hx hby d8_61 rfl rfl ?_
  refine yin X34 hx hby d8_62 rfl ?_
  refine st44 _ ?_
  refine st52 _ ?_
  refine XS.iinc X52.here hx rfl (hb hby d8_69) rfl (l' := (l299_1 o1 b1)) rfl ?_
  refine ygo X52 hx hby 72 51 rfl d8_72 (by decide) ?_
  show Steps p.tables e below (T52.setTop (mkF m 51 (l299_1 o1 b1) [])) _
  refine yin X52 hx hby d8_51 rfl ?_
  refine st58 _ ?_
  refine yno X58 hx hby d8_56 (tlt (by decide : (1 : Int32) < (2 : Int32))).2.1 ?_
  refine yan X58 hx hby d8_59 rfl rfl ?_
  refine yin X58 hx hby d8_60 rfl ?_
  refine yan X58 hx hby d8_61 rfl rfl ?_
  refine yin X58 hx hby d8_62 rfl ?_
  refine st67 _ ?_
  refine st73 _ ?_
  refine XS.iinc X73.here hx rfl (hb hby d8_69) rfl (l' := (l299_2 o1 b1)) rfl ?_
  refine ygo X73 hx hby 72 51 rfl d8_72 (by decide) ?_
  refine yin X73 hx hby d8_51 rfl ?_
  refine st79 _ ?_
  refine yye X79 hx hby 56 75 rfl d8_56 (flt (by decide : ¬ ((2 : Int32) < (2 : Int32)))).2.1 (by decide) ?_
  show Steps p.tables e below (T79.setTop (mkF m 75 (l299_2 o1 b1) [])) _
  exact X79.returnOut hx hret (hb hby d8_75) hr
 ·
  show Q25 Z w1 kw1 o1 o2 kc3 p4 p5 h0 n0 _ T79.heap _
  rw [e79]
  exact ⟨b26, k26, rfl, N73, KL, (Nat.le_trans M23 sz_b26), f80, f81, f78, f82, f76, f77⟩
def l300_0 (o1 b2 : Addr) : Array Slot := #[.val (.ref o1), .val (.int 9), .val (.ref b2)]
theorem ef26 (m : MethodId) (x0 : Addr) (x1 : Int32) : entryFrame m #[(.ref x0), (.int x1)] 3 = mkF m 0 #[.val (.ref x0), .val (.int x1), .unset] [] := by first | (simp [entryFrame, mkF, argsToLocals, Value.category]; done) | rfl
def Q26 (Z : State) (o1 : Addr) (kc2 : ClassId) (p3 p4 : Int32) (p5 p6 : Int32) (p7 p8 : Int32) (h0 : Heap) (n0 : Nat) (v : Option Value) (h : Heap) (L : List Loc) : Prop :=
  (∃ b2 : Addr, ∃ k2 : ClassId, v = some (.ref b2) ∧ Fr n0 L ∧ Keep h0 h [] ∧ h0.size ≤ b2 ∧ (Arv Z h b2 k2 .byte (9 : Int32) [(.int p3), (.int p4), (.int p5), (.int p6), (.int p7), (.int p8), (.int 0), (.int 0), (.int 0)] (.int 0)) ∧ (Exa Z h b2 "[B"))
set_option maxRecDepth 65536 in
set_option maxHeartbeats 40000000 in
theorem rm26 (l : Launch) (Z : State) (a0 : Array Value) (hw : HW a0 Z) (ws : List Jvm.Cond) (o1 : Addr) (kc2 : ClassId) (p3 p4 : Int32) (p5 p6 : Int32) (p7 p8 : Int32) (h0 : Heap) (n0 : Nat) (O0 : Old Z n0 h0) (g_o1 : n0 ≤ o1) (P0 : Arv Z h0 o1 kc2 .byte (6 : Int32) [(.int p3), (.int p4), (.int p5), (.int p6), (.int p7), (.int p8)] (.int 0)) :
    MF l yn5 jdk_65_method_121_code 3 (some (.array .byte)) ws ({ frames := 1, cells := 1, slots := 9, locals := 21 } : Room) #[(.ref o1), (.int 9)] Z h0 (Q26 Z o1 kc2 p3 p4 p5 p6 p7 p8 h0 n0) := by
 refine MetFree.of_bodySF (plainFor_of_name pn2) hisR ?_
 intro p e s m args below meth c s₁ Bd hml hP hK
 obtain ⟨rfl, hZ, hh⟩ := hP
 obtain ⟨hx, hby, hown, hret, hlk, X0, e0, N0⟩ := own_bd Bd hh n0
 have pre0 := own_ct s₁ (p := p) (e := e) (below := below) (ef26 m o1 (9 : Int32))
 revert pre0
 generalize s₁.setTop (entryFrame m #[(.ref o1), (.int 9)] 3) = E0
 intro pre0
 obtain ⟨cl1, Ar1, qa1, Sa1, Na1, Ha1, Ga1⟩ := id (P0)
 obtain ⟨T2, h2, k2, X2, e2, E2, A2, EX2, st2⟩ := newPE X0 hx hZ (own_w hw 40 rfl) e0 (g := (mkF m 15 #[.val (.ref o1), .val (.int 9), .unset] [(.int 9)])) rfl (hb hby d5_15) rfl (by decide) (cap := 9) (by decide) (by decide) (by decide) (by decide) (ad := "[B") (by decide)
 obtain ⟨b2, g2⟩ : ∃ z, z = h0.size := ⟨_, rfl⟩
 rw [← g2] at A2 EX2 st2
 have O2 := Old.ext O0 E2
 have sz_b2 : h0.size ≤ b2 := Nat.le_of_eq g2.symm
 have g_b2 : n0 ≤ b2 := Nat.le_trans (own_oz O0) (Nat.le_trans (Nat.le_refl _) sz_b2)
 have V2_0 := Arv.new A2 (by decide)
 have V2 : Arv Z h2 b2 k2 .byte (9 : Int32) [(.int 0), (.int 0), (.int 0), (.int 0), (.int 0), (.int 0), (.int 0), (.int 0), (.int 0)] (.int 0) := V2_0.pad (pad_rep [] (.int 0) 9)
 have f3 := (P0.ext E2)
 obtain ⟨cl4, Ar4, qa4, Sa4, Na4, Ha4, Ga4⟩ := id (f3)
 obtain ⟨_, T5, L5, X5, hQ5, st5⟩ := own_cs X2 hx hZ hown (y := yn4) (own_w hw 41 rfl) (own_w hw 42 rfl) (own_w hw 43 rfl) (w_32 hw) e2 (argsL := [(.int 6), (.int 9)]) (rest := [(.int 0), (.ref b2), (.int 0), (.ref o1)]) (rm5 l Z a0 hw [] ((6 : Int32)) ((9 : Int32)) h2 n0 O2 ) (g := (mkF m 25 (l300_0 o1 b2) [(.int 9), (.int 6), (.int 0), (.ref b2), (.int 0), (.ref o1)])) rfl (by rw [hml]; rfl) rfl (hb hby d5_25) (lenOf pd0 rfl) (W := 4) (c1 := 1) (s1 := 9)
 have pre6 : Go p e below T2 (mkF m 25 (l300_0 o1 b2) [(.int 9), (.int 6), (.int 0), (.ref b2), (.int 0), (.ref o1)]) E0 := fun t k => by
  refine pre0 _ ?_
  refine yin X0 hx hby d5_0 rfl ?_
  refine yan X0 hx hby d5_1 rfl rfl ?_
  refine X0.arraylength hx (by rw [e0]; exact Ar1.1) (State.isArrayOf_alike hZ.alike Ar1.2.1) (g := (mkF m 2 #[.val (.ref o1), .val (.int 9), .unset] [(.ref o1), (.int 9)])) rfl rfl (hb hby d5_2) _ ?_
  rw [len_of Sa1 Na1]
  refine yye X0 hx hby 3 14 rfl d5_3 (feq (by decide : ¬ ((9 : Int32) = (6 : Int32)))).2 (by decide) ?_
  refine yin X0 hx hby d5_14 rfl ?_
  refine st2 _ ?_
  refine XS.astoreN X2.here hx rfl (hb hby d5_17) rfl rfl (l' := (l300_0 o1 b2)) rfl ?_
  refine yan X2 hx hby d5_18 rfl rfl ?_
  refine XS.iconst X2.here hx rfl (hb hby d5_19) ?_
  refine yan X2 hx hby d5_20 rfl rfl ?_
  refine XS.iconst X2.here hx rfl (hb hby d5_21) ?_
  refine yan X2 hx hby d5_22 rfl rfl ?_
  refine X2.arraylength hx (by rw [e2]; exact Ar4.1) (State.isArrayOf_alike hZ.alike Ar4.2.1) (g := (mkF m 23 (l300_0 o1 b2) [(.ref o1), (.int 0), (.ref b2), (.int 0), (.ref o1)])) rfl rfl (hb hby d5_23) _ ?_
  rw [len_of Sa4 Na4]
  refine yin X2 hx hby d5_24 rfl ?_
  exact k
 rcases hQ5 with ⟨hc7, rfl, Nq8, e9⟩ | ⟨hc10, rfl, Nq11, e12⟩
 ·
  exact absurd hc7 (by decide : ¬ ((9 : Int32) < (6 : Int32)))
 ·
  have N5 := Fr.app N0 Nq11
  obtain ⟨T13, h13, L13, X13, e13, N13, K13, VV13, st13⟩ := cpA X5 hx hZ hown (own_w hw 44 rfl) (w_47 hw) (w_45 hw) (w_46 hw) e12 (us := [(.int p3), (.int p4), (.int p5), (.int p6), (.int p7), (.int p8)]) f3 V2 (Or.inl ⟨rfl, rfl⟩) (by decide) (by decide) (by decide) (by decide) (by decide) rfl (by first | decide | exact (by decide : 0 + 6 ≤ 9)) N5 g_b2 (g := (mkF m 28 (l300_0 o1 b2) [(.int 6), (.int 0), (.ref b2), (.int 0), (.ref o1)])) rfl (by rw [hml]; rfl) rfl (hb hby d5_28) (by decide) (W := 0) (by show 2 * 0 + _ ≤ _; exact Nat.le_of_eq rfl) (by decide)
  have V13 : Arv Z h13 b2 k2 .byte (9 : Int32) [(.int p3), (.int p4), (.int p5), (.int p6), (.int p7), (.int p8), (.int 0), (.int 0), (.int 0)] (.int 0) := VV13
  obtain ⟨fs, hr, hrun, hended, hW, hsame⟩ := X13.leave (v := some (.ref b2)) (fun h => by rw [hret] at h; cases h)
  have KL : Keep h0 h13 [] := (((Keep.refl h0 []).ext E2).trans K13 (allS (Or.inr (Nat.le_trans (Nat.le_refl _) sz_b2)) all0))
  have f14 := (EX2.keep K13)
  refine ⟨_, _, pre6 _ ?_, hrun, hended, _, _, rfl, ?_, ⟨_, rfl⟩, hW, hsame.mono (by decide) (by decide)⟩
  ·
   refine st5 _ ?_
   refine st13 _ ?_
   refine yan X13 hx hby d5_31 rfl rfl ?_
   show Steps p.tables e below (T13.setTop (mkF m 32 (l300_0 o1 b2) [(.ref b2)])) _
   exact retOut X13 hx hret rfl (Or.inr (Or.inr (Or.inr (Or.inr ⟨rfl, rfl, rfl⟩)))) (hb hby d5_32) hr
  ·
   show Q26 Z o1 kc2 p3 p4 p5 p6 p7 p8 h0 n0 _ T13.heap _
   rw [e13]
   exact ⟨b2, k2, rfl, N13, KL, (Nat.le_trans (Nat.le_refl _) sz_b2), V13, f14⟩
def l301_0 (o1 : Addr) (p2 : Int32) : Array Slot := #[.val (.ref o1), .val (.int 0), .val (.int ((((((p2.toUInt32 >>> ((8 : Int32) &&& 31).toUInt32).toInt32).toUInt32 >>> ((8 : Int32) &&& 31).toUInt32).toInt32).toUInt32 >>> ((8 : Int32) &&& 31).toUInt32).toInt32)), .val (.int 0), .val (.int (-1))]
def l301_1 (o1 : Addr) (p2 : Int32) : Array Slot := #[.val (.ref o1), .val (.int 0), .val (.int ((((p2.toUInt32 >>> ((8 : Int32) &&& 31).toUInt32).toInt32).toUInt32 >>> ((8 : Int32) &&& 31).toUInt32).toInt32)), .val (.int 0), .val (.int 0)]
def l301_2 (o1 : Addr) (p2 : Int32) : Array Slot := #[.val (.ref o1), .val (.int 0), .val (.int ((((p2.toUInt32 >>> ((8 : Int32) &&& 31).toUInt32).toInt32).toUInt32 >>> ((8 : Int32) &&& 31).toUInt32).toInt32)), .val (.int 0), .val (.int 1)]
def l301_3 (o1 : Addr) (p2 : Int32) : Array Slot := #[.val (.ref o1), .val (.int 0), .val (.int ((p2.toUInt32 >>> ((8 : Int32) &&& 31).toUInt32).toInt32)), .val (.int 0), .val (.int 1)]
def l301_4 (o1 : Addr) (p2 : Int32) : Array Slot := #[.val (.ref o1), .val (.int 0), .val (.int p2), .val (.int 0), .val (.int 2)]
theorem ef27 (m : MethodId) (x0 : Addr) (x1 x2 : Int32) : entryFrame m #[(.ref x0), (.int x1), (.int x2)] 5 = mkF m 0 #[.val (.ref x0), .val (.int x1), .val (.int x2), .unset, .unset] [] := by first | (simp [entryFrame, mkF, argsToLocals, Value.category]; done) | rfl
def Q27 (Z : State) (o1 o3 : Addr) (kc4 : ClassId) (p5 p6 : Int32) (p7 p8 : Int32) (p9 p10 : Int32) (p11 p12 : Int32) (p13 p2 : Int32) (h0 : Heap) (n0 : Nat) (v : Option Value) (h : Heap) (L : List Loc) : Prop :=
  (v = none ∧ Fr n0 L ∧ Keep h0 h [o3] ∧ (Arv Z h o3 kc4 .byte (9 : Int32) [(.int (((((p2.toUInt32 >>> ((8 : Int32) &&& 31).toUInt32).toInt32).toUInt32 >>> ((8 : Int32) &&& 31).toUInt32).toInt32).toInt8.toInt32)), (.int (((p2.toUInt32 >>> ((8 : Int32) &&& 31).toUInt32).toInt32).toInt8.toInt32)), (.int (p2.toInt8.toInt32)), (.int p8), (.int p9), (.int p10), (.int p11), (.int p12), (.int p13)] (.int 0)) ∧ (Exa Z h o3 "[B"))
set_option maxRecDepth 65536 in
set_option maxHeartbeats 40000000 in
theorem rm27 (l : Launch) (Z : State) (a0 : Array Value) (hw : HW a0 Z) (ws : List Jvm.Cond) (o1 o3 : Addr) (kc4 : ClassId) (p5 p6 : Int32) (p7 p8 : Int32) (p9 p10 : Int32) (p11 p12 : Int32) (p13 p2 : Int32) (h0 : Heap) (n0 : Nat) (O0 : Old Z n0 h0) (g_o1 : n0 ≤ o1) (g_o3 : n0 ≤ o3) (P0 : Exa Z h0 o1 "com/example/driftless/driftless/CodePoints") (P1 : Fld Z h0 o1 "com/example/driftless/driftless/CodePoints" "bytes" "[B" (.ref o3)) (P3 : Fld Z h0 o1 "com/example/driftless/driftless/CodePoints" "width" "I" (.int 3)) (P4 : Arv Z h0 o3 kc4 .byte (9 : Int32) [(.int p5), (.int p6), (.int p7), (.int p8), (.int p9), (.int p10), (.int p11), (.int p12), (.int p13)] (.int 0)) (P5 : Exa Z h0 o3 "[B") :
    MF l yn6 prog_6_method_9_code 5 none ws ({ frames := 0, cells := 0, slots := 0, locals := 0 } : Room) #[(.ref o1), (.int 0), (.int p2)] Z h0 (Q27 Z o1 o3 kc4 p5 p6 p7 p8 p9 p10 p11 p12 p13 p2 h0 n0) := by
 refine MetFree.of_bodySF (plainFor_of_name pn1) hisR ?_
 intro p e s m args below meth c s₁ Bd hml hP hK
 obtain ⟨rfl, hZ, hh⟩ := hP
 obtain ⟨hx, hby, hown, hret, hlk, X0, e0, N0⟩ := own_bd Bd hh n0
 have pre0 := own_ct s₁ (p := p) (e := e) (below := below) (ef27 m o1 (0 : Int32) p2)
 obtain ⟨T1, X1, e1, st1⟩ := yag X0 hx hZ hown hby (w_20 hw) e0 P3 1 #[.val (.ref o1), .val (.int 0), .val (.int p2), .unset, .unset] [(.int 0)] d7_1 d7_2 rfl
 obtain ⟨T2, X2, e2, st2⟩ := yag X1 hx hZ hown hby (w_20 hw) e1 P3 7 #[.val (.ref o1), .val (.int 0), .val (.int p2), .val (.int 0), .unset] [] d7_7 d7_8 rfl
 obtain ⟨T3, X3, e3, st3⟩ := yag X2 hx hZ hown hby (w_18 hw) e2 P1 20 (l301_4 o1 p2) [] d7_20 d7_21 rfl
 obtain ⟨cl4, Ar4, qa4, Sa4, Na4, Ha4, Ga4⟩ := id (P4)
 have hin4 := inb_of (j := (2 : Int32)) Sa4 ⟨by decide, by decide⟩
 obtain ⟨T5, h5, X5, e5, W5, st5⟩ := stB X3 hx hZ e3 Ar4 (j := (2 : Int32)) hin4 (g := (mkF m 30 (l301_4 o1 p2) [(.int (p2.toInt8.toInt32)), (.int 2), (.ref o3)])) rfl rfl (hb hby d7_30)
 rw [own_nb8] at W5
 have V5 : Arv Z h5 o3 kc4 .byte (9 : Int32) [(.int p5), (.int p6), (.int (p2.toInt8.toInt32)), (.int p8), (.int p9), (.int p10), (.int p11), (.int p12), (.int p13)] (.int 0) := Arv.set Ar4 qa4 Sa4 Na4 Ha4 Ga4 (fits_nar_byte _) W5 2 rfl (Nat.le_of_ble_eq_true rfl)
 have N5 := Fr.snoc X5 N0 g_o3
 have f6 := (P0.wr W5)
 have f7 := (P5.wr W5)
 have ne8 : o1 ≠ o3 := ne_exa f6 f7 (by decide)
 have f9 := (P1.other W5 (Or.inl ne8))
 obtain ⟨T10, X10, e10, st10⟩ := yag X5 hx hZ hown hby (w_18 hw) e5 f9 20 (l301_3 o1 p2) [] d7_20 d7_21 rfl
 obtain ⟨cl11, Ar11, qa11, Sa11, Na11, Ha11, Ga11⟩ := id (V5)
 have hin11 := inb_of (j := (1 : Int32)) Sa11 ⟨by decide, by decide⟩
 obtain ⟨T12, h12, X12, e12, W12, st12⟩ := stB X10 hx hZ e10 Ar11 (j := (1 : Int32)) hin11 (g := (mkF m 30 (l301_3 o1 p2) [(.int (((p2.toUInt32 >>> ((8 : Int32) &&& 31).toUInt32).toInt32).toInt8.toInt32)), (.int 1), (.ref o3)])) rfl rfl (hb hby d7_30)
 rw [own_nb8] at W12
 have V12 : Arv Z h12 o3 kc4 .byte (9 : Int32) [(.int p5), (.int (((p2.toUInt32 >>> ((8 : Int32) &&& 31).toUInt32).toInt32).toInt8.toInt32)), (.int (p2.toInt8.toInt32)), (.int p8), (.int p9), (.int p10), (.int p11), (.int p12), (.int p13)] (.int 0) := Arv.set Ar11 qa11 Sa11 Na11 Ha11 Ga11 (fits_nar_byte _) W12 1 rfl (Nat.le_of_ble_eq_true rfl)
 have N12 := Fr.snoc X12 N5 g_o3
 have f13 := (f9.other W12 (Or.inl ne8))
 obtain ⟨T14, X14, e14, st14⟩ := yag X12 hx hZ hown hby (w_18 hw) e12 f13 20 (l301_1 o1 p2) [] d7_20 d7_21 rfl
 obtain ⟨cl15, Ar15, qa15, Sa15, Na15, Ha15, Ga15⟩ := id (V12)
 have hin15 := inb_of (j := (0 : Int32)) Sa15 ⟨by decide, by decide⟩
 obtain ⟨T16, h16, X16, e16, W16, st16⟩ := stB X14 hx hZ e14 Ar15 (j := (0 : Int32)) hin15 (g := (mkF m 30 (l301_1 o1 p2) [(.int (((((p2.toUInt32 >>> ((8 : Int32) &&& 31).toUInt32).toInt32).toUInt32 >>> ((8 : Int32) &&& 31).toUInt32).toInt32).toInt8.toInt32)), (.int 0), (.ref o3)])) rfl rfl (hb hby d7_30)
 rw [own_nb8] at W16
 have V16 : Arv Z h16 o3 kc4 .byte (9 : Int32) [(.int (((((p2.toUInt32 >>> ((8 : Int32) &&& 31).toUInt32).toInt32).toUInt32 >>> ((8 : Int32) &&& 31).toUInt32).toInt32).toInt8.toInt32)), (.int (((p2.toUInt32 >>> ((8 : Int32) &&& 31).toUInt32).toInt32).toInt8.toInt32)), (.int (p2.toInt8.toInt32)), (.int p8), (.int p9), (.int p10), (.int p11), (.int p12), (.int p13)] (.int 0) := Arv.set Ar15 qa15 Sa15 Na15 Ha15 Ga15 (fits_nar_byte _) W16 0 rfl (Nat.le_of_ble_eq_true rfl)
 have N16 := Fr.snoc X16 N12 g_o3
 obtain ⟨fs, hr, hrun, hended, hW, hsame⟩ := X16.leave (v := none) (fun _ => rfl)
 have KL : Keep h0 h16 [o3] := ((((Keep.refl h0 [o3]).wr W5 (Or.inl (List.mem_of_getElem? (i := 0) rfl))).wr W12 (Or.inl (List.mem_of_getElem? (i := 0) rfl))).wr W16 (Or.inl (List.mem_of_getElem? (i := 0) rfl)))
 have f17 := ((f7.wr W12).wr W16)
 refine ⟨_, _, pre0 _ ?_, hrun, hended, _, _, rfl, ?_, ⟨_, rfl⟩, hW, hsame.mono (by decide) (by decide)⟩
 ·
  refine yin X0 hx hby d7_0 rfl ?_
  refine st1 _ ?_
  refine XS.imul X1.here hx rfl (hb hby d7_5) rfl ?_
  refine yit X1 hx hby d7_6 (l' := #[.val (.ref o1), .val (.int 0), .val (.int p2), .val (.int 0), .unset]) rfl ?_
  refine st2 _ ?_
  refine XS.iconst X2.here hx rfl (hb hby d7_11) ?_
  refine ysu X2 hx hby d7_12 ?_
  refine yis X2 hx hby d7_13 (l' := (l301_4 o1 p2)) rfl ?_
  refine yil X2 hx hby d7_15 rfl ?_
  refine XS.ifNo X2.here hx rfl (hb hby d7_17) rfl ((if0 _ _).trans (flt (by decide : ¬ ((2 : Int32) < (0 : Int32)))).1) ?_
  refine st3 _ ?_
  refine yin X3 hx hby d7_24 rfl ?_
  refine yil X3 hx hby d7_25 rfl ?_
  refine yad X3 hx hby d7_27 ?_
  refine yin X3 hx hby d7_28 rfl ?_
  refine XS.i2b X3.here hx rfl (hb hby d7_29) rfl ?_
  refine st5 _ ?_
  refine yin X5 hx hby d7_31 rfl ?_
  refine XS.bipush X5.here hx rfl (hb hby d7_32) ?_
  refine XS.iushr X5.here hx rfl (hb hby d7_34) rfl ?_
  refine yit X5 hx hby d7_35 (l' := #[.val (.ref o1), .val (.int 0), .val (.int ((p2.toUInt32 >>> ((8 : Int32) &&& 31).toUInt32).toInt32)), .val (.int 0), .val (.int 2)]) rfl ?_
  refine XS.iinc X5.here hx rfl (hb hby d7_36) rfl (l' := (l301_3 o1 p2)) rfl ?_
  refine ygo X5 hx hby 39 15 rfl d7_39 (by decide) ?_
  refine yil X5 hx hby d7_15 rfl ?_
  refine XS.ifNo X5.here hx rfl (hb hby d7_17) rfl ((if0 _ _).trans (flt (by decide : ¬ ((1 : Int32) < (0 : Int32)))).1) ?_
  refine st10 _ ?_
  refine yin X10 hx hby d7_24 rfl ?_
  refine yil X10 hx hby d7_25 rfl ?_
  refine yad X10 hx hby d7_27 ?_
  refine yin X10 hx hby d7_28 rfl ?_
  refine XS.i2b X10.here hx rfl (hb hby d7_29) rfl ?_
  refine st12 _ ?_
  refine yin X12 hx hby d7_31 rfl ?_
  refine XS.bipush X12.here hx rfl (hb hby d7_32) ?_
  refine XS.iushr X12.here hx rfl (hb hby d7_34) rfl ?_
  refine yit X12 hx hby d7_35 (l' := (l301_2 o1 p2)) rfl ?_
  show Steps p.tables e below (T12.setTop (mkF m 36 (l301_2 o1 p2) [])) _
  refine XS.iinc X12.here hx rfl (hb hby d7_36) rfl (l' := (l301_1 o1 p2)) rfl ?_
  refine ygo X12 hx hby 39 15 rfl d7_39 (by decide) ?_
  refine yil X12 hx hby d7_15 rfl ?_
  refine XS.ifNo X12.here hx rfl (hb hby d7_17) rfl ((if0 _ _).trans (flt (by decide : ¬ ((0 : Int32) < (0 : Int32)))).1) ?_
  refine st14 _ ?_
  refine yin X14 hx hby d7_24 rfl ?_
  refine yil X14 hx hby d7_25 rfl ?_
  refine yad X14 hx hby d7_27 ?_
  refine yin X14 hx hby d7_28 rfl ?_
  refine XS.i2b X14.here hx rfl (hb hby d7_29) rfl ?_
  refine st16 _ ?_
  refine yin X16 hx hby d7_31 rfl ?_
  refine XS.bipush X16.here hx rfl (hb hby d7_32) ?_
  refine XS.iushr X16.here hx rfl (hb hby d7_34) rfl ?_
  refine yit X16 hx hby d7_35 (l' := #[.val (.ref o1), .val (.int 0), .val (.int ((((((p2.toUInt32 >>> ((8 : Int32) &&& 31).toUInt32).toInt32).toUInt32 >>> ((8 : Int32) &&& 31).toUInt32).toInt32).toUInt32 >>> ((8 : Int32) &&& 31).toUInt32).toInt32)), .val (.int 0), .val (.int 0)]) rfl ?_
  refine XS.iinc X16.here hx rfl (hb hby d7_36) rfl (l' := (l301_0 o1 p2)) rfl ?_
  refine ygo X16 hx hby 39 15 rfl d7_39 (by decide) ?_
  refine yil X16 hx hby d7_15 rfl ?_
  refine XS.ifYes X16.here hx rfl (pc0 := 17) (pc' := 42) rfl (hb hby d7_17) rfl ((if0 _ _).trans (tlt (by decide : (-1 : Int32) < (0 : Int32))).1) (by decide) (by decide) ?_
  show Steps p.tables e below (T16.setTop (mkF m 42 (l301_0 o1 p2) [])) _
  exact X16.returnOut hx hret (hb hby d7_42) hr
 ·
  show Q27 Z o1 o3 kc4 p5 p6 p7 p8 p9 p10 p11 p12 p13 p2 h0 n0 _ T16.heap _
  rw [e16]
  exact ⟨rfl, N16, KL, V16, f17⟩
def l302_0 (o1 o2 : Addr) : Array Slot := #[.val (.ref o1), .val (.int 0), .val (.ref o2), .val (.int 2), .val (.int 1), .val (.int 1), .val (.int 3), .val (.int 0)]
def l302_1 (o1 o2 : Addr) : Array Slot := #[.val (.ref o1), .val (.int 0), .val (.ref o2), .val (.int 2), .val (.int 1), .val (.int 1), .val (.int 3), .val (.int 1)]
def l302_2 (o1 o2 : Addr) : Array Slot := #[.val (.ref o1), .val (.int 0), .val (.ref o2), .val (.int 2), .val (.int 1), .val (.int 2), .val (.int 6), .val (.int 0)]
def l302_3 (o1 o2 : Addr) : Array Slot := #[.val (.ref o1), .val (.int 0), .val (.ref o2), .val (.int 2), .val (.int 1), .val (.int 2), .val (.int 6), .val (.int 1)]
def l302_4 (o1 o2 : Addr) : Array Slot := #[.val (.ref o1), .val (.int 0), .val (.ref o2), .val (.int 2), .val (.int 1), .val (.int 3), .val (.int 9), .val (.int 0)]
def l302_5 (o1 o2 : Addr) : Array Slot := #[.val (.ref o1), .val (.int 0), .val (.ref o2), .val (.int 2), .val (.int 1), .val (.int 3), .val (.int 9), .val (.int 1)]
def l302_6 (o1 o2 : Addr) : Array Slot := #[.val (.ref o1), .val (.int 0), .val (.ref o2), .val (.int 2), .val (.int 1), .val (.int 1), .val (.int 3), .unset]
def l302_7 (o1 o2 : Addr) : Array Slot := #[.val (.ref o1), .val (.int 0), .val (.ref o2), .val (.int 2), .val (.int 1), .val (.int 2), .val (.int 3), .unset]
def l302_8 (o1 o2 : Addr) : Array Slot := #[.val (.ref o1), .val (.int 0), .val (.ref o2), .val (.int 2), .val (.int 1), .val (.int 3), .val (.int 3), .unset]
def l302_9 (o1 o2 : Addr) : Array Slot := #[.val (.ref o1), .val (.int 0), .val (.ref o2), .val (.int 2), .val (.int 1), .val (.int 1), .val (.int 2), .unset]
def l302_10 (o1 o2 : Addr) : Array Slot := #[.val (.ref o1), .val (.int 0), .val (.ref o2), .val (.int 2), .val (.int 1), .val (.int 2), .val (.int 6), .unset]
def l302_11 (o1 o2 : Addr) : Array Slot := #[.val (.ref o1), .val (.int 0), .val (.ref o2), .val (.int 2), .val (.int 1), .val (.int 3), .val (.int 9), .unset]
theorem ef28 (m : MethodId) (x0 : Addr) (x1 : Int32) (x2 : Addr) (x3 x4 : Int32) : entryFrame m #[(.ref x0), (.int x1), (.ref x2), (.int x3), (.int x4)] 8 = mkF m 0 #[.val (.ref x0), .val (.int x1), .val (.ref x2), .val (.int x3), .val (.int x4), .unset, .unset, .unset] [] := by first | (simp [entryFrame, mkF, argsToLocals, Value.category]; done) | rfl
def Q28 (Z : State) (w1 : Addr) (kw1 : ClassId) (o1 o2 o3 : Addr) (kc4 : ClassId) (p5 p6 p7 : Int32) (kc8 : ClassId) (p9 p10 : Int32) (h0 : Heap) (n0 : Nat) (v : Option Value) (h : Heap) (L : List Loc) : Prop :=
  (∃ b67 : Addr, ∃ k68 : ClassId, (p7 < (256 : Int32)) ∧ v = none ∧ Fr n0 L ∧ Keep h0 h [o1] ∧ h0.size ≤ b67 ∧ (Exa Z h o1 "com/example/driftless/driftless/CodePoints") ∧ (Fld Z h o1 "com/example/driftless/driftless/CodePoints" "bytes" "[B" (.ref b67)) ∧ (Fld Z h o1 "com/example/driftless/driftless/CodePoints" "length" "I" (.int 3)) ∧ (Fld Z h o1 "com/example/driftless/driftless/CodePoints" "width" "I" (.int 1)) ∧ (Arv Z h b67 k68 .byte (3 : Int32) [(.int (p7.toInt8.toInt32)), (.int p9), (.int p10)] (.int 0)) ∧ (Exa Z h b67 "[B"))
  ∨ (∃ b142 : Addr, ∃ k143 : ClassId, (p7 < (65536 : Int32)) ∧ v = none ∧ Fr n0 L ∧ Keep h0 h [o1] ∧ h0.size ≤ b142 ∧ (Exa Z h o1 "com/example/driftless/driftless/CodePoints") ∧ (Fld Z h o1 "com/example/driftless/driftless/CodePoints" "bytes" "[B" (.ref b142)) ∧ (Fld Z h o1 "com/example/driftless/driftless/CodePoints" "length" "I" (.int 3)) ∧ (Fld Z h o1 "com/example/driftless/driftless/CodePoints" "width" "I" (.int 2)) ∧ (Arv Z h b142 k143 .byte (6 : Int32) [(.int (((p7.toUInt32 >>> ((8 : Int32) &&& 31).toUInt32).toInt32).toInt8.toInt32)), (.int (p7.toInt8.toInt32)), (.int ((((p9 &&& (255 : Int32)).toUInt32 >>> ((8 : Int32) &&& 31).toUInt32).toInt32).toInt8.toInt32)), (.int ((p9 &&& (255 : Int32)).toInt8.toInt32)), (.int ((((p10 &&& (255 : Int32)).toUInt32 >>> ((8 : Int32) &&& 31).toUInt32).toInt32).toInt8.toInt32)), (.int ((p10 &&& (255 : Int32)).toInt8.toInt32))] (.int 0)) ∧ (Exa Z h b142 "[B"))
  ∨ (∃ b217 : Addr, ∃ k218 : ClassId, v = none ∧ Fr n0 L ∧ Keep h0 h [o1] ∧ h0.size ≤ b217 ∧ (Exa Z h o1 "com/example/driftless/driftless/CodePoints") ∧ (Fld Z h o1 "com/example/driftless/driftless/CodePoints" "bytes" "[B" (.ref b217)) ∧ (Fld Z h o1 "com/example/driftless/driftless/CodePoints" "length" "I" (.int 3)) ∧ (Fld Z h o1 "com/example/driftless/driftless/CodePoints" "width" "I" (.int 3)) ∧ (Arv Z h b217 k218 .byte (9 : Int32) [(.int (((((p7.toUInt32 >>> ((8 : Int32) &&& 31).toUInt32).toInt32).toUInt32 >>> ((8 : Int32) &&& 31).toUInt32).toInt32).toInt8.toInt32)), (.int (((p7.toUInt32 >>> ((8 : Int32) &&& 31).toUInt32).toInt32).toInt8.toInt32)), (.int (p7.toInt8.toInt32)), (.int ((((((p9 &&& (255 : Int32)).toUInt32 >>> ((8 : Int32) &&& 31).toUInt32).toInt32).toUInt32 >>> ((8 : Int32) &&& 31).toUInt32).toInt32).toInt8.toInt32)), (.int ((((p9 &&& (255 : Int32)).toUInt32 >>> ((8 : Int32) &&& 31).toUInt32).toInt32).toInt8.toInt32)), (.int ((p9 &&& (255 : Int32)).toInt8.toInt32)), (.int ((((((p10 &&& (255 : Int32)).toUInt32 >>> ((8 : Int32) &&& 31).toUInt32).toInt32).toUInt32 >>> ((8 : Int32) &&& 31).toUInt32).toInt32).toInt8.toInt32)), (.int ((((p10 &&& (255 : Int32)).toUInt32 >>> ((8 : Int32) &&& 31).toUInt32).toInt32).toInt8.toInt32)), (.int ((p10 &&& (255 : Int32)).toInt8.toInt32))] (.int 0)) ∧ (Exa Z h b217 "[B"))
set_option maxRecDepth 65536 in
set_option maxHeartbeats 40000000 in
theorem rm28 (l : Launch) (Z : State) (a0 : Array Value) (hw : HW a0 Z) (w1 : Addr) (kw1 : ClassId) (G : GW Z w1 kw1) (ws : List Jvm.Cond) (o1 o2 o3 : Addr) (kc4 : ClassId) (p5 p6 p7 : Int32) (kc8 : ClassId) (p9 p10 : Int32) (h0 : Heap) (n0 : Nat) (O0 : Old Z n0 h0) (g_o1 : n0 ≤ o1) (g_o2 : n0 ≤ o2) (g_o3 : n0 ≤ o3) (P0 : Exa Z h0 o1 "com/example/driftless/driftless/CodePoints") (P1 : Fld Z h0 o1 "com/example/driftless/driftless/CodePoints" "bytes" "[B" (.ref o3)) (P2 : Fld Z h0 o1 "com/example/driftless/driftless/CodePoints" "length" "I" (.int 2)) (P3 : Fld Z h0 o1 "com/example/driftless/driftless/CodePoints" "width" "I" (.int 1)) (P4 : Arv Z h0 o2 kc4 .int (3 : Int32) [(.int p5), (.int p6), (.int p7)] (.int 0)) (P5 : Exa Z h0 o2 "[I") (P6 : Arv Z h0 o3 kc8 .byte (2 : Int32) [(.int p9), (.int p10)] (.int 0)) (P7 : Exa Z h0 o3 "[B") :
    MF l yn8 prog_6_method_5_code 8 none ws ({ frames := 3, cells := 3, slots := 18, locals := 40 } : Room) #[(.ref o1), (.int 0), (.ref o2), (.int 2), (.int 1)] Z h0 (Q28 Z w1 kw1 o1 o2 o3 kc4 p5 p6 p7 kc8 p9 p10 h0 n0) := by
 obtain ⟨S_w1, E_w1, A_w1⟩ := id G
 refine MetFree.of_bodySF (plainFor_of_name pn1) hisR ?_
 intro p e s m args below meth c s₁ Bd hml hP hK
 obtain ⟨rfl, hZ, hh⟩ := hP
 obtain ⟨hx, hby, hown, hret, hlk, X0, e0, N0⟩ := own_bd Bd hh n0
 have pre0 := own_ct s₁ (p := p) (e := e) (below := below) (ef28 m o1 (0 : Int32) o2 (2 : Int32) (1 : Int32))
 revert pre0
 generalize s₁.setTop (entryFrame m #[(.ref o1), (.int 0), (.ref o2), (.int 2), (.int 1)] 8) = E0
 intro pre0
 have J0 : (∃ (T : State) (locs : List Loc), Stand p l e ({ frames := 3, cells := 3, slots := 18, locals := 40 } : Room) s m #[(.ref o1), (.int 0), (.ref o2), (.int 2), (.int 1)] below meth c T locs 0 0 ∧ T.heap = h0 ∧ Fr n0 locs ∧ (Go p e below T (mkF m 38 (l302_6 o1 o2) []) E0) ∧ (p7 < (256 : Int32))) ∨ (∃ (T : State) (locs : List Loc), Stand p l e ({ frames := 3, cells := 3, slots := 18, locals := 40 } : Room) s m #[(.ref o1), (.int 0), (.ref o2), (.int 2), (.int 1)] below meth c T locs 0 0 ∧ T.heap = h0 ∧ Fr n0 locs ∧ (Go p e below T (mkF m 38 (l302_7 o1 o2) []) E0) ∧ (p7 < (65536 : Int32))) ∨ (∃ (T : State) (locs : List Loc), Stand p l e ({ frames := 3, cells := 3, slots := 18, locals := 40 } : Room) s m #[(.ref o1), (.int 0), (.ref o2), (.int 2), (.int 1)] below meth c T locs 0 0 ∧ T.heap = h0 ∧ Fr n0 locs ∧ (Go p e below T (mkF m 38 (l302_8 o1 o2) []) E0)) := by
  obtain ⟨T1, X1, e1, st1⟩ := yag X0 hx hZ hown hby (w_20 hw) e0 P3 0 #[.val (.ref o1), .val (.int 0), .val (.ref o2), .val (.int 2), .val (.int 1), .unset, .unset, .unset] [] d2_0 d2_1 rfl
  obtain ⟨cl2, Ar2, qa2, Sa2, Na2, Ha2, Ga2⟩ := id (P4)
  have hin2 := inb_of (j := (2 : Int32)) Sa2 ⟨by decide, by decide⟩
  have hat2 : cl2.slots[((2 : Int32)).toNatClampNeg]? = some (.int p7) := Has.at Ha2 hin2 rfl
  obtain ⟨_, T3, L3, X3, hQ3, st3⟩ := own_cs X1 hx hZ hown (y := yn2) (own_w hw 27 rfl) (own_w hw 28 rfl) (own_w hw 29 rfl) (w_9 hw) e1 (argsL := [(.int p7)]) (rest := [(.int 1)]) (rm3 l Z a0 hw [] p7 h0 n0 O0 ) (g := (mkF m 24 (l302_9 o1 o2) [(.int p7), (.int 1)])) rfl (by rw [hml]; rfl) rfl (hb hby d2_24) (lenOf pd2 rfl) (W := 1) (c1 := 0) (s1 := 0)
  have pre4 : Go p e below T1 (mkF m 24 (l302_9 o1 o2) [(.int p7), (.int 1)]) E0 := fun t k => by
   refine pre0 _ ?_
   refine st1 _ ?_
   refine yis X1 hx hby d2_4 (l' := #[.val (.ref o1), .val (.int 0), .val (.ref o2), .val (.int 2), .val (.int 1), .val (.int 1), .unset, .unset]) rfl ?_
   refine yin X1 hx hby d2_6 rfl ?_
   refine yis X1 hx hby d2_7 (l' := (l302_9 o1 o2)) rfl ?_
   refine yil X1 hx hby d2_9 rfl ?_
   refine yin X1 hx hby d2_11 rfl ?_
   refine yil X1 hx hby d2_12 rfl ?_
   refine yad X1 hx hby d2_14 ?_
   refine yno X1 hx hby d2_15 (tlt (by decide : (2 : Int32) < (3 : Int32))).2.1 ?_
   refine yil X1 hx hby d2_18 rfl ?_
   refine yan X1 hx hby d2_20 rfl rfl ?_
   refine yil X1 hx hby d2_21 rfl ?_
   refine X1.iaload hx (j := (2 : Int32)) (v := (.int p7)) (by rw [e1]; exact Ar2.1) (State.isArrayOf_alike hZ.alike Ar2.2.1) Ar2.2.2 hin2 hat2 (g := (mkF m 23 (l302_9 o1 o2) [(.int 2), (.ref o2), (.int 1)])) rfl rfl (hb hby d2_23) _ ?_
   exact k
  rcases hQ3 with ⟨hc5, rfl, Nq6, e7⟩ | ⟨hc8, hc9, rfl, Nq10, e11⟩ | ⟨hc12, hc13, rfl, Nq14, e15⟩
  ·
   have N3 := Fr.app N0 Nq6
   obtain ⟨_, T16, L16, X16, hQ16, st16⟩ := own_cs X3 hx hZ hown (y := yn3) (w_30 hw) (w_31 hw) (w_33 hw) (w_32 hw) e7 (argsL := [(.int 1), (.int 1)]) (rest := []) (rm4 l Z a0 hw [] ((1 : Int32)) ((1 : Int32)) h0 n0 O0 ) (g := (mkF m 27 (l302_9 o1 o2) [(.int 1), (.int 1)])) rfl (by rw [hml]; rfl) rfl (hb hby d2_27) (lenOf pd0 rfl) (W := 0) (c1 := 0) (s1 := 0)
   have pre17 : Go p e below T3 (mkF m 27 (l302_9 o1 o2) [(.int 1), (.int 1)]) E0 := fun t k => by
    refine pre4 _ ?_
    refine st3 _ ?_
    exact k
   rcases hQ16 with ⟨hc18, rfl, Nq19, e20⟩ | ⟨hc21, rfl, Nq22, e23⟩
   ·
    exact absurd hc18 (by decide : ¬ ((1 : Int32) < (1 : Int32)))
   ·
    have N16 := Fr.app N3 Nq22
    have pre24 : Go p e below T16 (mkF m 38 (l302_6 o1 o2) []) E0 := fun t k => by
     refine pre17 _ ?_
     refine st16 _ ?_
     refine yis X16 hx hby d2_30 (l' := (l302_9 o1 o2)) rfl ?_
     refine XS.iinc X16.here hx rfl (hb hby d2_32) rfl (l' := (l302_6 o1 o2)) rfl ?_
     refine ygo X16 hx hby 35 9 rfl d2_35 (by decide) ?_
     refine yil X16 hx hby d2_9 rfl ?_
     refine yin X16 hx hby d2_11 rfl ?_
     refine yil X16 hx hby d2_12 rfl ?_
     refine yad X16 hx hby d2_14 ?_
     refine yye X16 hx hby 15 38 rfl d2_15 (flt (by decide : ¬ ((3 : Int32) < (3 : Int32)))).2.1 (by decide) ?_
     exact k
    exact (Or.inl ⟨_, _, X16.more (by decide) (by decide), e23, N16, pre24, hc5⟩)
  ·
   have N3 := Fr.app N0 Nq10
   obtain ⟨_, T25, L25, X25, hQ25, st25⟩ := own_cs X3 hx hZ hown (y := yn3) (w_30 hw) (w_31 hw) (w_33 hw) (w_32 hw) e11 (argsL := [(.int 1), (.int 2)]) (rest := []) (rm4 l Z a0 hw [] ((1 : Int32)) ((2 : Int32)) h0 n0 O0 ) (g := (mkF m 27 (l302_9 o1 o2) [(.int 2), (.int 1)])) rfl (by rw [hml]; rfl) rfl (hb hby d2_27) (lenOf pd0 rfl) (W := 0) (c1 := 0) (s1 := 0)
   have pre26 : Go p e below T3 (mkF m 27 (l302_9 o1 o2) [(.int 2), (.int 1)]) E0 := fun t k => by
    refine pre4 _ ?_
    refine st3 _ ?_
    exact k
   rcases hQ25 with ⟨hc27, rfl, Nq28, e29⟩ | ⟨hc30, rfl, Nq31, e32⟩
   ·
    have N25 := Fr.app N3 Nq28
    have pre33 : Go p e below T25 (mkF m 38 (l302_7 o1 o2) []) E0 := fun t k => by
     refine pre26 _ ?_
     refine st25 _ ?_
     refine yis X25 hx hby d2_30 (l' := #[.val (.ref o1), .val (.int 0), .val (.ref o2), .val (.int 2), .val (.int 1), .val (.int 2), .val (.int 2), .unset]) rfl ?_
     refine XS.iinc X25.here hx rfl (hb hby d2_32) rfl (l' := (l302_7 o1 o2)) rfl ?_
     refine ygo X25 hx hby 35 9 rfl d2_35 (by decide) ?_
     refine yil X25 hx hby d2_9 rfl ?_
     refine yin X25 hx hby d2_11 rfl ?_
     refine yil X25 hx hby d2_12 rfl ?_
     refine yad X25 hx hby d2_14 ?_
     refine yye X25 hx hby 15 38 rfl d2_15 (flt (by decide : ¬ ((3 : Int32) < (3 : Int32)))).2.1 (by decide) ?_
     exact k
    exact (Or.inr (Or.inl ⟨_, _, X25.more (by decide) (by decide), e29, N25, pre33, hc9⟩))
   ·
    exact absurd (by decide : (1 : Int32) < (2 : Int32)) hc30
  ·
   have N3 := Fr.app N0 Nq14
   obtain ⟨_, T34, L34, X34, hQ34, st34⟩ := own_cs X3 hx hZ hown (y := yn3) (w_30 hw) (w_31 hw) (w_33 hw) (w_32 hw) e15 (argsL := [(.int 1), (.int 3)]) (rest := []) (rm4 l Z a0 hw [] ((1 : Int32)) ((3 : Int32)) h0 n0 O0 ) (g := (mkF m 27 (l302_9 o1 o2) [(.int 3), (.int 1)])) rfl (by rw [hml]; rfl) rfl (hb hby d2_27) (lenOf pd0 rfl) (W := 0) (c1 := 0) (s1 := 0)
   have pre35 : Go p e below T3 (mkF m 27 (l302_9 o1 o2) [(.int 3), (.int 1)]) E0 := fun t k => by
    refine pre4 _ ?_
    refine st3 _ ?_
    exact k
   rcases hQ34 with ⟨hc36, rfl, Nq37, e38⟩ | ⟨hc39, rfl, Nq40, e41⟩
   ·
    have N34 := Fr.app N3 Nq37
    have pre42 : Go p e below T34 (mkF m 38 (l302_8 o1 o2) []) E0 := fun t k => by
     refine pre35 _ ?_
     refine st34 _ ?_
     refine yis X34 hx hby d2_30 (l' := #[.val (.ref o1), .val (.int 0), .val (.ref o2), .val (.int 2), .val (.int 1), .val (.int 3), .val (.int 2), .unset]) rfl ?_
     refine XS.iinc X34.here hx rfl (hb hby d2_32) rfl (l' := (l302_8 o1 o2)) rfl ?_
     refine ygo X34 hx hby 35 9 rfl d2_35 (by decide) ?_
     refine yil X34 hx hby d2_9 rfl ?_
     refine yin X34 hx hby d2_11 rfl ?_
     refine yil X34 hx hby d2_12 rfl ?_
     refine yad X34 hx hby d2_14 ?_
     refine yye X34 hx hby 15 38 rfl d2_15 (flt (by decide : ¬ ((3 : Int32) < (3 : Int32)))).2.1 (by decide) ?_
     exact k
    exact (Or.inr (Or.inr ⟨_, _, X34.more (by decide) (by decide), e38, N34, pre42⟩))
   ·
    exact absurd (by decide : (1 : Int32) < (3 : Int32)) hc39
 rcases J0 with ⟨T43, lc43, X43, e43, N43, pre43, hc44⟩ | ⟨T45, lc45, X45, e45, N45, pre45, hc46⟩ | ⟨T47, lc47, X47, e47, N47, pre47⟩
 ·
  obtain ⟨T48, X48, e48, st48⟩ := yag X43 hx hZ hown hby (w_20 hw) e43 P3 40 (l302_6 o1 o2) [(.int 1)] d2_40 d2_41 rfl
  obtain ⟨T49, X49, e49, st49⟩ := yag X48 hx hZ hown hby (w_34 hw) e48 P2 53 (l302_6 o1 o2) [] d2_53 d2_54 rfl
  obtain ⟨T50, X50, e50, st50⟩ := yag X49 hx hZ hown hby (w_20 hw) e49 P3 60 (l302_6 o1 o2) [(.int 3)] d2_60 d2_61 rfl
  obtain ⟨T51, X51, e51, st51⟩ := yag X50 hx hZ hown hby (w_18 hw) e50 P1 69 (l302_6 o1 o2) [(.int 3)] d2_69 d2_70 rfl
  obtain ⟨cl52, Ar52, qa52, Sa52, Na52, Ha52, Ga52⟩ := id (P6)
  obtain ⟨T53, X53, e53, st53⟩ := yag X51 hx hZ hown hby (w_18 hw) e51 P1 78 (l302_6 o1 o2) [(.ref o1)] d2_78 d2_79 rfl
  obtain ⟨T54, X54, e54, st54⟩ := yag X53 hx hZ hown hby (w_18 hw) e53 P1 84 (l302_6 o1 o2) [(.int 3), (.ref o3), (.ref o1)] d2_84 d2_85 rfl
  obtain ⟨cl55, Ar55, qa55, Sa55, Na55, Ha55, Ga55⟩ := id (P6)
  obtain ⟨T56, X56, e56, st56⟩ := yag X54 hx hZ hown hby (w_18 hw) e54 P1 89 (l302_6 o1 o2) [(.int 2), (.int 3), (.ref o3), (.ref o1)] d2_89 d2_90 rfl
  obtain ⟨cl57, Ar57, qa57, Sa57, Na57, Ha57, Ga57⟩ := id (P6)
  obtain ⟨_, T58, L58, X58, hQ58, st58⟩ := own_cs X56 hx hZ hown (y := yn3) (w_30 hw) (w_31 hw) (w_33 hw) (w_32 hw) e56 (argsL := [(.int 3), (.int 3)]) (rest := [(.ref o3), (.ref o1)]) (rm4 l Z a0 hw [] ((3 : Int32)) ((3 : Int32)) h0 n0 O0 ) (g := (mkF m 97 (l302_6 o1 o2) [(.int 3), (.int 3), (.ref o3), (.ref o1)])) rfl (by rw [hml]; rfl) rfl (hb hby d2_97) (lenOf pd0 rfl) (W := 2) (c1 := 0) (s1 := 0)
  have pre59 : Go p e below T56 (mkF m 97 (l302_6 o1 o2) [(.int 3), (.int 3), (.ref o3), (.ref o1)]) E0 := fun t k => by
   refine pre43 _ ?_
   refine yil X43 hx hby d2_38 rfl ?_
   refine st48 _ ?_
   refine yye X48 hx hby 44 53 rfl d2_44 (flt (by decide : ¬ ((1 : Int32) < (1 : Int32)))).2.2.2 (by decide) ?_
   refine st49 _ ?_
   refine yil X49 hx hby d2_57 rfl ?_
   refine yad X49 hx hby d2_59 ?_
   refine st50 _ ?_
   refine XS.imul X50.here hx rfl (hb hby d2_64) rfl ?_
   refine yis X50 hx hby d2_65 (l' := (l302_6 o1 o2)) rfl ?_
   refine yil X50 hx hby d2_67 rfl ?_
   refine st51 _ ?_
   refine X51.arraylength hx (by rw [e51]; exact Ar52.1) (State.isArrayOf_alike hZ.alike Ar52.2.1) (g := (mkF m 73 (l302_6 o1 o2) [(.ref o3), (.int 3)])) rfl rfl (hb hby d2_73) _ ?_
   rw [len_of Sa52 Na52]
   refine yno X51 hx hby d2_74 (tlt (by decide : (2 : Int32) < (3 : Int32))).2.2.2 ?_
   refine yan X51 hx hby d2_77 rfl rfl ?_
   refine st53 _ ?_
   refine yil X53 hx hby d2_82 rfl ?_
   refine st54 _ ?_
   refine X54.arraylength hx (by rw [e54]; exact Ar55.1) (State.isArrayOf_alike hZ.alike Ar55.2.1) (g := (mkF m 88 (l302_6 o1 o2) [(.ref o3), (.int 3), (.ref o3), (.ref o1)])) rfl rfl (hb hby d2_88) _ ?_
   rw [len_of Sa55 Na55]
   refine st56 _ ?_
   refine X56.arraylength hx (by rw [e56]; exact Ar57.1) (State.isArrayOf_alike hZ.alike Ar57.2.1) (g := (mkF m 93 (l302_6 o1 o2) [(.ref o3), (.int 2), (.int 3), (.ref o3), (.ref o1)])) rfl rfl (hb hby d2_93) _ ?_
   rw [len_of Sa57 Na57]
   refine XS.iconst X56.here hx rfl (hb hby d2_94) ?_
   refine XS.idiv X56.here hx rfl (hb hby d2_95) rfl (by decide : ¬ ((2 : Int32) = (0 : Int32))) ?_
   refine yad X56 hx hby d2_96 ?_
   exact k
  rcases hQ58 with ⟨hc60, rfl, Nq61, e62⟩ | ⟨hc63, rfl, Nq64, e65⟩
  ·
   exact absurd hc60 (by decide : ¬ ((3 : Int32) < (3 : Int32)))
  ·
   have N58 := Fr.app N43 Nq64
   obtain ⟨_, T66, L66, X66, hQ66, st66⟩ := own_cs X58 hx hZ hown (y := yn5) (own_w hw 36 rfl) (w_37 hw) (own_w hw 39 rfl) (w_38 hw) e65 (argsL := [(.ref o3), (.int 3)]) (rest := [(.ref o1)]) (rm18 l Z a0 hw [] o3 kc8 p9 p10 h0 n0 O0 g_o3 P6) (g := (mkF m 100 (l302_6 o1 o2) [(.int 3), (.ref o3), (.ref o1)])) rfl (by rw [hml]; rfl) rfl (hb hby d2_100) (lenOf pd3 rfl) (W := 1) (c1 := 1) (s1 := 3)
   obtain ⟨b67, k68, rfl, Nq69, K70, sz_b67, f71, f72⟩ := hQ66
   have N66 := Fr.app N58 Nq69
   have g_b67 : n0 ≤ b67 := Nat.le_trans (own_oz O0) sz_b67
   have O66 := Old.keep O0 K70 all0
   have f73 := (P1.keep K70 nin0)
   have f74 := (P0.keep K70)
   obtain ⟨T75, h75, X75, e75, W75, st75⟩ := putF X66 hx hZ hown (host := "") (Or.inl (w_18 hw)) Via.refl rfl f73 f74 (Or.inl (w_19 hw)) (w_8 hw) (ty := (.array .byte)) (by decide) rfl rfl (g := (mkF m 103 (l302_6 o1 o2) [(.ref b67), (.ref o1)])) rfl rfl (hb hby d2_103)
   have N75 := Fr.snoc X75 N66 g_o1
   have Fw75 := f73.same W75
   have O75 := Old.wr O66 W75 g_o1
   obtain ⟨T76, X76, e76, st76⟩ := yag X75 hx hZ hown hby (w_18 hw) e75 Fw75 106 (l302_6 o1 o2) [] d2_106 d2_107 rfl
   have f77 := ((P3.keep K70 nin0).other W75 (Or.inr (slot_ne (Or.inl (w_21 hw)) (Or.inl (w_19 hw)) (by decide) (t := .int) (t' := (.array .byte)) (by decide) (by decide))))
   obtain ⟨T78, X78, e78, st78⟩ := yag X76 hx hZ hown hby (w_20 hw) e76 f77 111 (l302_6 o1 o2) [(.int 0), (.ref b67)] d2_111 d2_112 rfl
   obtain ⟨T79, X79, e79, st79⟩ := yag X78 hx hZ hown hby (w_18 hw) e78 Fw75 116 (l302_6 o1 o2) [(.int 0), (.ref b67)] d2_116 d2_117 rfl
   obtain ⟨T80, X80, e80, st80⟩ := yag X79 hx hZ hown hby (w_20 hw) e79 f77 124 (l302_6 o1 o2) [(.int 1), (.ref b67), (.int 0), (.ref b67)] d2_124 d2_125 rfl
   have f81 := ((P2.keep K70 nin0).other W75 (Or.inr (slot_ne (Or.inl (w_35 hw)) (Or.inl (w_19 hw)) (by decide) (t := .int) (t' := (.array .byte)) (by decide) (by decide))))
   obtain ⟨T82, X82, e82, st82⟩ := yag X80 hx hZ hown hby (w_34 hw) e80 f81 129 (l302_6 o1 o2) [(.int 1), (.ref b67), (.int 0), (.ref b67)] d2_129 d2_130 rfl
   obtain ⟨T83, X83, e83, st83⟩ := yag X82 hx hZ hown hby (w_20 hw) e82 f77 135 (l302_6 o1 o2) [(.int 2), (.int 1), (.ref b67), (.int 0), (.ref b67)] d2_135 d2_136 rfl
   have lt84 : o1 < h0.size := P0.lt
   have ne85 : o1 ≠ b67 := Nat.ne_of_lt (Nat.lt_of_lt_of_le lt84 sz_b67)
   have f86 := (f71.other W75 (Ne.symm ne85))
   obtain ⟨T87, h87, L87, X87, e87, N87, K87, VV87, st87⟩ := cpA X83 hx hZ hown (own_w hw 48 rfl) (w_47 hw) (w_45 hw) (w_46 hw) e83 (us := [(.int p9), (.int p10)]) f86 f86 (Or.inl ⟨rfl, rfl⟩) (by decide) (by decide) (by decide) (by decide) (by decide) rfl (by first | decide | exact (by decide : 1 + 2 ≤ 3)) N75 g_b67 (g := (mkF m 140 (l302_6 o1 o2) [(.int 2), (.int 1), (.ref b67), (.int 0), (.ref b67)])) rfl (by rw [hml]; rfl) rfl (hb hby d2_140) (by decide) (W := 0) (by show 2 * 0 + _ ≤ _; exact Nat.le_of_eq rfl) (by decide)
   have V87 : Arv Z h87 b67 k68 .byte (3 : Int32) [(.int p9), (.int p9), (.int p10)] (.int 0) := VV87
   have O87 := Old.keep O75 K87 (allS g_b67 all0)
   have f88 := (f81.keep K87 (ninS ne85 nin0))
   obtain ⟨T89, X89, e89, st89⟩ := yg X87 hx hZ hown hby (w_34 hw) e87 f88 145 (l302_6 o1 o2) [(.ref o1)] d2_145
   have f90 := ((f74.wr W75).keep K87)
   obtain ⟨T91, h91, X91, e91, W91, st91⟩ := putF X89 hx hZ hown (host := "") (Or.inl (w_34 hw)) Via.refl e89 f88 f90 (Or.inl (w_35 hw)) (w_8 hw) (ty := .int) (by decide) rfl rfl (g := (mkF m 151 (l302_6 o1 o2) [(.int 3), (.ref o1)])) rfl rfl (hb hby d2_151)
   have N91 := Fr.snoc X91 N87 g_o1
   have Fw91 := f88.same W91
   have O91 := Old.wr O87 W91 g_o1
   have f92 := ((((P5.keep K70).wr W75).keep K87).wr W91)
   have f93 := (f90.wr W91)
   have ne94 : o2 ≠ o1 := ne_exa f92 f93 (by decide)
   have lt95 : o2 < h0.size := P4.lt
   have ne96 : o2 ≠ b67 := Nat.ne_of_lt (Nat.lt_of_lt_of_le lt95 sz_b67)
   have f97 := ((((P4.keep K70 nin0).other W75 ne94).keep K87 (ninS ne96 nin0)).other W91 ne94)
   obtain ⟨cl98, Ar98, qa98, Sa98, Na98, Ha98, Ga98⟩ := id (f97)
   have hin98 := inb_of (j := (2 : Int32)) Sa98 ⟨by decide, by decide⟩
   have hat98 : cl98.slots[((2 : Int32)).toNatClampNeg]? = some (.int p7) := Has.at Ha98 hin98 rfl
   have f99 := ((Fw75.keep K87 (ninS ne85 nin0)).other W91 (Or.inr (slot_ne (Or.inl (w_19 hw)) (Or.inl (w_35 hw)) (by decide) (t := (.array .byte)) (t' := .int) (by decide) (by decide))))
   have f100 := ((f77.keep K87 (ninS ne85 nin0)).other W91 (Or.inr (slot_ne (Or.inl (w_21 hw)) (Or.inl (w_35 hw)) (by decide) (t := .int) (t' := .int) (by decide) (by decide))))
   have f101 := (V87.other W91 (Ne.symm ne85))
   have f102 := (((f72.wr W75).keep K87).wr W91)
   obtain ⟨_, T103, L103, X103, hQ103, st103⟩ := own_pb X91 hx hZ hown (y := yn6) (w_49 hw) (w_50 hw) (own_selp (mvT hZ (w_25 hw)) rfl (Cond.privateMethod_at (mvP hZ (w_51 hw) (args := #[]))) (mvT hZ (w_50 hw)) (by decide)) (w_51 hw) (own_w hw 52 rfl) (w_9 hw) e91 f93 (argsL := [(.int 0), (.int p7)]) (rest := []) (rm19 l Z a0 hw [] o1 b67 k68 p9 p9 p10 p7 h91 n0 O91 g_o1 g_b67 f99 f100 f101 f102) (g := (mkF m 175 (l302_0 o1 o2) [(.int p7), (.int 0), (.ref o1)])) rfl (by rw [hml]; rfl) rfl (hb hby d2_175) (lenOf pd4 rfl) (W := 0) (c1 := 1) (s1 := 3)
   obtain ⟨rfl, Nq104, K105, f106, f107⟩ := hQ103
   have N103 := Fr.app N91 Nq104
   obtain ⟨fs, hr, hrun, hended, hW, hsame⟩ := X103.leave (v := none) (fun _ => rfl)
   have KL : Keep h0 T103.heap [o1] := ((((((Keep.refl h0 [o1]).trans K70 all0).wr W75 (Or.inl (List.mem_of_getElem? (i := 0) rfl))).trans K87 (allS (Or.inr (Nat.le_trans (Nat.le_refl _) sz_b67)) all0)).wr W91 (Or.inl (List.mem_of_getElem? (i := 0) rfl))).trans K105 (allS (Or.inr (Nat.le_trans (Nat.le_refl _) sz_b67)) all0))
   have f108 := (f93.keep K105)
   have f109 := (f99.keep K105 (ninS ne85 nin0))
   have f110 := (Fw91.keep K105 (ninS ne85 nin0))
   have f111 := (f100.keep K105 (ninS ne85 nin0))
   refine ⟨_, _, pre59 _ ?_, hrun, hended, _, _, rfl, ?_, ⟨_, rfl⟩, hW, hsame.mono (by decide) (by decide)⟩
   ·
    refine st58 _ ?_
    refine st66 _ ?_
    refine st75 _ ?_
    refine st76 _ ?_
    refine yin X76 hx hby d2_110 rfl ?_
    refine st78 _ ?_
    refine XS.imul X78.here hx rfl (hb hby d2_115) rfl ?_
    show Steps p.tables e below (T78.setTop (mkF m 116 (l302_6 o1 o2) [(.int 0), (.ref b67)])) _
    refine st79 _ ?_
    refine yin X79 hx hby d2_120 rfl ?_
    refine yil X79 hx hby d2_121 rfl ?_
    refine yad X79 hx hby d2_123 ?_
    refine st80 _ ?_
    refine XS.imul X80.here hx rfl (hb hby d2_128) rfl ?_
    refine st82 _ ?_
    refine yin X82 hx hby d2_133 rfl ?_
    refine ysu X82 hx hby d2_134 ?_
    refine st83 _ ?_
    refine XS.imul X83.here hx rfl (hb hby d2_139) rfl ?_
    refine st87 _ ?_
    refine yan X87 hx hby d2_143 rfl rfl ?_
    refine XS.dup X87.here hx rfl (hb hby d2_144) rfl rfl ?_
    refine st89 _ ?_
    refine yil X89 hx hby d2_148 rfl ?_
    refine yad X89 hx hby d2_150 ?_
    refine st91 _ ?_
    refine XS.iconst X91.here hx rfl (hb hby d2_154) ?_
    refine yis X91 hx hby d2_155 (l' := (l302_0 o1 o2)) rfl ?_
    refine yil X91 hx hby d2_157 rfl ?_
    refine yil X91 hx hby d2_159 rfl ?_
    refine yno X91 hx hby d2_161 (tlt (by decide : (0 : Int32) < (1 : Int32))).2.1 ?_
    refine yan X91 hx hby d2_164 rfl rfl ?_
    refine yin X91 hx hby d2_165 rfl ?_
    refine yil X91 hx hby d2_166 rfl ?_
    refine yad X91 hx hby d2_168 ?_
    refine yan X91 hx hby d2_169 rfl rfl ?_
    refine yin X91 hx hby d2_170 rfl ?_
    refine yil X91 hx hby d2_171 rfl ?_
    refine yad X91 hx hby d2_173 ?_
    refine X91.iaload hx (j := (2 : Int32)) (v := (.int p7)) (by rw [e91]; exact Ar98.1) (State.isArrayOf_alike hZ.alike Ar98.2.1) Ar98.2.2 hin98 hat98 (g := (mkF m 174 (l302_0 o1 o2) [(.int 2), (.ref o2), (.int 0), (.ref o1)])) rfl rfl (hb hby d2_174) _ ?_
    refine st103 _ ?_
    refine XS.iinc X103.here hx rfl (hb hby d2_178) rfl (l' := (l302_1 o1 o2)) rfl ?_
    refine ygo X103 hx hby 181 157 rfl d2_181 (by decide) ?_
    refine yil X103 hx hby d2_157 rfl ?_
    refine yil X103 hx hby d2_159 rfl ?_
    show Steps p.tables e below (T103.setTop (mkF m 161 (l302_1 o1 o2) [(.int 1), (.int 1)])) _
    refine yye X103 hx hby 161 184 rfl d2_161 (flt (by decide : ¬ ((1 : Int32) < (1 : Int32)))).2.1 (by decide) ?_
    show Steps p.tables e below (T103.setTop (mkF m 184 (l302_1 o1 o2) [])) _
    exact X103.returnOut hx hret (hb hby d2_184) hr
   ·
    show Q28 Z w1 kw1 o1 o2 o3 kc4 p5 p6 p7 kc8 p9 p10 h0 n0 _ T103.heap _
    exact (Or.inl ⟨b67, k68, hc44, rfl, N103, KL, (Nat.le_trans (Nat.le_refl _) sz_b67), f108, f109, f110, f111, f106, f107⟩)
 ·
  obtain ⟨T112, X112, e112, st112⟩ := yag X45 hx hZ hown hby (w_20 hw) e45 P3 40 (l302_7 o1 o2) [(.int 2)] d2_40 d2_41 rfl
  obtain ⟨_, T113, L113, X113, hQ113, st113⟩ := own_pb X112 hx hZ hown (y := yn7) (own_w hw 65 rfl) (own_w hw 66 rfl) (own_selp (mvT hZ (w_25 hw)) rfl (Cond.privateMethod_at (mvP hZ (own_w hw 67 rfl) (args := #[]))) (mvT hZ (own_w hw 66 rfl)) (by decide)) (own_w hw 67 rfl) (own_w hw 68 rfl) (w_9 hw) e112 P0 (argsL := [(.int 2)]) (rest := []) (rm22 l Z a0 hw w1 kw1 G [] o1 o3 kc8 p9 p10 h0 n0 O0 g_o1 g_o3 P0 P1 P2 P3 P6 P7) (g := (mkF m 50 (l302_7 o1 o2) [(.int 2), (.ref o1)])) rfl (by rw [hml]; rfl) rfl (hb hby d2_50) (lenOf pd5 rfl) (W := 0) (c1 := 2) (s1 := 7)
  obtain ⟨b114, k115, rfl, Nq116, K117, sz_b114, f118, f119, f120, f121, f122, f123⟩ := hQ113
  have N113 := Fr.app N45 Nq116
  have g_b114 : n0 ≤ b114 := Nat.le_trans (own_oz O0) sz_b114
  have M113 : h0.size ≤ T113.heap.size := Nat.le_trans (Nat.le_refl _) K117.1
  have O113 := Old.keep O0 K117 (allS g_o1 all0)
  obtain ⟨T124, X124, e124, st124⟩ := yag X113 hx hZ hown hby (w_34 hw) rfl f120 53 (l302_7 o1 o2) [] d2_53 d2_54 rfl
  obtain ⟨T125, X125, e125, st125⟩ := yag X124 hx hZ hown hby (w_20 hw) e124 f121 60 (l302_7 o1 o2) [(.int 3)] d2_60 d2_61 rfl
  obtain ⟨T126, X126, e126, st126⟩ := yag X125 hx hZ hown hby (w_18 hw) e125 f119 69 (l302_10 o1 o2) [(.int 6)] d2_69 d2_70 rfl
  obtain ⟨cl127, Ar127, qa127, Sa127, Na127, Ha127, Ga127⟩ := id (f122)
  obtain ⟨T128, X128, e128, st128⟩ := yag X126 hx hZ hown hby (w_18 hw) e126 f119 78 (l302_10 o1 o2) [(.ref o1)] d2_78 d2_79 rfl
  obtain ⟨T129, X129, e129, st129⟩ := yag X128 hx hZ hown hby (w_18 hw) e128 f119 84 (l302_10 o1 o2) [(.int 6), (.ref b114), (.ref o1)] d2_84 d2_85 rfl
  obtain ⟨cl130, Ar130, qa130, Sa130, Na130, Ha130, Ga130⟩ := id (f122)
  obtain ⟨T131, X131, e131, st131⟩ := yag X129 hx hZ hown hby (w_18 hw) e129 f119 89 (l302_10 o1 o2) [(.int 4), (.int 6), (.ref b114), (.ref o1)] d2_89 d2_90 rfl
  obtain ⟨cl132, Ar132, qa132, Sa132, Na132, Ha132, Ga132⟩ := id (f122)
  obtain ⟨_, T133, L133, X133, hQ133, st133⟩ := own_cs X131 hx hZ hown (y := yn3) (w_30 hw) (w_31 hw) (w_33 hw) (w_32 hw) e131 (argsL := [(.int 6), (.int 6)]) (rest := [(.ref b114), (.ref o1)]) (rm4 l Z a0 hw [] ((6 : Int32)) ((6 : Int32)) T113.heap n0 O113 ) (g := (mkF m 97 (l302_10 o1 o2) [(.int 6), (.int 6), (.ref b114), (.ref o1)])) rfl (by rw [hml]; rfl) rfl (hb hby d2_97) (lenOf pd0 rfl) (W := 2) (c1 := 2) (s1 := 7)
  have pre134 : Go p e below T131 (mkF m 97 (l302_10 o1 o2) [(.int 6), (.int 6), (.ref b114), (.ref o1)]) E0 := fun t k => by
   refine pre45 _ ?_
   refine yil X45 hx hby d2_38 rfl ?_
   refine st112 _ ?_
   refine yno X112 hx hby d2_44 (tlt (by decide : (1 : Int32) < (2 : Int32))).2.2.2 ?_
   refine yan X112 hx hby d2_47 rfl rfl ?_
   refine yil X112 hx hby d2_48 rfl ?_
   refine st113 _ ?_
   refine st124 _ ?_
   refine yil X124 hx hby d2_57 rfl ?_
   refine yad X124 hx hby d2_59 ?_
   refine st125 _ ?_
   refine XS.imul X125.here hx rfl (hb hby d2_64) rfl ?_
   refine yis X125 hx hby d2_65 (l' := (l302_10 o1 o2)) rfl ?_
   refine yil X125 hx hby d2_67 rfl ?_
   refine st126 _ ?_
   refine X126.arraylength hx (by rw [e126]; exact Ar127.1) (State.isArrayOf_alike hZ.alike Ar127.2.1) (g := (mkF m 73 (l302_10 o1 o2) [(.ref b114), (.int 6)])) rfl rfl (hb hby d2_73) _ ?_
   rw [len_of Sa127 Na127]
   refine yno X126 hx hby d2_74 (tlt (by decide : (4 : Int32) < (6 : Int32))).2.2.2 ?_
   refine yan X126 hx hby d2_77 rfl rfl ?_
   refine st128 _ ?_
   refine yil X128 hx hby d2_82 rfl ?_
   refine st129 _ ?_
   refine X129.arraylength hx (by rw [e129]; exact Ar130.1) (State.isArrayOf_alike hZ.alike Ar130.2.1) (g := (mkF m 88 (l302_10 o1 o2) [(.ref b114), (.int 6), (.ref b114), (.ref o1)])) rfl rfl (hb hby d2_88) _ ?_
   rw [len_of Sa130 Na130]
   refine st131 _ ?_
   refine X131.arraylength hx (by rw [e131]; exact Ar132.1) (State.isArrayOf_alike hZ.alike Ar132.2.1) (g := (mkF m 93 (l302_10 o1 o2) [(.ref b114), (.int 4), (.int 6), (.ref b114), (.ref o1)])) rfl rfl (hb hby d2_93) _ ?_
   rw [len_of Sa132 Na132]
   refine XS.iconst X131.here hx rfl (hb hby d2_94) ?_
   refine XS.idiv X131.here hx rfl (hb hby d2_95) rfl (by decide : ¬ ((2 : Int32) = (0 : Int32))) ?_
   refine yad X131 hx hby d2_96 ?_
   exact k
  rcases hQ133 with ⟨hc135, rfl, Nq136, e137⟩ | ⟨hc138, rfl, Nq139, e140⟩
  ·
   exact absurd hc135 (by decide : ¬ ((6 : Int32) < (6 : Int32)))
  ·
   have N133 := Fr.app N113 Nq139
   obtain ⟨_, T141, L141, X141, hQ141, st141⟩ := own_cs X133 hx hZ hown (y := yn5) (own_w hw 36 rfl) (w_37 hw) (own_w hw 39 rfl) (w_38 hw) e140 (argsL := [(.ref b114), (.int 6)]) (rest := [(.ref o1)]) (rm23 l Z a0 hw [] b114 k115 (((((p9 &&& (255 : Int32)).toUInt32 >>> ((8 : Int32) &&& 31).toUInt32).toInt32).toInt8.toInt32)) (((p9 &&& (255 : Int32)).toInt8.toInt32)) (((((p10 &&& (255 : Int32)).toUInt32 >>> ((8 : Int32) &&& 31).toUInt32).toInt32).toInt8.toInt32)) (((p10 &&& (255 : Int32)).toInt8.toInt32)) T113.heap n0 O113 g_b114 f122) (g := (mkF m 100 (l302_10 o1 o2) [(.int 6), (.ref b114), (.ref o1)])) rfl (by rw [hml]; rfl) rfl (hb hby d2_100) (lenOf pd3 rfl) (W := 1) (c1 := 3) (s1 := 13)
   obtain ⟨b142, k143, rfl, Nq144, K145, sz_b142, f146, f147⟩ := hQ141
   have N141 := Fr.app N133 Nq144
   have g_b142 : n0 ≤ b142 := Nat.le_trans (own_oz O113) sz_b142
   have O141 := Old.keep O113 K145 all0
   have f148 := (f119.keep K145 nin0)
   have f149 := (f118.keep K145)
   obtain ⟨T150, h150, X150, e150, W150, st150⟩ := putF X141 hx hZ hown (host := "") (Or.inl (w_18 hw)) Via.refl rfl f148 f149 (Or.inl (w_19 hw)) (w_8 hw) (ty := (.array .byte)) (by decide) rfl rfl (g := (mkF m 103 (l302_10 o1 o2) [(.ref b142), (.ref o1)])) rfl rfl (hb hby d2_103)
   have N150 := Fr.snoc X150 N141 g_o1
   have Fw150 := f148.same W150
   have O150 := Old.wr O141 W150 g_o1
   obtain ⟨T151, X151, e151, st151⟩ := yag X150 hx hZ hown hby (w_18 hw) e150 Fw150 106 (l302_10 o1 o2) [] d2_106 d2_107 rfl
   have f152 := ((f121.keep K145 nin0).other W150 (Or.inr (slot_ne (Or.inl (w_21 hw)) (Or.inl (w_19 hw)) (by decide) (t := .int) (t' := (.array .byte)) (by decide) (by decide))))
   obtain ⟨T153, X153, e153, st153⟩ := yag X151 hx hZ hown hby (w_20 hw) e151 f152 111 (l302_10 o1 o2) [(.int 0), (.ref b142)] d2_111 d2_112 rfl
   obtain ⟨T154, X154, e154, st154⟩ := yag X153 hx hZ hown hby (w_18 hw) e153 Fw150 116 (l302_10 o1 o2) [(.int 0), (.ref b142)] d2_116 d2_117 rfl
   obtain ⟨T155, X155, e155, st155⟩ := yag X154 hx hZ hown hby (w_20 hw) e154 f152 124 (l302_10 o1 o2) [(.int 1), (.ref b142), (.int 0), (.ref b142)] d2_124 d2_125 rfl
   have f156 := ((f120.keep K145 nin0).other W150 (Or.inr (slot_ne (Or.inl (w_35 hw)) (Or.inl (w_19 hw)) (by decide) (t := .int) (t' := (.array .byte)) (by decide) (by decide))))
   obtain ⟨T157, X157, e157, st157⟩ := yag X155 hx hZ hown hby (w_34 hw) e155 f156 129 (l302_10 o1 o2) [(.int 2), (.ref b142), (.int 0), (.ref b142)] d2_129 d2_130 rfl
   obtain ⟨T158, X158, e158, st158⟩ := yag X157 hx hZ hown hby (w_20 hw) e157 f152 135 (l302_10 o1 o2) [(.int 2), (.int 2), (.ref b142), (.int 0), (.ref b142)] d2_135 d2_136 rfl
   have lt159 : o1 < T113.heap.size := (Nat.lt_of_lt_of_le P0.lt K117.1)
   have ne160 : o1 ≠ b142 := Nat.ne_of_lt (Nat.lt_of_lt_of_le lt159 sz_b142)
   have f161 := (f146.other W150 (Ne.symm ne160))
   obtain ⟨T162, h162, L162, X162, e162, N162, K162, VV162, st162⟩ := cpA X158 hx hZ hown (own_w hw 48 rfl) (w_47 hw) (w_45 hw) (w_46 hw) e158 (us := [(.int ((((p9 &&& (255 : Int32)).toUInt32 >>> ((8 : Int32) &&& 31).toUInt32).toInt32).toInt8.toInt32)), (.int ((p9 &&& (255 : Int32)).toInt8.toInt32)), (.int ((((p10 &&& (255 : Int32)).toUInt32 >>> ((8 : Int32) &&& 31).toUInt32).toInt32).toInt8.toInt32)), (.int ((p10 &&& (255 : Int32)).toInt8.toInt32))]) f161 f161 (Or.inl ⟨rfl, rfl⟩) (by decide) (by decide) (by decide) (by decide) (by decide) rfl (by first | decide | exact (by decide : 2 + 4 ≤ 6)) N150 g_b142 (g := (mkF m 140 (l302_10 o1 o2) [(.int 4), (.int 2), (.ref b142), (.int 0), (.ref b142)])) rfl (by rw [hml]; rfl) rfl (hb hby d2_140) (by decide) (W := 0) (by show 2 * 0 + _ ≤ _; exact Nat.le_of_eq rfl) (by decide)
   have V162 : Arv Z h162 b142 k143 .byte (6 : Int32) [(.int ((((p9 &&& (255 : Int32)).toUInt32 >>> ((8 : Int32) &&& 31).toUInt32).toInt32).toInt8.toInt32)), (.int ((p9 &&& (255 : Int32)).toInt8.toInt32)), (.int ((((p9 &&& (255 : Int32)).toUInt32 >>> ((8 : Int32) &&& 31).toUInt32).toInt32).toInt8.toInt32)), (.int ((p9 &&& (255 : Int32)).toInt8.toInt32)), (.int ((((p10 &&& (255 : Int32)).toUInt32 >>> ((8 : Int32) &&& 31).toUInt32).toInt32).toInt8.toInt32)), (.int ((p10 &&& (255 : Int32)).toInt8.toInt32))] (.int 0) := VV162
   have O162 := Old.keep O150 K162 (allS g_b142 all0)
   have f163 := (f156.keep K162 (ninS ne160 nin0))
   obtain ⟨T164, X164, e164, st164⟩ := yg X162 hx hZ hown hby (w_34 hw) e162 f163 145 (l302_10 o1 o2) [(.ref o1)] d2_145
   have f165 := ((f149.wr W150).keep K162)
   obtain ⟨T166, h166, X166, e166, W166, st166⟩ := putF X164 hx hZ hown (host := "") (Or.inl (w_34 hw)) Via.refl e164 f163 f165 (Or.inl (w_35 hw)) (w_8 hw) (ty := .int) (by decide) rfl rfl (g := (mkF m 151 (l302_10 o1 o2) [(.int 3), (.ref o1)])) rfl rfl (hb hby d2_151)
   have N166 := Fr.snoc X166 N162 g_o1
   have Fw166 := f163.same W166
   have O166 := Old.wr O162 W166 g_o1
   have f167 := (((((P5.keep K117).keep K145).wr W150).keep K162).wr W166)
   have f168 := (f165.wr W166)
   have ne169 : o2 ≠ o1 := ne_exa f167 f168 (by decide)
   have lt170 : o2 < T113.heap.size := (Nat.lt_of_lt_of_le P4.lt K117.1)
   have ne171 : o2 ≠ b142 := Nat.ne_of_lt (Nat.lt_of_lt_of_le lt170 sz_b142)
   have f172 := (((((P4.keep K117 (ninS ne169 nin0)).keep K145 nin0).other W150 ne169).keep K162 (ninS ne171 nin0)).other W166 ne169)
   obtain ⟨cl173, Ar173, qa173, Sa173, Na173, Ha173, Ga173⟩ := id (f172)
   have hin173 := inb_of (j := (2 : Int32)) Sa173 ⟨by decide, by decide⟩
   have hat173 : cl173.slots[((2 : Int32)).toNatClampNeg]? = some (.int p7) := Has.at Ha173 hin173 rfl
   have f174 := ((Fw150.keep K162 (ninS ne160 nin0)).other W166 (Or.inr (slot_ne (Or.inl (w_19 hw)) (Or.inl (w_35 hw)) (by decide) (t := (.array .byte)) (t' := .int) (by decide) (by decide))))
   have f175 := ((f152.keep K162 (ninS ne160 nin0)).other W166 (Or.inr (slot_ne (Or.inl (w_21 hw)) (Or.inl (w_35 hw)) (by decide) (t := .int) (t' := .int) (by decide) (by decide))))
   have f176 := (V162.other W166 (Ne.symm ne160))
   have f177 := (((f147.wr W150).keep K162).wr W166)
   obtain ⟨_, T178, L178, X178, hQ178, st178⟩ := own_pb X166 hx hZ hown (y := yn6) (w_49 hw) (w_50 hw) (own_selp (mvT hZ (w_25 hw)) rfl (Cond.privateMethod_at (mvP hZ (w_51 hw) (args := #[]))) (mvT hZ (w_50 hw)) (by decide)) (w_51 hw) (own_w hw 52 rfl) (w_9 hw) e166 f168 (argsL := [(.int 0), (.int p7)]) (rest := []) (rm24 l Z a0 hw [] o1 b142 k143 (((((p9 &&& (255 : Int32)).toUInt32 >>> ((8 : Int32) &&& 31).toUInt32).toInt32).toInt8.toInt32)) (((p9 &&& (255 : Int32)).toInt8.toInt32)) (((((p9 &&& (255 : Int32)).toUInt32 >>> ((8 : Int32) &&& 31).toUInt32).toInt32).toInt8.toInt32)) (((p9 &&& (255 : Int32)).toInt8.toInt32)) (((((p10 &&& (255 : Int32)).toUInt32 >>> ((8 : Int32) &&& 31).toUInt32).toInt32).toInt8.toInt32)) (((p10 &&& (255 : Int32)).toInt8.toInt32)) p7 h166 n0 O166 g_o1 g_b142 f168 f174 f175 f176 f177) (g := (mkF m 175 (l302_2 o1 o2) [(.int p7), (.int 0), (.ref o1)])) rfl (by rw [hml]; rfl) rfl (hb hby d2_175) (lenOf pd4 rfl) (W := 0) (c1 := 3) (s1 := 13)
   obtain ⟨rfl, Nq179, K180, f181, f182⟩ := hQ178
   have N178 := Fr.app N166 Nq179
   obtain ⟨fs, hr, hrun, hended, hW, hsame⟩ := X178.leave (v := none) (fun _ => rfl)
   have KL : Keep h0 T178.heap [o1] := (((((((Keep.refl h0 [o1]).trans K117 (allS (Or.inl (List.mem_of_getElem? (i := 0) rfl)) all0)).trans K145 all0).wr W150 (Or.inl (List.mem_of_getElem? (i := 0) rfl))).trans K162 (allS (Or.inr (Nat.le_trans M113 sz_b142)) all0)).wr W166 (Or.inl (List.mem_of_getElem? (i := 0) rfl))).trans K180 (allS (Or.inr (Nat.le_trans M113 sz_b142)) all0))
   have f183 := (f168.keep K180)
   have f184 := (f174.keep K180 (ninS ne160 nin0))
   have f185 := (Fw166.keep K180 (ninS ne160 nin0))
   have f186 := (f175.keep K180 (ninS ne160 nin0))
   refine ⟨_, _, pre134 _ ?_, hrun, hended, _, _, rfl, ?_, ⟨_, rfl⟩, hW, hsame.mono (by decide) (by decide)⟩
   ·
    refine st133 _ ?_
    refine st141 _ ?_
    refine st150 _ ?_
    refine st151 _ ?_
    refine yin X151 hx hby d2_110 rfl ?_
    show Steps p.tables e below (T151.setTop (mkF m 111 (l302_10 o1 o2) [(.int 0), (.ref b142)])) _
    refine st153 _ ?_
    refine XS.imul X153.here hx rfl (hb hby d2_115) rfl ?_
    refine st154 _ ?_
    refine yin X154 hx hby d2_120 rfl ?_
    refine yil X154 hx hby d2_121 rfl ?_
    refine yad X154 hx hby d2_123 ?_
    refine st155 _ ?_
    refine XS.imul X155.here hx rfl (hb hby d2_128) rfl ?_
    refine st157 _ ?_
    refine yin X157 hx hby d2_133 rfl ?_
    refine ysu X157 hx hby d2_134 ?_
    refine st158 _ ?_
    refine XS.imul X158.here hx rfl (hb hby d2_139) rfl ?_
    refine st162 _ ?_
    refine yan X162 hx hby d2_143 rfl rfl ?_
    refine XS.dup X162.here hx rfl (hb hby d2_144) rfl rfl ?_
    refine st164 _ ?_
    refine yil X164 hx hby d2_148 rfl ?_
    refine yad X164 hx hby d2_150 ?_
    refine st166 _ ?_
    refine XS.iconst X166.here hx rfl (hb hby d2_154) ?_
    refine yis X166 hx hby d2_155 (l' := (l302_2 o1 o2)) rfl ?_
    refine yil X166 hx hby d2_157 rfl ?_
    refine yil X166 hx hby d2_159 rfl ?_
    refine yno X166 hx hby d2_161 (tlt (by decide : (0 : Int32) < (1 : Int32))).2.1 ?_
    refine yan X166 hx hby d2_164 rfl rfl ?_
    refine yin X166 hx hby d2_165 rfl ?_
    refine yil X166 hx hby d2_166 rfl ?_
    refine yad X166 hx hby d2_168 ?_
    refine yan X166 hx hby d2_169 rfl rfl ?_
    refine yin X166 hx hby d2_170 rfl ?_
    refine yil X166 hx hby d2_171 rfl ?_
    refine yad X166 hx hby d2_173 ?_
    refine X166.iaload hx (j := (2 : Int32)) (v := (.int p7)) (by rw [e166]; exact Ar173.1) (State.isArrayOf_alike hZ.alike Ar173.2.1) Ar173.2.2 hin173 hat173 (g := (mkF m 174 (l302_2 o1 o2) [(.int 2), (.ref o2), (.int 0), (.ref o1)])) rfl rfl (hb hby d2_174) _ ?_
    refine st178 _ ?_
    refine XS.iinc X178.here hx rfl (hb hby d2_178) rfl (l' := (l302_3 o1 o2)) rfl ?_
    show Steps p.tables e below (T178.setTop (mkF m 181 (l302_3 o1 o2) [])) _
    refine ygo X178 hx hby 181 157 rfl d2_181 (by decide) ?_
    refine yil X178 hx hby d2_157 rfl ?_
    refine yil X178 hx hby d2_159 rfl ?_
    refine yye X178 hx hby 161 184 rfl d2_161 (flt (by decide : ¬ ((1 : Int32) < (1 : Int32)))).2.1 (by decide) ?_
    show Steps p.tables e below (T178.setTop (mkF m 184 (l302_3 o1 o2) [])) _
    exact X178.returnOut hx hret (hb hby d2_184) hr
   ·
    show Q28 Z w1 kw1 o1 o2 o3 kc4 p5 p6 p7 kc8 p9 p10 h0 n0 _ T178.heap _
    exact (Or.inr (Or.inl ⟨b142, k143, hc46, rfl, N178, KL, (Nat.le_trans M113 sz_b142), f183, f184, f185, f186, f181, f182⟩))
 ·
  obtain ⟨T187, X187, e187, st187⟩ := yag X47 hx hZ hown hby (w_20 hw) e47 P3 40 (l302_8 o1 o2) [(.int 3)] d2_40 d2_41 rfl
  obtain ⟨_, T188, L188, X188, hQ188, st188⟩ := own_pb X187 hx hZ hown (y := yn7) (own_w hw 65 rfl) (own_w hw 66 rfl) (own_selp (mvT hZ (w_25 hw)) rfl (Cond.privateMethod_at (mvP hZ (own_w hw 67 rfl) (args := #[]))) (mvT hZ (own_w hw 66 rfl)) (by decide)) (own_w hw 67 rfl) (own_w hw 68 rfl) (w_9 hw) e187 P0 (argsL := [(.int 3)]) (rest := []) (rm25 l Z a0 hw w1 kw1 G [] o1 o3 kc8 p9 p10 h0 n0 O0 g_o1 g_o3 P0 P1 P2 P3 P6 P7) (g := (mkF m 50 (l302_8 o1 o2) [(.int 3), (.ref o1)])) rfl (by rw [hml]; rfl) rfl (hb hby d2_50) (lenOf pd5 rfl) (W := 0) (c1 := 2) (s1 := 9)
  obtain ⟨b189, k190, rfl, Nq191, K192, sz_b189, f193, f194, f195, f196, f197, f198⟩ := hQ188
  have N188 := Fr.app N47 Nq191
  have g_b189 : n0 ≤ b189 := Nat.le_trans (own_oz O0) sz_b189
  have M188 : h0.size ≤ T188.heap.size := Nat.le_trans (Nat.le_refl _) K192.1
  have O188 := Old.keep O0 K192 (allS g_o1 all0)
  obtain ⟨T199, X199, e199, st199⟩ := yag X188 hx hZ hown hby (w_34 hw) rfl f195 53 (l302_8 o1 o2) [] d2_53 d2_54 rfl
  obtain ⟨T200, X200, e200, st200⟩ := yag X199 hx hZ hown hby (w_20 hw) e199 f196 60 (l302_8 o1 o2) [(.int 3)] d2_60 d2_61 rfl
  obtain ⟨T201, X201, e201, st201⟩ := yag X200 hx hZ hown hby (w_18 hw) e200 f194 69 (l302_11 o1 o2) [(.int 9)] d2_69 d2_70 rfl
  obtain ⟨cl202, Ar202, qa202, Sa202, Na202, Ha202, Ga202⟩ := id (f197)
  obtain ⟨T203, X203, e203, st203⟩ := yag X201 hx hZ hown hby (w_18 hw) e201 f194 78 (l302_11 o1 o2) [(.ref o1)] d2_78 d2_79 rfl
  obtain ⟨T204, X204, e204, st204⟩ := yag X203 hx hZ hown hby (w_18 hw) e203 f194 84 (l302_11 o1 o2) [(.int 9), (.ref b189), (.ref o1)] d2_84 d2_85 rfl
  obtain ⟨cl205, Ar205, qa205, Sa205, Na205, Ha205, Ga205⟩ := id (f197)
  obtain ⟨T206, X206, e206, st206⟩ := yag X204 hx hZ hown hby (w_18 hw) e204 f194 89 (l302_11 o1 o2) [(.int 6), (.int 9), (.ref b189), (.ref o1)] d2_89 d2_90 rfl
  obtain ⟨cl207, Ar207, qa207, Sa207, Na207, Ha207, Ga207⟩ := id (f197)
  obtain ⟨_, T208, L208, X208, hQ208, st208⟩ := own_cs X206 hx hZ hown (y := yn3) (w_30 hw) (w_31 hw) (w_33 hw) (w_32 hw) e206 (argsL := [(.int 9), (.int 9)]) (rest := [(.ref b189), (.ref o1)]) (rm4 l Z a0 hw [] ((9 : Int32)) ((9 : Int32)) T188.heap n0 O188 ) (g := (mkF m 97 (l302_11 o1 o2) [(.int 9), (.int 9), (.ref b189), (.ref o1)])) rfl (by rw [hml]; rfl) rfl (hb hby d2_97) (lenOf pd0 rfl) (W := 2) (c1 := 2) (s1 := 9)
  have pre209 : Go p e below T206 (mkF m 97 (l302_11 o1 o2) [(.int 9), (.int 9), (.ref b189), (.ref o1)]) E0 := fun t k => by
   refine pre47 _ ?_
   refine yil X47 hx hby d2_38 rfl ?_
   refine st187 _ ?_
   refine yno X187 hx hby d2_44 (tlt (by decide : (1 : Int32) < (3 : Int32))).2.2.2 ?_
   refine yan X187 hx hby d2_47 rfl rfl ?_
   refine yil X187 hx hby d2_48 rfl ?_
   refine st188 _ ?_
   refine st199 _ ?_
   refine yil X199 hx hby d2_57 rfl ?_
   refine yad X199 hx hby d2_59 ?_
   refine st200 _ ?_
   refine XS.imul X200.here hx rfl (hb hby d2_64) rfl ?_
   refine yis X200 hx hby d2_65 (l' := (l302_11 o1 o2)) rfl ?_
   refine yil X200 hx hby d2_67 rfl ?_
   refine st201 _ ?_
   refine X201.arraylength hx (by rw [e201]; exact Ar202.1) (State.isArrayOf_alike hZ.alike Ar202.2.1) (g := (mkF m 73 (l302_11 o1 o2) [(.ref b189), (.int 9)])) rfl rfl (hb hby d2_73) _ ?_
   rw [len_of Sa202 Na202]
   refine yno X201 hx hby d2_74 (tlt (by decide : (6 : Int32) < (9 : Int32))).2.2.2 ?_
   refine yan X201 hx hby d2_77 rfl rfl ?_
   refine st203 _ ?_
   refine yil X203 hx hby d2_82 rfl ?_
   refine st204 _ ?_
   refine X204.arraylength hx (by rw [e204]; exact Ar205.1) (State.isArrayOf_alike hZ.alike Ar205.2.1) (g := (mkF m 88 (l302_11 o1 o2) [(.ref b189), (.int 9), (.ref b189), (.ref o1)])) rfl rfl (hb hby d2_88) _ ?_
   rw [len_of Sa205 Na205]
   refine st206 _ ?_
   refine X206.arraylength hx (by rw [e206]; exact Ar207.1) (State.isArrayOf_alike hZ.alike Ar207.2.1) (g := (mkF m 93 (l302_11 o1 o2) [(.ref b189), (.int 6), (.int 9), (.ref b189), (.ref o1)])) rfl rfl (hb hby d2_93) _ ?_
   rw [len_of Sa207 Na207]
   refine XS.iconst X206.here hx rfl (hb hby d2_94) ?_
   refine XS.idiv X206.here hx rfl (hb hby d2_95) rfl (by decide : ¬ ((2 : Int32) = (0 : Int32))) ?_
   refine yad X206 hx hby d2_96 ?_
   exact k
  rcases hQ208 with ⟨hc210, rfl, Nq211, e212⟩ | ⟨hc213, rfl, Nq214, e215⟩
  ·
   exact absurd hc210 (by decide : ¬ ((9 : Int32) < (9 : Int32)))
  ·
   have N208 := Fr.app N188 Nq214
   obtain ⟨_, T216, L216, X216, hQ216, st216⟩ := own_cs X208 hx hZ hown (y := yn5) (own_w hw 36 rfl) (w_37 hw) (own_w hw 39 rfl) (w_38 hw) e215 (argsL := [(.ref b189), (.int 9)]) (rest := [(.ref o1)]) (rm26 l Z a0 hw [] b189 k190 (((((((p9 &&& (255 : Int32)).toUInt32 >>> ((8 : Int32) &&& 31).toUInt32).toInt32).toUInt32 >>> ((8 : Int32) &&& 31).toUInt32).toInt32).toInt8.toInt32)) (((((p9 &&& (255 : Int32)).toUInt32 >>> ((8 : Int32) &&& 31).toUInt32).toInt32).toInt8.toInt32)) (((p9 &&& (255 : Int32)).toInt8.toInt32)) (((((((p10 &&& (255 : Int32)).toUInt32 >>> ((8 : Int32) &&& 31).toUInt32).toInt32).toUInt32 >>> ((8 : Int32) &&& 31).toUInt32).toInt32).toInt8.toInt32)) (((((p10 &&& (255 : Int32)).toUInt32 >>> ((8 : Int32) &&& 31).toUInt32).toInt32).toInt8.toInt32)) (((p10 &&& (255 : Int32)).toInt8.toInt32)) T188.heap n0 O188 g_b189 f197) (g := (mkF m 100 (l302_11 o1 o2) [(.int 9), (.ref b189), (.ref o1)])) rfl (by rw [hml]; rfl) rfl (hb hby d2_100) (lenOf pd3 rfl) (W := 1) (c1 := 3) (s1 := 18)
   obtain ⟨b217, k218, rfl, Nq219, K220, sz_b217, f221, f222⟩ := hQ216
   have N216 := Fr.app N208 Nq219
   have g_b217 : n0 ≤ b217 := Nat.le_trans (own_oz O188) sz_b217
   have O216 := Old.keep O188 K220 all0
   have f223 := (f194.keep K220 nin0)
   have f224 := (f193.keep K220)
   obtain ⟨T225, h225, X225, e225, W225, st225⟩ := putF X216 hx hZ hown (host := "") (Or.inl (w_18 hw)) Via.refl rfl f223 f224 (Or.inl (w_19 hw)) (w_8 hw) (ty := (.array .byte)) (by decide) rfl rfl (g := (mkF m 103 (l302_11 o1 o2) [(.ref b217), (.ref o1)])) rfl rfl (hb hby d2_103)
   have N225 := Fr.snoc X225 N216 g_o1
   have Fw225 := f223.same W225
   have O225 := Old.wr O216 W225 g_o1
   obtain ⟨T226, X226, e226, st226⟩ := yag X225 hx hZ hown hby (w_18 hw) e225 Fw225 106 (l302_11 o1 o2) [] d2_106 d2_107 rfl
   have f227 := ((f196.keep K220 nin0).other W225 (Or.inr (slot_ne (Or.inl (w_21 hw)) (Or.inl (w_19 hw)) (by decide) (t := .int) (t' := (.array .byte)) (by decide) (by decide))))
   obtain ⟨T228, X228, e228, st228⟩ := yag X226 hx hZ hown hby (w_20 hw) e226 f227 111 (l302_11 o1 o2) [(.int 0), (.ref b217)] d2_111 d2_112 rfl
   obtain ⟨T229, X229, e229, st229⟩ := yag X228 hx hZ hown hby (w_18 hw) e228 Fw225 116 (l302_11 o1 o2) [(.int 0), (.ref b217)] d2_116 d2_117 rfl
   obtain ⟨T230, X230, e230, st230⟩ := yag X229 hx hZ hown hby (w_20 hw) e229 f227 124 (l302_11 o1 o2) [(.int 1), (.ref b217), (.int 0), (.ref b217)] d2_124 d2_125 rfl
   have f231 := ((f195.keep K220 nin0).other W225 (Or.inr (slot_ne (Or.inl (w_35 hw)) (Or.inl (w_19 hw)) (by decide) (t := .int) (t' := (.array .byte)) (by decide) (by decide))))
   obtain ⟨T232, X232, e232, st232⟩ := yag X230 hx hZ hown hby (w_34 hw) e230 f231 129 (l302_11 o1 o2) [(.int 3), (.ref b217), (.int 0), (.ref b217)] d2_129 d2_130 rfl
   obtain ⟨T233, X233, e233, st233⟩ := yag X232 hx hZ hown hby (w_20 hw) e232 f227 135 (l302_11 o1 o2) [(.int 2), (.int 3), (.ref b217), (.int 0), (.ref b217)] d2_135 d2_136 rfl
   have lt234 : o1 < T188.heap.size := (Nat.lt_of_lt_of_le P0.lt K192.1)
   have ne235 : o1 ≠ b217 := Nat.ne_of_lt (Nat.lt_of_lt_of_le lt234 sz_b217)
   have f236 := (f221.other W225 (Ne.symm ne235))
   obtain ⟨T237, h237, L237, X237, e237, N237, K237, VV237, st237⟩ := cpA X233 hx hZ hown (own_w hw 48 rfl) (w_47 hw) (w_45 hw) (w_46 hw) e233 (us := [(.int ((((((p9 &&& (255 : Int32)).toUInt32 >>> ((8 : Int32) &&& 31).toUInt32).toInt32).toUInt32 >>> ((8 : Int32) &&& 31).toUInt32).toInt32).toInt8.toInt32)), (.int ((((p9 &&& (255 : Int32)).toUInt32 >>> ((8 : Int32) &&& 31).toUInt32).toInt32).toInt8.toInt32)), (.int ((p9 &&& (255 : Int32)).toInt8.toInt32)), (.int ((((((p10 &&& (255 : Int32)).toUInt32 >>> ((8 : Int32) &&& 31).toUInt32).toInt32).toUInt32 >>> ((8 : Int32) &&& 31).toUInt32).toInt32).toInt8.toInt32)), (.int ((((p10 &&& (255 : Int32)).toUInt32 >>> ((8 : Int32) &&& 31).toUInt32).toInt32).toInt8.toInt32)), (.int ((p10 &&& (255 : Int32)).toInt8.toInt32))]) f236 f236 (Or.inl ⟨rfl, rfl⟩) (by decide) (by decide) (by decide) (by decide) (by decide) rfl (by first | decide | exact (by decide : 3 + 6 ≤ 9)) N225 g_b217 (g := (mkF m 140 (l302_11 o1 o2) [(.int 6), (.int 3), (.ref b217), (.int 0), (.ref b217)])) rfl (by rw [hml]; rfl) rfl (hb hby d2_140) (by decide) (W := 0) (by show 2 * 0 + _ ≤ _; exact Nat.le_of_eq rfl) (by decide)
   have V237 : Arv Z h237 b217 k218 .byte (9 : Int32) [(.int ((((((p9 &&& (255 : Int32)).toUInt32 >>> ((8 : Int32) &&& 31).toUInt32).toInt32).toUInt32 >>> ((8 : Int32) &&& 31).toUInt32).toInt32).toInt8.toInt32)), (.int ((((p9 &&& (255 : Int32)).toUInt32 >>> ((8 : Int32) &&& 31).toUInt32).toInt32).toInt8.toInt32)), (.int ((p9 &&& (255 : Int32)).toInt8.toInt32)), (.int ((((((p9 &&& (255 : Int32)).toUInt32 >>> ((8 : Int32) &&& 31).toUInt32).toInt32).toUInt32 >>> ((8 : Int32) &&& 31).toUInt32).toInt32).toInt8.toInt32)), (.int ((((p9 &&& (255 : Int32)).toUInt32 >>> ((8 : Int32) &&& 31).toUInt32).toInt32).toInt8.toInt32)), (.int ((p9 &&& (255 : Int32)).toInt8.toInt32)), (.int ((((((p10 &&& (255 : Int32)).toUInt32 >>> ((8 : Int32) &&& 31).toUInt32).toInt32).toUInt32 >>> ((8 : Int32) &&& 31).toUInt32).toInt32).toInt8.toInt32)), (.int ((((p10 &&& (255 : Int32)).toUInt32 >>> ((8 : Int32) &&& 31).toUInt32).toInt32).toInt8.toInt32)), (.int ((p10 &&& (255 : Int32)).toInt8.toInt32))] (.int 0) := VV237
   have O237 := Old.keep O225 K237 (allS g_b217 all0)
   have f238 := (f231.keep K237 (ninS ne235 nin0))
   obtain ⟨T239, X239, e239, st239⟩ := yg X237 hx hZ hown hby (w_34 hw) e237 f238 145 (l302_11 o1 o2) [(.ref o1)] d2_145
   have f240 := ((f224.wr W225).keep K237)
   obtain ⟨T241, h241, X241, e241, W241, st241⟩ := putF X239 hx hZ hown (host := "") (Or.inl (w_34 hw)) Via.refl e239 f238 f240 (Or.inl (w_35 hw)) (w_8 hw) (ty := .int) (by decide) rfl rfl (g := (mkF m 151 (l302_11 o1 o2) [(.int 3), (.ref o1)])) rfl rfl (hb hby d2_151)
   have N241 := Fr.snoc X241 N237 g_o1
   have Fw241 := f238.same W241
   have O241 := Old.wr O237 W241 g_o1
   have f242 := (((((P5.keep K192).keep K220).wr W225).keep K237).wr W241)
   have f243 := (f240.wr W241)
   have ne244 : o2 ≠ o1 := ne_exa f242 f243 (by decide)
   have lt245 : o2 < T188.heap.size := (Nat.lt_of_lt_of_le P4.lt K192.1)
   have ne246 : o2 ≠ b217 := Nat.ne_of_lt (Nat.lt_of_lt_of_le lt245 sz_b217)
   have f247 := (((((P4.keep K192 (ninS ne244 nin0)).keep K220 nin0).other W225 ne244).keep K237 (ninS ne246 nin0)).other W241 ne244)
   obtain ⟨cl248, Ar248, qa248, Sa248, Na248, Ha248, Ga248⟩ := id (f247)
   have hin248 := inb_of (j := (2 : Int32)) Sa248 ⟨by decide, by decide⟩
   have hat248 : cl248.slots[((2 : Int32)).toNatClampNeg]? = some (.int p7) := Has.at Ha248 hin248 rfl
   have f249 := ((Fw225.keep K237 (ninS ne235 nin0)).other W241 (Or.inr (slot_ne (Or.inl (w_19 hw)) (Or.inl (w_35 hw)) (by decide) (t := (.array .byte)) (t' := .int) (by decide) (by decide))))
   have f250 := ((f227.keep K237 (ninS ne235 nin0)).other W241 (Or.inr (slot_ne (Or.inl (w_21 hw)) (Or.inl (w_35 hw)) (by decide) (t := .int) (t' := .int) (by decide) (by decide))))
   have f251 := (V237.other W241 (Ne.symm ne235))
   have f252 := (((f222.wr W225).keep K237).wr W241)
   obtain ⟨_, T253, L253, X253, hQ253, st253⟩ := own_pb X241 hx hZ hown (y := yn6) (w_49 hw) (w_50 hw) (own_selp (mvT hZ (w_25 hw)) rfl (Cond.privateMethod_at (mvP hZ (w_51 hw) (args := #[]))) (mvT hZ (w_50 hw)) (by decide)) (w_51 hw) (own_w hw 52 rfl) (w_9 hw) e241 f243 (argsL := [(.int 0), (.int p7)]) (rest := []) (rm27 l Z a0 hw [] o1 b217 k218 (((((((p9 &&& (255 : Int32)).toUInt32 >>> ((8 : Int32) &&& 31).toUInt32).toInt32).toUInt32 >>> ((8 : Int32) &&& 31).toUInt32).toInt32).toInt8.toInt32)) (((((p9 &&& (255 : Int32)).toUInt32 >>> ((8 : Int32) &&& 31).toUInt32).toInt32).toInt8.toInt32)) (((p9 &&& (255 : Int32)).toInt8.toInt32)) (((((((p9 &&& (255 : Int32)).toUInt32 >>> ((8 : Int32) &&& 31).toUInt32).toInt32).toUInt32 >>> ((8 : Int32) &&& 31).toUInt32).toInt32).toInt8.toInt32)) (((((p9 &&& (255 : Int32)).toUInt32 >>> ((8 : Int32) &&& 31).toUInt32).toInt32).toInt8.toInt32)) (((p9 &&& (255 : Int32)).toInt8.toInt32)) (((((((p10 &&& (255 : Int32)).toUInt32 >>> ((8 : Int32) &&& 31).toUInt32).toInt32).toUInt32 >>> ((8 : Int32) &&& 31).toUInt32).toInt32).toInt8.toInt32)) (((((p10 &&& (255 : Int32)).toUInt32 >>> ((8 : Int32) &&& 31).toUInt32).toInt32).toInt8.toInt32)) (((p10 &&& (255 : Int32)).toInt8.toInt32)) p7 h241 n0 O241 g_o1 g_b217 f243 f249 f250 f251 f252) (g := (mkF m 175 (l302_4 o1 o2) [(.int p7), (.int 0), (.ref o1)])) rfl (by rw [hml]; rfl) rfl (hb hby d2_175) (lenOf pd4 rfl) (W := 0) (c1 := 3) (s1 := 18)
   obtain ⟨rfl, Nq254, K255, f256, f257⟩ := hQ253
   have N253 := Fr.app N241 Nq254
   obtain ⟨fs, hr, hrun, hended, hW, hsame⟩ := X253.leave (v := none) (fun _ => rfl)
   have KL : Keep h0 T253.heap [o1] := (((((((Keep.refl h0 [o1]).trans K192 (allS (Or.inl (List.mem_of_getElem? (i := 0) rfl)) all0)).trans K220 all0).wr W225 (Or.inl (List.mem_of_getElem? (i := 0) rfl))).trans K237 (allS (Or.inr (Nat.le_trans M188 sz_b217)) all0)).wr W241 (Or.inl (List.mem_of_getElem? (i := 0) rfl))).trans K255 (allS (Or.inr (Nat.le_trans M188 sz_b217)) all0))
   have f258 := (f243.keep K255)
   have f259 := (f249.keep K255 (ninS ne235 nin0))
   have f260 := (Fw241.keep K255 (ninS ne235 nin0))
   have f261 := (f250.keep K255 (ninS ne235 nin0))
   refine ⟨_, _, pre209 _ ?_, hrun, hended, _, _, rfl, ?_, ⟨_, rfl⟩, hW, hsame.mono (by decide) (by decide)⟩
   ·
    refine st208 _ ?_
    refine st216 _ ?_
    refine st225 _ ?_
    refine st226 _ ?_
    refine yin X226 hx hby d2_110 rfl ?_
    show Steps p.tables e below (T226.setTop (mkF m 111 (l302_11 o1 o2) [(.int 0), (.ref b217)])) _
    refine st228 _ ?_
    refine XS.imul X228.here hx rfl (hb hby d2_115) rfl ?_
    refine st229 _ ?_
    refine yin X229 hx hby d2_120 rfl ?_
    refine yil X229 hx hby d2_121 rfl ?_
    refine yad X229 hx hby d2_123 ?_
    refine st230 _ ?_
    refine XS.imul X230.here hx rfl (hb hby d2_128) rfl ?_
    refine st232 _ ?_
    refine yin X232 hx hby d2_133 rfl ?_
    refine ysu X232 hx hby d2_134 ?_
    refine st233 _ ?_
    refine XS.imul X233.here hx rfl (hb hby d2_139) rfl ?_
    refine st237 _ ?_
    refine yan X237 hx hby d2_143 rfl rfl ?_
    refine XS.dup X237.here hx rfl (hb hby d2_144) rfl rfl ?_
    refine st239 _ ?_
    refine yil X239 hx hby d2_148 rfl ?_
    refine yad X239 hx hby d2_150 ?_
    refine st241 _ ?_
    refine XS.iconst X241.here hx rfl (hb hby d2_154) ?_
    refine yis X241 hx hby d2_155 (l' := (l302_4 o1 o2)) rfl ?_
    refine yil X241 hx hby d2_157 rfl ?_
    refine yil X241 hx hby d2_159 rfl ?_
    refine yno X241 hx hby d2_161 (tlt (by decide : (0 : Int32) < (1 : Int32))).2.1 ?_
    refine yan X241 hx hby d2_164 rfl rfl ?_
    refine yin X241 hx hby d2_165 rfl ?_
    refine yil X241 hx hby d2_166 rfl ?_
    refine yad X241 hx hby d2_168 ?_
    refine yan X241 hx hby d2_169 rfl rfl ?_
    refine yin X241 hx hby d2_170 rfl ?_
    refine yil X241 hx hby d2_171 rfl ?_
    refine yad X241 hx hby d2_173 ?_
    refine X241.iaload hx (j := (2 : Int32)) (v := (.int p7)) (by rw [e241]; exact Ar248.1) (State.isArrayOf_alike hZ.alike Ar248.2.1) Ar248.2.2 hin248 hat248 (g := (mkF m 174 (l302_4 o1 o2) [(.int 2), (.ref o2), (.int 0), (.ref o1)])) rfl rfl (hb hby d2_174) _ ?_
    refine st253 _ ?_
    refine XS.iinc X253.here hx rfl (hb hby d2_178) rfl (l' := (l302_5 o1 o2)) rfl ?_
    show Steps p.tables e below (T253.setTop (mkF m 181 (l302_5 o1 o2) [])) _
    refine ygo X253 hx hby 181 157 rfl d2_181 (by decide) ?_
    refine yil X253 hx hby d2_157 rfl ?_
    refine yil X253 hx hby d2_159 rfl ?_
    refine yye X253 hx hby 161 184 rfl d2_161 (flt (by decide : ¬ ((1 : Int32) < (1 : Int32)))).2.1 (by decide) ?_
    show Steps p.tables e below (T253.setTop (mkF m 184 (l302_5 o1 o2) [])) _
    exact X253.returnOut hx hret (hb hby d2_184) hr
   ·
    show Q28 Z w1 kw1 o1 o2 o3 kc4 p5 p6 p7 kc8 p9 p10 h0 n0 _ T253.heap _
    exact (Or.inr (Or.inr ⟨b217, k218, rfl, N253, KL, (Nat.le_trans M188 sz_b217), f258, f259, f260, f261, f256, f257⟩))
theorem d10_0 : decode prog_6_method_3_code 0 = .ok (.aload_n 0, 1) := by decide +kernel
theorem d10_1 : decode prog_6_method_3_code 1 = .ok (.getfield 25, 3) := by decide +kernel
theorem d10_4 : decode prog_6_method_3_code 4 = .ok (.ireturn, 1) := by decide +kernel
theorem ef29 (m : MethodId) (x0 : Addr) : entryFrame m #[(.ref x0)] 1 = mkF m 0 #[.val (.ref x0)] [] := by first | (simp [entryFrame, mkF, argsToLocals, Value.category]; done) | rfl
def Q29 (Z : State) (o1 o2 : Addr) (h0 : Heap) (n0 : Nat) (v : Option Value) (h : Heap) (L : List Loc) : Prop :=
  (v = some (.int 3) ∧ Fr n0 L ∧ h = h0)
set_option maxRecDepth 65536 in
set_option maxHeartbeats 40000000 in
theorem rm29 (l : Launch) (Z : State) (a0 : Array Value) (hw : HW a0 Z) (ws : List Jvm.Cond) (o1 o2 : Addr) (h0 : Heap) (n0 : Nat) (O0 : Old Z n0 h0) (g_o1 : n0 ≤ o1) (g_o2 : n0 ≤ o2) (P2 : Fld Z h0 o1 "com/example/driftless/driftless/CodePoints" "length" "I" (.int 3)) :
    MF l yn10 prog_6_method_3_code 1 (some .int) ws ({ frames := 0, cells := 0, slots := 0, locals := 0 } : Room) #[(.ref o1)] Z h0 (Q29 Z o1 o2 h0 n0) := by
 refine MetFree.of_bodySF (plainFor_of_name pn1) hisR ?_
 intro p e s m args below meth c s₁ Bd hml hP hK
 obtain ⟨rfl, hZ, hh⟩ := hP
 obtain ⟨hx, hby, hown, hret, hlk, X0, e0, N0⟩ := own_bd Bd hh n0
 have pre0 := own_ct s₁ (p := p) (e := e) (below := below) (ef29 m o1)
 obtain ⟨T1, X1, e1, st1⟩ := yag X0 hx hZ hown hby (w_34 hw) e0 P2 0 #[.val (.ref o1)] [] d10_0 d10_1 rfl
 obtain ⟨fs, hr, hrun, hended, hW, hsame⟩ := X1.leave (v := some (.int 3)) (fun h => by rw [hret] at h; cases h)
 refine ⟨_, _, pre0 _ ?_, hrun, hended, _, _, rfl, ?_, ⟨_, rfl⟩, hW, hsame.mono (by decide) (by decide)⟩
 ·
  refine st1 _ ?_
  show Steps p.tables e below (T1.setTop (mkF m 4 #[.val (.ref o1)] [(.int 3)])) _
  exact retI X1 hx hret (hb hby d10_4) hr
 ·
  show Q29 Z o1 o2 h0 n0 _ T1.heap _
  rw [e1]
  exact ⟨rfl, N0, rfl⟩
theorem pd7 : parseMethodDescriptor "()I" = some ⟨[], some .int⟩ := by decide +kernel
def l308_0 (o1 : Addr) (p4 : Int32) : Array Slot := #[.val (.ref o1), .val (.int 0), .val (.int 0), .val (.int (p4 &&& (255 : Int32))), .val (.int 1)]
def l308_1 (o1 : Addr) : Array Slot := #[.val (.ref o1), .val (.int 0), .val (.int 0), .unset, .unset]
theorem ef30 (m : MethodId) (x0 : Addr) (x1 : Int32) : entryFrame m #[(.ref x0), (.int x1)] 5 = mkF m 0 #[.val (.ref x0), .val (.int x1), .unset, .unset, .unset] [] := by first | (simp [entryFrame, mkF, argsToLocals, Value.category]; done) | rfl
def Q30 (Z : State) (o1 o2 : Addr) (kc3 : ClassId) (p4 p5 p6 : Int32) (h0 : Heap) (n0 : Nat) (v : Option Value) (h : Heap) (L : List Loc) : Prop :=
  (v = some (.int (p4 &&& (255 : Int32))) ∧ Fr n0 L ∧ h = h0)
set_option maxRecDepth 65536 in
set_option maxHeartbeats 40000000 in
theorem rm30 (l : Launch) (Z : State) (a0 : Array Value) (hw : HW a0 Z) (ws : List Jvm.Cond) (o1 o2 : Addr) (kc3 : ClassId) (p4 p5 p6 : Int32) (h0 : Heap) (n0 : Nat) (O0 : Old Z n0 h0) (g_o1 : n0 ≤ o1) (g_o2 : n0 ≤ o2) (P1 : Fld Z h0 o1 "com/example/driftless/driftless/CodePoints" "bytes" "[B" (.ref o2)) (P3 : Fld Z h0 o1 "com/example/driftless/driftless/CodePoints" "width" "I" (.int 1)) (P4 : Arv Z h0 o2 kc3 .byte (3 : Int32) [(.int p4), (.int p5), (.int p6)] (.int 0)) :
    MF l yn9 prog_6_method_4_code 5 (some .int) ws ({ frames := 0, cells := 0, slots := 0, locals := 0 } : Room) #[(.ref o1), (.int 0)] Z h0 (Q30 Z o1 o2 kc3 p4 p5 p6 h0 n0) := by
 refine MetFree.of_bodySF (plainFor_of_name pn1) hisR ?_
 intro p e s m args below meth c s₁ Bd hml hP hK
 obtain ⟨rfl, hZ, hh⟩ := hP
 obtain ⟨hx, hby, hown, hret, hlk, X0, e0, N0⟩ := own_bd Bd hh n0
 have pre0 := own_ct s₁ (p := p) (e := e) (below := below) (ef30 m o1 (0 : Int32))
 obtain ⟨T1, X1, e1, st1⟩ := yag X0 hx hZ hown hby (w_20 hw) e0 P3 1 #[.val (.ref o1), .val (.int 0), .unset, .unset, .unset] [(.int 0)] d9_1 d9_2 rfl
 obtain ⟨T2, X2, e2, st2⟩ := yag X1 hx hZ hown hby (w_18 hw) e1 P1 7 (l308_1 o1) [] d9_7 d9_8 rfl
 obtain ⟨cl3, Ar3, qa3, Sa3, Na3, Ha3, Ga3⟩ := id (P4)
 have hin3 := inb_of (j := (0 : Int32)) Sa3 ⟨by decide, by decide⟩
 have hat3 : cl3.slots[((0 : Int32)).toNatClampNeg]? = some (.int p4) := Has.at Ha3 hin3 rfl
 obtain ⟨T4, X4, e4, st4⟩ := yag X2 hx hZ hown hby (w_20 hw) e2 P3 23 (l308_0 o1 p4) [(.int 1)] d9_23 d9_24 rfl
 obtain ⟨fs, hr, hrun, hended, hW, hsame⟩ := X4.leave (v := some (.int (p4 &&& (255 : Int32)))) (fun h => by rw [hret] at h; cases h)
 refine ⟨_, _, pre0 _ ?_, hrun, hended, _, _, rfl, ?_, ⟨_, rfl⟩, hW, hsame.mono (by decide) (by decide)⟩
 ·
  refine yin X0 hx hby d9_0 rfl ?_
  refine st1 _ ?_
  refine XS.imul X1.here hx rfl (hb hby d9_5) rfl ?_
  refine yit X1 hx hby d9_6 (l' := (l308_1 o1)) rfl ?_
  refine st2 _ ?_
  refine yin X2 hx hby d9_11 rfl ?_
  refine X2.baloadBytes hx (j := (0 : Int32)) (v := (.int p4)) (by rw [e2]; exact Ar3.1) (State.isArrayOf_alike hZ.alike Ar3.2.1) Ar3.2.2 hin3 hat3 (g := (mkF m 12 (l308_1 o1) [(.int 0), (.ref o2)])) rfl rfl (hb hby d9_12) _ ?_
  refine XS.sipush X2.here hx rfl (hb hby d9_13) ?_
  refine XS.iand X2.here hx rfl (hb hby d9_16) rfl ?_
  refine yit X2 hx hby d9_17 (l' := #[.val (.ref o1), .val (.int 0), .val (.int 0), .val (.int (p4 &&& (255 : Int32))), .unset]) rfl ?_
  refine XS.iconst X2.here hx rfl (hb hby d9_18) ?_
  refine yis X2 hx hby d9_19 (l' := (l308_0 o1 p4)) rfl ?_
  refine yil X2 hx hby d9_21 rfl ?_
  refine st4 _ ?_
  refine yye X4 hx hby 27 55 rfl d9_27 (flt (by decide : ¬ ((1 : Int32) < (1 : Int32)))).2.1 (by decide) ?_
  refine yin X4 hx hby d9_55 rfl ?_
  show Steps p.tables e below (T4.setTop (mkF m 56 (l308_0 o1 p4) [(.int (p4 &&& (255 : Int32)))])) _
  exact retI X4 hx hret (hb hby d9_56) hr
 ·
  show Q30 Z o1 o2 kc3 p4 p5 p6 h0 n0 _ T4.heap _
  rw [e4]
  exact ⟨rfl, N0, rfl⟩
def l309_0 (o1 : Addr) (p5 : Int32) : Array Slot := #[.val (.ref o1), .val (.int 1), .val (.int 1), .val (.int (p5 &&& (255 : Int32))), .val (.int 1)]
def l309_1 (o1 : Addr) : Array Slot := #[.val (.ref o1), .val (.int 1), .val (.int 1), .unset, .unset]
theorem ef31 (m : MethodId) (x0 : Addr) (x1 : Int32) : entryFrame m #[(.ref x0), (.int x1)] 5 = mkF m 0 #[.val (.ref x0), .val (.int x1), .unset, .unset, .unset] [] := by first | (simp [entryFrame, mkF, argsToLocals, Value.category]; done) | rfl
def Q31 (Z : State) (o1 o2 : Addr) (kc3 : ClassId) (p4 p5 p6 : Int32) (h0 : Heap) (n0 : Nat) (v : Option Value) (h : Heap) (L : List Loc) : Prop :=
  (v = some (.int (p5 &&& (255 : Int32))) ∧ Fr n0 L ∧ h = h0)
set_option maxRecDepth 65536 in
set_option maxHeartbeats 40000000 in
theorem rm31 (l : Launch) (Z : State) (a0 : Array Value) (hw : HW a0 Z) (ws : List Jvm.Cond) (o1 o2 : Addr) (kc3 : ClassId) (p4 p5 p6 : Int32) (h0 : Heap) (n0 : Nat) (O0 : Old Z n0 h0) (g_o1 : n0 ≤ o1) (g_o2 : n0 ≤ o2) (P1 : Fld Z h0 o1 "com/example/driftless/driftless/CodePoints" "bytes" "[B" (.ref o2)) (P3 : Fld Z h0 o1 "com/example/driftless/driftless/CodePoints" "width" "I" (.int 1)) (P4 : Arv Z h0 o2 kc3 .byte (3 : Int32) [(.int p4), (.int p5), (.int p6)] (.int 0)) :
    MF l yn9 prog_6_method_4_code 5 (some .int) ws ({ frames := 0, cells := 0, slots := 0, locals := 0 } : Room) #[(.ref o1), (.int 1)] Z h0 (Q31 Z o1 o2 kc3 p4 p5 p6 h0 n0) := by
 refine MetFree.of_bodySF (plainFor_of_name pn1) hisR ?_
 intro p e s m args below meth c s₁ Bd hml hP hK
 obtain ⟨rfl, hZ, hh⟩ := hP
 obtain ⟨hx, hby, hown, hret, hlk, X0, e0, N0⟩ := own_bd Bd hh n0
 have pre0 := own_ct s₁ (p := p) (e := e) (below := below) (ef31 m o1 (1 : Int32))
 obtain ⟨T1, X1, e1, st1⟩ := yag X0 hx hZ hown hby (w_20 hw) e0 P3 1 #[.val (.ref o1), .val (.int 1), .unset, .unset, .unset] [(.int 1)] d9_1 d9_2 rfl
 obtain ⟨T2, X2, e2, st2⟩ := yag X1 hx hZ hown hby (w_18 hw) e1 P1 7 (l309_1 o1) [] d9_7 d9_8 rfl
 obtain ⟨cl3, Ar3, qa3, Sa3, Na3, Ha3, Ga3⟩ := id (P4)
 have hin3 := inb_of (j := (1 : Int32)) Sa3 ⟨by decide, by decide⟩
 have hat3 : cl3.slots[((1 : Int32)).toNatClampNeg]? = some (.int p5) := Has.at Ha3 hin3 rfl
 obtain ⟨T4, X4, e4, st4⟩ := yag X2 hx hZ hown hby (w_20 hw) e2 P3 23 (l309_0 o1 p5) [(.int 1)] d9_23 d9_24 rfl
 obtain ⟨fs, hr, hrun, hended, hW, hsame⟩ := X4.leave (v := some (.int (p5 &&& (255 : Int32)))) (fun h => by rw [hret] at h; cases h)
 refine ⟨_, _, pre0 _ ?_, hrun, hended, _, _, rfl, ?_, ⟨_, rfl⟩, hW, hsame.mono (by decide) (by decide)⟩
 ·
  refine yin X0 hx hby d9_0 rfl ?_
  refine st1 _ ?_
  refine XS.imul X1.here hx rfl (hb hby d9_5) rfl ?_
  refine yit X1 hx hby d9_6 (l' := (l309_1 o1)) rfl ?_
  refine st2 _ ?_
  refine yin X2 hx hby d9_11 rfl ?_
  refine X2.baloadBytes hx (j := (1 : Int32)) (v := (.int p5)) (by rw [e2]; exact Ar3.1) (State.isArrayOf_alike hZ.alike Ar3.2.1) Ar3.2.2 hin3 hat3 (g := (mkF m 12 (l309_1 o1) [(.int 1), (.ref o2)])) rfl rfl (hb hby d9_12) _ ?_
  refine XS.sipush X2.here hx rfl (hb hby d9_13) ?_
  refine XS.iand X2.here hx rfl (hb hby d9_16) rfl ?_
  refine yit X2 hx hby d9_17 (l' := #[.val (.ref o1), .val (.int 1), .val (.int 1), .val (.int (p5 &&& (255 : Int32))), .unset]) rfl ?_
  refine XS.iconst X2.here hx rfl (hb hby d9_18) ?_
  refine yis X2 hx hby d9_19 (l' := (l309_0 o1 p5)) rfl ?_
  refine yil X2 hx hby d9_21 rfl ?_
  refine st4 _ ?_
  refine yye X4 hx hby 27 55 rfl d9_27 (flt (by decide : ¬ ((1 : Int32) < (1 : Int32)))).2.1 (by decide) ?_
  refine yin X4 hx hby d9_55 rfl ?_
  show Steps p.tables e below (T4.setTop (mkF m 56 (l309_0 o1 p5) [(.int (p5 &&& (255 : Int32)))])) _
  exact retI X4 hx hret (hb hby d9_56) hr
 ·
  show Q31 Z o1 o2 kc3 p4 p5 p6 h0 n0 _ T4.heap _
  rw [e4]
  exact ⟨rfl, N0, rfl⟩
def l310_0 (o1 : Addr) (p6 : Int32) : Array Slot := #[.val (.ref o1), .val (.int 2), .val (.int 2), .val (.int (p6 &&& (255 : Int32))), .val (.int 1)]
def l310_1 (o1 : Addr) : Array Slot := #[.val (.ref o1), .val (.int 2), .val (.int 2), .unset, .unset]
theorem ef32 (m : MethodId) (x0 : Addr) (x1 : Int32) : entryFrame m #[(.ref x0), (.int x1)] 5 = mkF m 0 #[.val (.ref x0), .val (.int x1), .unset, .unset, .unset] [] := by first | (simp [entryFrame, mkF, argsToLocals, Value.category]; done) | rfl
def Q32 (Z : State) (o1 o2 : Addr) (kc3 : ClassId) (p4 p5 p6 : Int32) (h0 : Heap) (n0 : Nat) (v : Option Value) (h : Heap) (L : List Loc) : Prop :=
  (v = some (.int (p6 &&& (255 : Int32))) ∧ Fr n0 L ∧ h = h0)
set_option maxRecDepth 65536 in
set_option maxHeartbeats 40000000 in
theorem rm32 (l : Launch) (Z : State) (a0 : Array Value) (hw : HW a0 Z) (ws : List Jvm.Cond) (o1 o2 : Addr) (kc3 : ClassId) (p4 p5 p6 : Int32) (h0 : Heap) (n0 : Nat) (O0 : Old Z n0 h0) (g_o1 : n0 ≤ o1) (g_o2 : n0 ≤ o2) (P1 : Fld Z h0 o1 "com/example/driftless/driftless/CodePoints" "bytes" "[B" (.ref o2)) (P3 : Fld Z h0 o1 "com/example/driftless/driftless/CodePoints" "width" "I" (.int 1)) (P4 : Arv Z h0 o2 kc3 .byte (3 : Int32) [(.int p4), (.int p5), (.int p6)] (.int 0)) :
    MF l yn9 prog_6_method_4_code 5 (some .int) ws ({ frames := 0, cells := 0, slots := 0, locals := 0 } : Room) #[(.ref o1), (.int 2)] Z h0 (Q32 Z o1 o2 kc3 p4 p5 p6 h0 n0) := by
 refine MetFree.of_bodySF (plainFor_of_name pn1) hisR ?_
 intro p e s m args below meth c s₁ Bd hml hP hK
 obtain ⟨rfl, hZ, hh⟩ := hP
 obtain ⟨hx, hby, hown, hret, hlk, X0, e0, N0⟩ := own_bd Bd hh n0
 have pre0 := own_ct s₁ (p := p) (e := e) (below := below) (ef32 m o1 (2 : Int32))
 obtain ⟨T1, X1, e1, st1⟩ := yag X0 hx hZ hown hby (w_20 hw) e0 P3 1 #[.val (.ref o1), .val (.int 2), .unset, .unset, .unset] [(.int 2)] d9_1 d9_2 rfl
 obtain ⟨T2, X2, e2, st2⟩ := yag X1 hx hZ hown hby (w_18 hw) e1 P1 7 (l310_1 o1) [] d9_7 d9_8 rfl
 obtain ⟨cl3, Ar3, qa3, Sa3, Na3, Ha3, Ga3⟩ := id (P4)
 have hin3 := inb_of (j := (2 : Int32)) Sa3 ⟨by decide, by decide⟩
 have hat3 : cl3.slots[((2 : Int32)).toNatClampNeg]? = some (.int p6) := Has.at Ha3 hin3 rfl
 obtain ⟨T4, X4, e4, st4⟩ := yag X2 hx hZ hown hby (w_20 hw) e2 P3 23 (l310_0 o1 p6) [(.int 1)] d9_23 d9_24 rfl
 obtain ⟨fs, hr, hrun, hended, hW, hsame⟩ := X4.leave (v := some (.int (p6 &&& (255 : Int32)))) (fun h => by rw [hret] at h; cases h)
 refine ⟨_, _, pre0 _ ?_, hrun, hended, _, _, rfl, ?_, ⟨_, rfl⟩, hW, hsame.mono (by decide) (by decide)⟩
 ·
  refine yin X0 hx hby d9_0 rfl ?_
  refine st1 _ ?_
  refine XS.imul X1.here hx rfl (hb hby d9_5) rfl ?_
  refine yit X1 hx hby d9_6 (l' := (l310_1 o1)) rfl ?_
  refine st2 _ ?_
  refine yin X2 hx hby d9_11 rfl ?_
  refine X2.baloadBytes hx (j := (2 : Int32)) (v := (.int p6)) (by rw [e2]; exact Ar3.1) (State.isArrayOf_alike hZ.alike Ar3.2.1) Ar3.2.2 hin3 hat3 (g := (mkF m 12 (l310_1 o1) [(.int 2), (.ref o2)])) rfl rfl (hb hby d9_12) _ ?_
  refine XS.sipush X2.here hx rfl (hb hby d9_13) ?_
  refine XS.iand X2.here hx rfl (hb hby d9_16) rfl ?_
  refine yit X2 hx hby d9_17 (l' := #[.val (.ref o1), .val (.int 2), .val (.int 2), .val (.int (p6 &&& (255 : Int32))), .unset]) rfl ?_
  refine XS.iconst X2.here hx rfl (hb hby d9_18) ?_
  refine yis X2 hx hby d9_19 (l' := (l310_0 o1 p6)) rfl ?_
  refine yil X2 hx hby d9_21 rfl ?_
  refine st4 _ ?_
  refine yye X4 hx hby 27 55 rfl d9_27 (flt (by decide : ¬ ((1 : Int32) < (1 : Int32)))).2.1 (by decide) ?_
  refine yin X4 hx hby d9_55 rfl ?_
  show Steps p.tables e below (T4.setTop (mkF m 56 (l310_0 o1 p6) [(.int (p6 &&& (255 : Int32)))])) _
  exact retI X4 hx hret (hb hby d9_56) hr
 ·
  show Q32 Z o1 o2 kc3 p4 p5 p6 h0 n0 _ T4.heap _
  rw [e4]
  exact ⟨rfl, N0, rfl⟩
def l311_0 (dp1 dp2 : Int32) (dp3 dp4 : Int32) (dp5 dp6 : Int32) (dp7 dp8 dp9 : Int32) (da10 o11 : Addr) (zz0 zz1 zz2 : Int32) : Array Slot := #[.val (.int dp1), .val (.int dp2), .val (.int dp3), .val (.int dp4), .val (.int dp5), .val (.int dp6), .val (.int dp7), .val (.int dp8), .val (.int dp9), .val (.ref da10), .val (.ref o11), .val (.int zz0), .val (.int zz1), .val (.int zz2)]
set_option maxRecDepth 65536 in
set_option maxHeartbeats 40000000 in
theorem ct1 {p : Program} {l : Launch} {e : Env} {s : State} {m : MethodId} {below : List Frame} {meth : Method} {c : Code} {E0 T0 : State} {locs : List Loc} {Z : State} {a0 : Array Value} (hw : HW a0 Z) (o11 o12 : Addr) (kc13 : ClassId) (zz0 zz1 : Int32) (zz2 dp1 : Int32) (dp2 dp3 : Int32) (dp4 dp5 : Int32) (dp6 dp7 : Int32) (dp8 dp9 : Int32) (da10 : Addr) (p1 p2 : Int32) (p3 p4 p5 : Int32) (h0 : Heap) (n0 : Nat) (O0 : Old Z n0 h0)
    (hx : p.tables.exec = Jvm.exec) (hby : c.code = code) (hml : c.maxLocals = 14) (hown : s.vm.findClass "com/example/driftless/driftless/CodePointsGetPinLaw" = some m.cls) (hret : meth.sig.returnType = ret) (hlk : meth.locks = false) (hZ : Z.Warmed39 s.vm)
    (X0 : Stand p l e room_1 s m #[(.int p1), (.int p2), (.int p3), (.int p4), (.int p5)] below meth c T0 locs 24 128) (e0 : T0.heap = h0) (N0 : Fr n0 locs) (pre0 : Go p e below T0 (mkF m 143 (l311_0 dp1 dp2 dp3 dp4 dp5 dp6 dp7 dp8 dp9 da10 o11 zz0 zz1 zz2) []) E0) (g_o11 : n0 ≤ o11) (g_o12 : n0 ≤ o12) (P0 : Exa Z h0 o11 "com/example/driftless/driftless/CodePoints") (P1 : Fld Z h0 o11 "com/example/driftless/driftless/CodePoints" "bytes" "[B" (.ref o12)) (P2 : Fld Z h0 o11 "com/example/driftless/driftless/CodePoints" "length" "I" (.int 3)) (P3 : Fld Z h0 o11 "com/example/driftless/driftless/CodePoints" "width" "I" (.int 1)) (P4 : Arv Z h0 o12 kc13 .byte (3 : Int32) [(.int (zz0.toInt8.toInt32)), (.int (zz1.toInt8.toInt32)), (.int (zz2.toInt8.toInt32))] (.int 0)) (hC0 : zz0 < (256 : Int32)) (hC1 : zz1 < (256 : Int32)) (hC2 : zz2 < (256 : Int32)) (bzz0 : 0 ≤ zz0.toInt ∧ zz0.toInt ≤ 1114111) (bzz1 : 0 ≤ zz1.toInt ∧ zz1.toInt ≤ 1114111) (bzz2 : 0 ≤ zz2.toInt ∧ zz2.toInt ≤ 1114111) :
    ∃ (s₂ : State) (o : Outcome), Steps p.tables e below E0 s₂ ∧ s₂.status = .running ∧ Ended s₂ below o ∧ ∃ v L, o = .returned v ∧ Q0 n0 v s₂.heap L ∧ FrameEnd s o s₂ L 24 128 := by
 obtain ⟨_, T1, L1, X1, hQ1, st1⟩ := own_vb X0 hx hZ hown (y := yn10) (own_w hw 53 rfl) (own_w hw 54 rfl) (own_w hw 56 rfl) (own_w hw 55 rfl) (own_w hw 57 rfl) (w_9 hw) e0 P0 (argsL := []) (rest := []) (rm29 l Z a0 hw [] o11 o12 h0 n0 O0 g_o11 g_o12 P2) (g := (mkF m 145 (l311_0 dp1 dp2 dp3 dp4 dp5 dp6 dp7 dp8 dp9 da10 o11 zz0 zz1 zz2) [(.ref o11)])) rfl (by rw [hml]; rfl) rfl (hb hby at_145) (lenOf pd7 rfl) (W := 0) (c1 := 24) (s1 := 128)
 obtain ⟨rfl, Nq2, e3⟩ := hQ1
 have N1 := Fr.app N0 Nq2
 obtain ⟨_, T4, L4, X4, hQ4, st4⟩ := own_vb X1 hx hZ hown (y := yn9) (own_w hw 58 rfl) (own_w hw 59 rfl) (own_w hw 61 rfl) (own_w hw 60 rfl) (own_w hw 62 rfl) (w_9 hw) e3 P0 (argsL := [(.int 0)]) (rest := []) (rm30 l Z a0 hw [] o11 o12 kc13 (zz0.toInt8.toInt32) (zz1.toInt8.toInt32) (zz2.toInt8.toInt32) h0 n0 O0 g_o11 g_o12 P1 P3 P4) (g := (mkF m 155 (l311_0 dp1 dp2 dp3 dp4 dp5 dp6 dp7 dp8 dp9 da10 o11 zz0 zz1 zz2) [(.int 0), (.ref o11)])) rfl (by rw [hml]; rfl) rfl (hb hby at_155) (lenOf pd2 rfl) (W := 0) (c1 := 24) (s1 := 128)
 obtain ⟨rfl, Nq5, e6⟩ := hQ4
 have N4 := Fr.app N1 Nq5
 obtain ⟨_, T7, L7, X7, hQ7, st7⟩ := own_vb X4 hx hZ hown (y := yn9) (own_w hw 58 rfl) (own_w hw 59 rfl) (own_w hw 61 rfl) (own_w hw 60 rfl) (own_w hw 62 rfl) (w_9 hw) e6 P0 (argsL := [(.int 1)]) (rest := []) (rm31 l Z a0 hw [] o11 o12 kc13 (zz0.toInt8.toInt32) (zz1.toInt8.toInt32) (zz2.toInt8.toInt32) h0 n0 O0 g_o11 g_o12 P1 P3 P4) (g := (mkF m 166 (l311_0 dp1 dp2 dp3 dp4 dp5 dp6 dp7 dp8 dp9 da10 o11 zz0 zz1 zz2) [(.int 1), (.ref o11)])) rfl (by rw [hml]; rfl) rfl (hb hby at_166) (lenOf pd2 rfl) (W := 0) (c1 := 24) (s1 := 128)
 obtain ⟨rfl, Nq8, e9⟩ := hQ7
 have N7 := Fr.app N4 Nq8
 obtain ⟨_, T10, L10, X10, hQ10, st10⟩ := own_vb X7 hx hZ hown (y := yn9) (own_w hw 58 rfl) (own_w hw 59 rfl) (own_w hw 61 rfl) (own_w hw 60 rfl) (own_w hw 62 rfl) (w_9 hw) e9 P0 (argsL := [(.int 2)]) (rest := []) (rm32 l Z a0 hw [] o11 o12 kc13 (zz0.toInt8.toInt32) (zz1.toInt8.toInt32) (zz2.toInt8.toInt32) h0 n0 O0 g_o11 g_o12 P1 P3 P4) (g := (mkF m 177 (l311_0 dp1 dp2 dp3 dp4 dp5 dp6 dp7 dp8 dp9 da10 o11 zz0 zz1 zz2) [(.int 2), (.ref o11)])) rfl (by rw [hml]; rfl) rfl (hb hby at_177) (lenOf pd2 rfl) (W := 0) (c1 := 24) (s1 := 128)
 obtain ⟨rfl, Nq11, e12⟩ := hQ10
 have N10 := Fr.app N7 Nq11
 obtain ⟨fs, hr, hrun, hended, hW, hsame⟩ := X10.leave (v := some (.int 1)) (fun h => by rw [hret] at h; cases h)
 refine ⟨_, _, pre0 _ ?_, hrun, hended, _, _, rfl, ?_, ⟨_, rfl⟩, hW, hsame.mono (by decide) (by decide)⟩
 ·
  refine yal X0 hx hby at_143 rfl rfl ?_
  refine st1 _ ?_
  refine XS.iconst X1.here hx rfl (hb hby at_148) ?_
  refine yno X1 hx hby at_149 (teq (by decide : (3 : Int32) = (3 : Int32))).2 ?_
  refine yal X1 hx hby at_152 rfl rfl ?_
  refine XS.iconst X1.here hx rfl (hb hby at_154) ?_
  refine st4 _ ?_
  refine yil X4 hx hby at_158 rfl ?_
  refine yno X4 hx hby at_160 (teq (by rw [own_g1 (x := zz0) (by have q0 := bzz0; have q1 := own_lt1 (n := 256) (k := (256 : Int32)) (by decide) hC0; omega)] : ((zz0.toInt8.toInt32) &&& (255 : Int32)) = zz0)).2 ?_
  refine yal X4 hx hby at_163 rfl rfl ?_
  refine XS.iconst X4.here hx rfl (hb hby at_165) ?_
  refine st7 _ ?_
  refine yil X7 hx hby at_169 rfl ?_
  refine yno X7 hx hby at_171 (teq (by rw [own_g1 (x := zz1) (by have q0 := bzz1; have q1 := own_lt1 (n := 256) (k := (256 : Int32)) (by decide) hC1; omega)] : ((zz1.toInt8.toInt32) &&& (255 : Int32)) = zz1)).2 ?_
  refine yal X7 hx hby at_174 rfl rfl ?_
  refine XS.iconst X7.here hx rfl (hb hby at_176) ?_
  refine st10 _ ?_
  refine yil X10 hx hby at_180 rfl ?_
  refine yno X10 hx hby at_182 (teq (by rw [own_g1 (x := zz2) (by have q0 := bzz2; have q1 := own_lt1 (n := 256) (k := (256 : Int32)) (by decide) hC2; omega)] : ((zz2.toInt8.toInt32) &&& (255 : Int32)) = zz2)).2 ?_
  refine XS.iconst X10.here hx rfl (hb hby at_185) ?_
  refine ygo X10 hx hby 186 190 rfl at_186 (by decide) ?_
  show Steps p.tables e below (T10.setTop (mkF m 190 (l311_0 dp1 dp2 dp3 dp4 dp5 dp6 dp7 dp8 dp9 da10 o11 zz0 zz1 zz2) [(.int 1)])) _
  exact retN X10 hx (t := .boolean) hret (by simp) (hb hby at_190) hr
 ·
  show Q0 n0 _ T10.heap _
  rw [e12]
  exact ⟨rfl, N10⟩
theorem ef33 (m : MethodId) (x0 : Addr) : entryFrame m #[(.ref x0)] 1 = mkF m 0 #[.val (.ref x0)] [] := by first | (simp [entryFrame, mkF, argsToLocals, Value.category]; done) | rfl
def Q33 (Z : State) (o1 o2 : Addr) (h0 : Heap) (n0 : Nat) (v : Option Value) (h : Heap) (L : List Loc) : Prop :=
  (v = some (.int 3) ∧ Fr n0 L ∧ h = h0)
set_option maxRecDepth 65536 in
set_option maxHeartbeats 40000000 in
theorem rm33 (l : Launch) (Z : State) (a0 : Array Value) (hw : HW a0 Z) (ws : List Jvm.Cond) (o1 o2 : Addr) (h0 : Heap) (n0 : Nat) (O0 : Old Z n0 h0) (g_o1 : n0 ≤ o1) (g_o2 : n0 ≤ o2) (P2 : Fld Z h0 o1 "com/example/driftless/driftless/CodePoints" "length" "I" (.int 3)) :
    MF l yn10 prog_6_method_3_code 1 (some .int) ws ({ frames := 0, cells := 0, slots := 0, locals := 0 } : Room) #[(.ref o1)] Z h0 (Q33 Z o1 o2 h0 n0) := by
 refine MetFree.of_bodySF (plainFor_of_name pn1) hisR ?_
 intro p e s m args below meth c s₁ Bd hml hP hK
 obtain ⟨rfl, hZ, hh⟩ := hP
 obtain ⟨hx, hby, hown, hret, hlk, X0, e0, N0⟩ := own_bd Bd hh n0
 have pre0 := own_ct s₁ (p := p) (e := e) (below := below) (ef33 m o1)
 obtain ⟨T1, X1, e1, st1⟩ := yag X0 hx hZ hown hby (w_34 hw) e0 P2 0 #[.val (.ref o1)] [] d10_0 d10_1 rfl
 obtain ⟨fs, hr, hrun, hended, hW, hsame⟩ := X1.leave (v := some (.int 3)) (fun h => by rw [hret] at h; cases h)
 refine ⟨_, _, pre0 _ ?_, hrun, hended, _, _, rfl, ?_, ⟨_, rfl⟩, hW, hsame.mono (by decide) (by decide)⟩
 ·
  refine st1 _ ?_
  show Steps p.tables e below (T1.setTop (mkF m 4 #[.val (.ref o1)] [(.int 3)])) _
  exact retI X1 hx hret (hb hby d10_4) hr
 ·
  show Q33 Z o1 o2 h0 n0 _ T1.heap _
  rw [e1]
  exact ⟨rfl, N0, rfl⟩
theorem d9_30 : decode prog_6_method_4_code 30 = .ok (.iload_n 3, 1) := by decide +kernel
theorem d9_31 : decode prog_6_method_4_code 31 = .ok (.bipush 8, 2) := by decide +kernel
theorem d9_33 : decode prog_6_method_4_code 33 = .ok (.ishl, 1) := by decide +kernel
theorem d9_34 : decode prog_6_method_4_code 34 = .ok (.aload_n 0, 1) := by decide +kernel
theorem d9_35 : decode prog_6_method_4_code 35 = .ok (.getfield 13, 3) := by decide +kernel
theorem d9_38 : decode prog_6_method_4_code 38 = .ok (.iload_n 2, 1) := by decide +kernel
theorem d9_39 : decode prog_6_method_4_code 39 = .ok (.iload 4, 2) := by decide +kernel
theorem d9_41 : decode prog_6_method_4_code 41 = .ok (.iadd, 1) := by decide +kernel
theorem d9_42 : decode prog_6_method_4_code 42 = .ok (.baload, 1) := by decide +kernel
theorem d9_43 : decode prog_6_method_4_code 43 = .ok (.sipush 255, 3) := by decide +kernel
theorem d9_46 : decode prog_6_method_4_code 46 = .ok (.iand, 1) := by decide +kernel
theorem d9_47 : decode prog_6_method_4_code 47 = .ok (.ior, 1) := by decide +kernel
theorem d9_48 : decode prog_6_method_4_code 48 = .ok (.istore_n 3, 1) := by decide +kernel
theorem d9_49 : decode prog_6_method_4_code 49 = .ok (.iinc 4 1, 3) := by decide +kernel
theorem d9_52 : decode prog_6_method_4_code 52 = .ok (.goto (-31), 3) := by decide +kernel
def l328_0 (o1 : Addr) (p4 p5 : Int32) : Array Slot := #[.val (.ref o1), .val (.int 0), .val (.int 0), .val (.int (((p4 &&& (255 : Int32)) <<< ((8 : Int32) &&& 31)) ||| (p5 &&& (255 : Int32)))), .val (.int 2)]
def l328_1 (o1 : Addr) (p4 : Int32) : Array Slot := #[.val (.ref o1), .val (.int 0), .val (.int 0), .val (.int (p4 &&& (255 : Int32))), .val (.int 1)]
def l328_2 (o1 : Addr) : Array Slot := #[.val (.ref o1), .val (.int 0), .val (.int 0), .unset, .unset]
theorem ef34 (m : MethodId) (x0 : Addr) (x1 : Int32) : entryFrame m #[(.ref x0), (.int x1)] 5 = mkF m 0 #[.val (.ref x0), .val (.int x1), .unset, .unset, .unset] [] := by first | (simp [entryFrame, mkF, argsToLocals, Value.category]; done) | rfl
def Q34 (Z : State) (o1 o2 : Addr) (kc3 : ClassId) (p4 p5 : Int32) (p6 p7 : Int32) (p8 p9 : Int32) (h0 : Heap) (n0 : Nat) (v : Option Value) (h : Heap) (L : List Loc) : Prop :=
  (v = some (.int (((p4 &&& (255 : Int32)) <<< ((8 : Int32) &&& 31)) ||| (p5 &&& (255 : Int32)))) ∧ Fr n0 L ∧ h = h0)
set_option maxRecDepth 65536 in
set_option maxHeartbeats 40000000 in
theorem rm34 (l : Launch) (Z : State) (a0 : Array Value) (hw : HW a0 Z) (ws : List Jvm.Cond) (o1 o2 : Addr) (kc3 : ClassId) (p4 p5 : Int32) (p6 p7 : Int32) (p8 p9 : Int32) (h0 : Heap) (n0 : Nat) (O0 : Old Z n0 h0) (g_o1 : n0 ≤ o1) (g_o2 : n0 ≤ o2) (P1 : Fld Z h0 o1 "com/example/driftless/driftless/CodePoints" "bytes" "[B" (.ref o2)) (P3 : Fld Z h0 o1 "com/example/driftless/driftless/CodePoints" "width" "I" (.int 2)) (P4 : Arv Z h0 o2 kc3 .byte (6 : Int32) [(.int p4), (.int p5), (.int p6), (.int p7), (.int p8), (.int p9)] (.int 0)) :
    MF l yn9 prog_6_method_4_code 5 (some .int) ws ({ frames := 0, cells := 0, slots := 0, locals := 0 } : Room) #[(.ref o1), (.int 0)] Z h0 (Q34 Z o1 o2 kc3 p4 p5 p6 p7 p8 p9 h0 n0) := by
 refine MetFree.of_bodySF (plainFor_of_name pn1) hisR ?_
 intro p e s m args below meth c s₁ Bd hml hP hK
 obtain ⟨rfl, hZ, hh⟩ := hP
 obtain ⟨hx, hby, hown, hret, hlk, X0, e0, N0⟩ := own_bd Bd hh n0
 have pre0 := own_ct s₁ (p := p) (e := e) (below := below) (ef34 m o1 (0 : Int32))
 obtain ⟨T1, X1, e1, st1⟩ := yag X0 hx hZ hown hby (w_20 hw) e0 P3 1 #[.val (.ref o1), .val (.int 0), .unset, .unset, .unset] [(.int 0)] d9_1 d9_2 rfl
 obtain ⟨T2, X2, e2, st2⟩ := yag X1 hx hZ hown hby (w_18 hw) e1 P1 7 (l328_2 o1) [] d9_7 d9_8 rfl
 obtain ⟨cl3, Ar3, qa3, Sa3, Na3, Ha3, Ga3⟩ := id (P4)
 have hin3 := inb_of (j := (0 : Int32)) Sa3 ⟨by decide, by decide⟩
 have hat3 : cl3.slots[((0 : Int32)).toNatClampNeg]? = some (.int p4) := Has.at Ha3 hin3 rfl
 obtain ⟨T4, X4, e4, st4⟩ := yag X2 hx hZ hown hby (w_20 hw) e2 P3 23 (l328_1 o1 p4) [(.int 1)] d9_23 d9_24 rfl
 obtain ⟨T5, X5, e5, st5⟩ := yag X4 hx hZ hown hby (w_18 hw) e4 P1 34 (l328_1 o1 p4) [(.int ((p4 &&& (255 : Int32)) <<< ((8 : Int32) &&& 31)))] d9_34 d9_35 rfl
 obtain ⟨cl6, Ar6, qa6, Sa6, Na6, Ha6, Ga6⟩ := id (P4)
 have hin6 := inb_of (j := (1 : Int32)) Sa6 ⟨by decide, by decide⟩
 have hat6 : cl6.slots[((1 : Int32)).toNatClampNeg]? = some (.int p5) := Has.at Ha6 hin6 rfl
 obtain ⟨T7, X7, e7, st7⟩ := yag X5 hx hZ hown hby (w_20 hw) e5 P3 23 (l328_0 o1 p4 p5) [(.int 2)] d9_23 d9_24 rfl
 obtain ⟨fs, hr, hrun, hended, hW, hsame⟩ := X7.leave (v := some (.int (((p4 &&& (255 : Int32)) <<< ((8 : Int32) &&& 31)) ||| (p5 &&& (255 : Int32))))) (fun h => by rw [hret] at h; cases h)
 refine ⟨_, _, pre0 _ ?_, hrun, hended, _, _, rfl, ?_, ⟨_, rfl⟩, hW, hsame.mono (by decide) (by decide)⟩
 ·
  refine yin X0 hx hby d9_0 rfl ?_
  refine st1 _ ?_
  refine XS.imul X1.here hx rfl (hb hby d9_5) rfl ?_
  refine yit X1 hx hby d9_6 (l' := (l328_2 o1)) rfl ?_
  refine st2 _ ?_
  refine yin X2 hx hby d9_11 rfl ?_
  refine X2.baloadBytes hx (j := (0 : Int32)) (v := (.int p4)) (by rw [e2]; exact Ar3.1) (State.isArrayOf_alike hZ.alike Ar3.2.1) Ar3.2.2 hin3 hat3 (g := (mkF m 12 (l328_2 o1) [(.int 0), (.ref o2)])) rfl rfl (hb hby d9_12) _ ?_
  refine XS.sipush X2.here hx rfl (hb hby d9_13) ?_
  refine XS.iand X2.here hx rfl (hb hby d9_16) rfl ?_
  refine yit X2 hx hby d9_17 (l' := #[.val (.ref o1), .val (.int 0), .val (.int 0), .val (.int (p4 &&& (255 : Int32))), .unset]) rfl ?_
  refine XS.iconst X2.here hx rfl (hb hby d9_18) ?_
  refine yis X2 hx hby d9_19 (l' := (l328_1 o1 p4)) rfl ?_
  refine yil X2 hx hby d9_21 rfl ?_
  refine st4 _ ?_
  refine yno X4 hx hby d9_27 (tlt (by decide : (1 : Int32) < (2 : Int32))).2.1 ?_
  refine yin X4 hx hby d9_30 rfl ?_
  refine XS.bipush X4.here hx rfl (hb hby d9_31) ?_
  refine XS.ishl X4.here hx rfl (hb hby d9_33) rfl ?_
  refine st5 _ ?_
  refine yin X5 hx hby d9_38 rfl ?_
  refine yil X5 hx hby d9_39 rfl ?_
  refine yad X5 hx hby d9_41 ?_
  refine X5.baloadBytes hx (j := (1 : Int32)) (v := (.int p5)) (by rw [e5]; exact Ar6.1) (State.isArrayOf_alike hZ.alike Ar6.2.1) Ar6.2.2 hin6 hat6 (g := (mkF m 42 (l328_1 o1 p4) [(.int 1), (.ref o2), (.int ((p4 &&& (255 : Int32)) <<< ((8 : Int32) &&& 31)))])) rfl rfl (hb hby d9_42) _ ?_
  refine XS.sipush X5.here hx rfl (hb hby d9_43) ?_
  refine XS.iand X5.here hx rfl (hb hby d9_46) rfl ?_
  refine XS.ior X5.here hx rfl (hb hby d9_47) rfl ?_
  refine yit X5 hx hby d9_48 (l' := #[.val (.ref o1), .val (.int 0), .val (.int 0), .val (.int (((p4 &&& (255 : Int32)) <<< ((8 : Int32) &&& 31)) ||| (p5 &&& (255 : Int32)))), .val (.int 1)]) rfl ?_
  refine XS.iinc X5.here hx rfl (hb hby d9_49) rfl (l' := (l328_0 o1 p4 p5)) rfl ?_
  refine ygo X5 hx hby 52 21 rfl d9_52 (by decide) ?_
  refine yil X5 hx hby d9_21 rfl ?_
  refine st7 _ ?_
  refine yye X7 hx hby 27 55 rfl d9_27 (flt (by decide : ¬ ((2 : Int32) < (2 : Int32)))).2.1 (by decide) ?_
  refine yin X7 hx hby d9_55 rfl ?_
  show Steps p.tables e below (T7.setTop (mkF m 56 (l328_0 o1 p4 p5) [(.int (((p4 &&& (255 : Int32)) <<< ((8 : Int32) &&& 31)) ||| (p5 &&& (255 : Int32))))])) _
  exact retI X7 hx hret (hb hby d9_56) hr
 ·
  show Q34 Z o1 o2 kc3 p4 p5 p6 p7 p8 p9 h0 n0 _ T7.heap _
  rw [e7]
  exact ⟨rfl, N0, rfl⟩
def l329_0 (o1 : Addr) (p6 p7 : Int32) : Array Slot := #[.val (.ref o1), .val (.int 1), .val (.int 2), .val (.int (((p6 &&& (255 : Int32)) <<< ((8 : Int32) &&& 31)) ||| (p7 &&& (255 : Int32)))), .val (.int 2)]
def l329_1 (o1 : Addr) (p6 : Int32) : Array Slot := #[.val (.ref o1), .val (.int 1), .val (.int 2), .val (.int (p6 &&& (255 : Int32))), .val (.int 1)]
def l329_2 (o1 : Addr) : Array Slot := #[.val (.ref o1), .val (.int 1), .val (.int 2), .unset, .unset]
theorem ef35 (m : MethodId) (x0 : Addr) (x1 : Int32) : entryFrame m #[(.ref x0), (.int x1)] 5 = mkF m 0 #[.val (.ref x0), .val (.int x1), .unset, .unset, .unset] [] := by first | (simp [entryFrame, mkF, argsToLocals, Value.category]; done) | rfl
def Q35 (Z : State) (o1 o2 : Addr) (kc3 : ClassId) (p4 p5 : Int32) (p6 p7 : Int32) (p8 p9 : Int32) (h0 : Heap) (n0 : Nat) (v : Option Value) (h : Heap) (L : List Loc) : Prop :=
  (v = some (.int (((p6 &&& (255 : Int32)) <<< ((8 : Int32) &&& 31)) ||| (p7 &&& (255 : Int32)))) ∧ Fr n0 L ∧ h = h0)
set_option maxRecDepth 65536 in
set_option maxHeartbeats 40000000 in
theorem rm35 (l : Launch) (Z : State) (a0 : Array Value) (hw : HW a0 Z) (ws : List Jvm.Cond) (o1 o2 : Addr) (kc3 : ClassId) (p4 p5 : Int32) (p6 p7 : Int32) (p8 p9 : Int32) (h0 : Heap) (n0 : Nat) (O0 : Old Z n0 h0) (g_o1 : n0 ≤ o1) (g_o2 : n0 ≤ o2) (P1 : Fld Z h0 o1 "com/example/driftless/driftless/CodePoints" "bytes" "[B" (.ref o2)) (P3 : Fld Z h0 o1 "com/example/driftless/driftless/CodePoints" "width" "I" (.int 2)) (P4 : Arv Z h0 o2 kc3 .byte (6 : Int32) [(.int p4), (.int p5), (.int p6), (.int p7), (.int p8), (.int p9)] (.int 0)) :
    MF l yn9 prog_6_method_4_code 5 (some .int) ws ({ frames := 0, cells := 0, slots := 0, locals := 0 } : Room) #[(.ref o1), (.int 1)] Z h0 (Q35 Z o1 o2 kc3 p4 p5 p6 p7 p8 p9 h0 n0) := by
 refine MetFree.of_bodySF (plainFor_of_name pn1) hisR ?_
 intro p e s m args below meth c s₁ Bd hml hP hK
 obtain ⟨rfl, hZ, hh⟩ := hP
 obtain ⟨hx, hby, hown, hret, hlk, X0, e0, N0⟩ := own_bd Bd hh n0
 have pre0 := own_ct s₁ (p := p) (e := e) (below := below) (ef35 m o1 (1 : Int32))
 obtain ⟨T1, X1, e1, st1⟩ := yag X0 hx hZ hown hby (w_20 hw) e0 P3 1 #[.val (.ref o1), .val (.int 1), .unset, .unset, .unset] [(.int 1)] d9_1 d9_2 rfl
 obtain ⟨T2, X2, e2, st2⟩ := yag X1 hx hZ hown hby (w_18 hw) e1 P1 7 (l329_2 o1) [] d9_7 d9_8 rfl
 obtain ⟨cl3, Ar3, qa3, Sa3, Na3, Ha3, Ga3⟩ := id (P4)
 have hin3 := inb_of (j := (2 : Int32)) Sa3 ⟨by decide, by decide⟩
 have hat3 : cl3.slots[((2 : Int32)).toNatClampNeg]? = some (.int p6) := Has.at Ha3 hin3 rfl
 obtain ⟨T4, X4, e4, st4⟩ := yag X2 hx hZ hown hby (w_20 hw) e2 P3 23 (l329_1 o1 p6) [(.int 1)] d9_23 d9_24 rfl
 obtain ⟨T5, X5, e5, st5⟩ := yag X4 hx hZ hown hby (w_18 hw) e4 P1 34 (l329_1 o1 p6) [(.int ((p6 &&& (255 : Int32)) <<< ((8 : Int32) &&& 31)))] d9_34 d9_35 rfl
 obtain ⟨cl6, Ar6, qa6, Sa6, Na6, Ha6, Ga6⟩ := id (P4)
 have hin6 := inb_of (j := (3 : Int32)) Sa6 ⟨by decide, by decide⟩
 have hat6 : cl6.slots[((3 : Int32)).toNatClampNeg]? = some (.int p7) := Has.at Ha6 hin6 rfl
 obtain ⟨T7, X7, e7, st7⟩ := yag X5 hx hZ hown hby (w_20 hw) e5 P3 23 (l329_0 o1 p6 p7) [(.int 2)] d9_23 d9_24 rfl
 obtain ⟨fs, hr, hrun, hended, hW, hsame⟩ := X7.leave (v := some (.int (((p6 &&& (255 : Int32)) <<< ((8 : Int32) &&& 31)) ||| (p7 &&& (255 : Int32))))) (fun h => by rw [hret] at h; cases h)
 refine ⟨_, _, pre0 _ ?_, hrun, hended, _, _, rfl, ?_, ⟨_, rfl⟩, hW, hsame.mono (by decide) (by decide)⟩
 ·
  refine yin X0 hx hby d9_0 rfl ?_
  refine st1 _ ?_
  refine XS.imul X1.here hx rfl (hb hby d9_5) rfl ?_
  refine yit X1 hx hby d9_6 (l' := (l329_2 o1)) rfl ?_
  refine st2 _ ?_
  refine yin X2 hx hby d9_11 rfl ?_
  refine X2.baloadBytes hx (j := (2 : Int32)) (v := (.int p6)) (by rw [e2]; exact Ar3.1) (State.isArrayOf_alike hZ.alike Ar3.2.1) Ar3.2.2 hin3 hat3 (g := (mkF m 12 (l329_2 o1) [(.int 2), (.ref o2)])) rfl rfl (hb hby d9_12) _ ?_
  refine XS.sipush X2.here hx rfl (hb hby d9_13) ?_
  refine XS.iand X2.here hx rfl (hb hby d9_16) rfl ?_
  refine yit X2 hx hby d9_17 (l' := #[.val (.ref o1), .val (.int 1), .val (.int 2), .val (.int (p6 &&& (255 : Int32))), .unset]) rfl ?_
  refine XS.iconst X2.here hx rfl (hb hby d9_18) ?_
  refine yis X2 hx hby d9_19 (l' := (l329_1 o1 p6)) rfl ?_
  refine yil X2 hx hby d9_21 rfl ?_
  refine st4 _ ?_
  refine yno X4 hx hby d9_27 (tlt (by decide : (1 : Int32) < (2 : Int32))).2.1 ?_
  refine yin X4 hx hby d9_30 rfl ?_
  refine XS.bipush X4.here hx rfl (hb hby d9_31) ?_
  refine XS.ishl X4.here hx rfl (hb hby d9_33) rfl ?_
  refine st5 _ ?_
  refine yin X5 hx hby d9_38 rfl ?_
  refine yil X5 hx hby d9_39 rfl ?_
  refine yad X5 hx hby d9_41 ?_
  refine X5.baloadBytes hx (j := (3 : Int32)) (v := (.int p7)) (by rw [e5]; exact Ar6.1) (State.isArrayOf_alike hZ.alike Ar6.2.1) Ar6.2.2 hin6 hat6 (g := (mkF m 42 (l329_1 o1 p6) [(.int 3), (.ref o2), (.int ((p6 &&& (255 : Int32)) <<< ((8 : Int32) &&& 31)))])) rfl rfl (hb hby d9_42) _ ?_
  refine XS.sipush X5.here hx rfl (hb hby d9_43) ?_
  refine XS.iand X5.here hx rfl (hb hby d9_46) rfl ?_
  refine XS.ior X5.here hx rfl (hb hby d9_47) rfl ?_
  refine yit X5 hx hby d9_48 (l' := #[.val (.ref o1), .val (.int 1), .val (.int 2), .val (.int (((p6 &&& (255 : Int32)) <<< ((8 : Int32) &&& 31)) ||| (p7 &&& (255 : Int32)))), .val (.int 1)]) rfl ?_
  refine XS.iinc X5.here hx rfl (hb hby d9_49) rfl (l' := (l329_0 o1 p6 p7)) rfl ?_
  refine ygo X5 hx hby 52 21 rfl d9_52 (by decide) ?_
  refine yil X5 hx hby d9_21 rfl ?_
  refine st7 _ ?_
  refine yye X7 hx hby 27 55 rfl d9_27 (flt (by decide : ¬ ((2 : Int32) < (2 : Int32)))).2.1 (by decide) ?_
  refine yin X7 hx hby d9_55 rfl ?_
  show Steps p.tables e below (T7.setTop (mkF m 56 (l329_0 o1 p6 p7) [(.int (((p6 &&& (255 : Int32)) <<< ((8 : Int32) &&& 31)) ||| (p7 &&& (255 : Int32))))])) _
  exact retI X7 hx hret (hb hby d9_56) hr
 ·
  show Q35 Z o1 o2 kc3 p4 p5 p6 p7 p8 p9 h0 n0 _ T7.heap _
  rw [e7]
  exact ⟨rfl, N0, rfl⟩
def l330_0 (o1 : Addr) (p8 p9 : Int32) : Array Slot := #[.val (.ref o1), .val (.int 2), .val (.int 4), .val (.int (((p8 &&& (255 : Int32)) <<< ((8 : Int32) &&& 31)) ||| (p9 &&& (255 : Int32)))), .val (.int 2)]
def l330_1 (o1 : Addr) (p8 : Int32) : Array Slot := #[.val (.ref o1), .val (.int 2), .val (.int 4), .val (.int (p8 &&& (255 : Int32))), .val (.int 1)]
def l330_2 (o1 : Addr) : Array Slot := #[.val (.ref o1), .val (.int 2), .val (.int 4), .unset, .unset]
theorem ef36 (m : MethodId) (x0 : Addr) (x1 : Int32) : entryFrame m #[(.ref x0), (.int x1)] 5 = mkF m 0 #[.val (.ref x0), .val (.int x1), .unset, .unset, .unset] [] := by first | (simp [entryFrame, mkF, argsToLocals, Value.category]; done) | rfl
def Q36 (Z : State) (o1 o2 : Addr) (kc3 : ClassId) (p4 p5 : Int32) (p6 p7 : Int32) (p8 p9 : Int32) (h0 : Heap) (n0 : Nat) (v : Option Value) (h : Heap) (L : List Loc) : Prop :=
  (v = some (.int (((p8 &&& (255 : Int32)) <<< ((8 : Int32) &&& 31)) ||| (p9 &&& (255 : Int32)))) ∧ Fr n0 L ∧ h = h0)
set_option maxRecDepth 65536 in
set_option maxHeartbeats 40000000 in
theorem rm36 (l : Launch) (Z : State) (a0 : Array Value) (hw : HW a0 Z) (ws : List Jvm.Cond) (o1 o2 : Addr) (kc3 : ClassId) (p4 p5 : Int32) (p6 p7 : Int32) (p8 p9 : Int32) (h0 : Heap) (n0 : Nat) (O0 : Old Z n0 h0) (g_o1 : n0 ≤ o1) (g_o2 : n0 ≤ o2) (P1 : Fld Z h0 o1 "com/example/driftless/driftless/CodePoints" "bytes" "[B" (.ref o2)) (P3 : Fld Z h0 o1 "com/example/driftless/driftless/CodePoints" "width" "I" (.int 2)) (P4 : Arv Z h0 o2 kc3 .byte (6 : Int32) [(.int p4), (.int p5), (.int p6), (.int p7), (.int p8), (.int p9)] (.int 0)) :
    MF l yn9 prog_6_method_4_code 5 (some .int) ws ({ frames := 0, cells := 0, slots := 0, locals := 0 } : Room) #[(.ref o1), (.int 2)] Z h0 (Q36 Z o1 o2 kc3 p4 p5 p6 p7 p8 p9 h0 n0) := by
 refine MetFree.of_bodySF (plainFor_of_name pn1) hisR ?_
 intro p e s m args below meth c s₁ Bd hml hP hK
 obtain ⟨rfl, hZ, hh⟩ := hP
 obtain ⟨hx, hby, hown, hret, hlk, X0, e0, N0⟩ := own_bd Bd hh n0
 have pre0 := own_ct s₁ (p := p) (e := e) (below := below) (ef36 m o1 (2 : Int32))
 obtain ⟨T1, X1, e1, st1⟩ := yag X0 hx hZ hown hby (w_20 hw) e0 P3 1 #[.val (.ref o1), .val (.int 2), .unset, .unset, .unset] [(.int 2)] d9_1 d9_2 rfl
 obtain ⟨T2, X2, e2, st2⟩ := yag X1 hx hZ hown hby (w_18 hw) e1 P1 7 (l330_2 o1) [] d9_7 d9_8 rfl
 obtain ⟨cl3, Ar3, qa3, Sa3, Na3, Ha3, Ga3⟩ := id (P4)
 have hin3 := inb_of (j := (4 : Int32)) Sa3 ⟨by decide, by decide⟩
 have hat3 : cl3.slots[((4 : Int32)).toNatClampNeg]? = some (.int p8) := Has.at Ha3 hin3 rfl
 obtain ⟨T4, X4, e4, st4⟩ := yag X2 hx hZ hown hby (w_20 hw) e2 P3 23 (l330_1 o1 p8) [(.int 1)] d9_23 d9_24 rfl
 obtain ⟨T5, X5, e5, st5⟩ := yag X4 hx hZ hown hby (w_18 hw) e4 P1 34 (l330_1 o1 p8) [(.int ((p8 &&& (255 : Int32)) <<< ((8 : Int32) &&& 31)))] d9_34 d9_35 rfl
 obtain ⟨cl6, Ar6, qa6, Sa6, Na6, Ha6, Ga6⟩ := id (P4)
 have hin6 := inb_of (j := (5 : Int32)) Sa6 ⟨by decide, by decide⟩
 have hat6 : cl6.slots[((5 : Int32)).toNatClampNeg]? = some (.int p9) := Has.at Ha6 hin6 rfl
 obtain ⟨T7, X7, e7, st7⟩ := yag X5 hx hZ hown hby (w_20 hw) e5 P3 23 (l330_0 o1 p8 p9) [(.int 2)] d9_23 d9_24 rfl
 obtain ⟨fs, hr, hrun, hended, hW, hsame⟩ := X7.leave (v := some (.int (((p8 &&& (255 : Int32)) <<< ((8 : Int32) &&& 31)) ||| (p9 &&& (255 : Int32))))) (fun h => by rw [hret] at h; cases h)
 refine ⟨_, _, pre0 _ ?_, hrun, hended, _, _, rfl, ?_, ⟨_, rfl⟩, hW, hsame.mono (by decide) (by decide)⟩
 ·
  refine yin X0 hx hby d9_0 rfl ?_
  refine st1 _ ?_
  refine XS.imul X1.here hx rfl (hb hby d9_5) rfl ?_
  refine yit X1 hx hby d9_6 (l' := (l330_2 o1)) rfl ?_
  refine st2 _ ?_
  refine yin X2 hx hby d9_11 rfl ?_
  refine X2.baloadBytes hx (j := (4 : Int32)) (v := (.int p8)) (by rw [e2]; exact Ar3.1) (State.isArrayOf_alike hZ.alike Ar3.2.1) Ar3.2.2 hin3 hat3 (g := (mkF m 12 (l330_2 o1) [(.int 4), (.ref o2)])) rfl rfl (hb hby d9_12) _ ?_
  refine XS.sipush X2.here hx rfl (hb hby d9_13) ?_
  refine XS.iand X2.here hx rfl (hb hby d9_16) rfl ?_
  refine yit X2 hx hby d9_17 (l' := #[.val (.ref o1), .val (.int 2), .val (.int 4), .val (.int (p8 &&& (255 : Int32))), .unset]) rfl ?_
  refine XS.iconst X2.here hx rfl (hb hby d9_18) ?_
  refine yis X2 hx hby d9_19 (l' := (l330_1 o1 p8)) rfl ?_
  refine yil X2 hx hby d9_21 rfl ?_
  refine st4 _ ?_
  refine yno X4 hx hby d9_27 (tlt (by decide : (1 : Int32) < (2 : Int32))).2.1 ?_
  refine yin X4 hx hby d9_30 rfl ?_
  refine XS.bipush X4.here hx rfl (hb hby d9_31) ?_
  refine XS.ishl X4.here hx rfl (hb hby d9_33) rfl ?_
  refine st5 _ ?_
  refine yin X5 hx hby d9_38 rfl ?_
  refine yil X5 hx hby d9_39 rfl ?_
  refine yad X5 hx hby d9_41 ?_
  refine X5.baloadBytes hx (j := (5 : Int32)) (v := (.int p9)) (by rw [e5]; exact Ar6.1) (State.isArrayOf_alike hZ.alike Ar6.2.1) Ar6.2.2 hin6 hat6 (g := (mkF m 42 (l330_1 o1 p8) [(.int 5), (.ref o2), (.int ((p8 &&& (255 : Int32)) <<< ((8 : Int32) &&& 31)))])) rfl rfl (hb hby d9_42) _ ?_
  refine XS.sipush X5.here hx rfl (hb hby d9_43) ?_
  refine XS.iand X5.here hx rfl (hb hby d9_46) rfl ?_
  refine XS.ior X5.here hx rfl (hb hby d9_47) rfl ?_
  refine yit X5 hx hby d9_48 (l' := #[.val (.ref o1), .val (.int 2), .val (.int 4), .val (.int (((p8 &&& (255 : Int32)) <<< ((8 : Int32) &&& 31)) ||| (p9 &&& (255 : Int32)))), .val (.int 1)]) rfl ?_
  refine XS.iinc X5.here hx rfl (hb hby d9_49) rfl (l' := (l330_0 o1 p8 p9)) rfl ?_
  refine ygo X5 hx hby 52 21 rfl d9_52 (by decide) ?_
  refine yil X5 hx hby d9_21 rfl ?_
  refine st7 _ ?_
  refine yye X7 hx hby 27 55 rfl d9_27 (flt (by decide : ¬ ((2 : Int32) < (2 : Int32)))).2.1 (by decide) ?_
  refine yin X7 hx hby d9_55 rfl ?_
  show Steps p.tables e below (T7.setTop (mkF m 56 (l330_0 o1 p8 p9) [(.int (((p8 &&& (255 : Int32)) <<< ((8 : Int32) &&& 31)) ||| (p9 &&& (255 : Int32))))])) _
  exact retI X7 hx hret (hb hby d9_56) hr
 ·
  show Q36 Z o1 o2 kc3 p4 p5 p6 p7 p8 p9 h0 n0 _ T7.heap _
  rw [e7]
  exact ⟨rfl, N0, rfl⟩
def l331_0 (dp1 dp2 : Int32) (dp3 dp4 : Int32) (dp5 dp6 : Int32) (dp7 dp8 dp9 : Int32) (da10 o11 : Addr) (zz0 zz1 zz2 : Int32) : Array Slot := #[.val (.int dp1), .val (.int dp2), .val (.int dp3), .val (.int dp4), .val (.int dp5), .val (.int dp6), .val (.int dp7), .val (.int dp8), .val (.int dp9), .val (.ref da10), .val (.ref o11), .val (.int zz0), .val (.int zz1), .val (.int zz2)]
set_option maxRecDepth 65536 in
set_option maxHeartbeats 40000000 in
theorem ct2 {p : Program} {l : Launch} {e : Env} {s : State} {m : MethodId} {below : List Frame} {meth : Method} {c : Code} {E0 T0 : State} {locs : List Loc} {Z : State} {a0 : Array Value} (hw : HW a0 Z) (o11 o12 : Addr) (kc13 : ClassId) (zz0 zz1 : Int32) (zz2 dp1 : Int32) (dp2 dp3 : Int32) (dp4 dp5 : Int32) (dp6 dp7 : Int32) (dp8 dp9 : Int32) (da10 : Addr) (p1 p2 : Int32) (p3 p4 p5 : Int32) (h0 : Heap) (n0 : Nat) (O0 : Old Z n0 h0)
    (hx : p.tables.exec = Jvm.exec) (hby : c.code = code) (hml : c.maxLocals = 14) (hown : s.vm.findClass "com/example/driftless/driftless/CodePointsGetPinLaw" = some m.cls) (hret : meth.sig.returnType = ret) (hlk : meth.locks = false) (hZ : Z.Warmed39 s.vm)
    (X0 : Stand p l e room_1 s m #[(.int p1), (.int p2), (.int p3), (.int p4), (.int p5)] below meth c T0 locs 24 128) (e0 : T0.heap = h0) (N0 : Fr n0 locs) (pre0 : Go p e below T0 (mkF m 143 (l331_0 dp1 dp2 dp3 dp4 dp5 dp6 dp7 dp8 dp9 da10 o11 zz0 zz1 zz2) []) E0) (g_o11 : n0 ≤ o11) (g_o12 : n0 ≤ o12) (P0 : Exa Z h0 o11 "com/example/driftless/driftless/CodePoints") (P1 : Fld Z h0 o11 "com/example/driftless/driftless/CodePoints" "bytes" "[B" (.ref o12)) (P2 : Fld Z h0 o11 "com/example/driftless/driftless/CodePoints" "length" "I" (.int 3)) (P3 : Fld Z h0 o11 "com/example/driftless/driftless/CodePoints" "width" "I" (.int 2)) (P4 : Arv Z h0 o12 kc13 .byte (6 : Int32) [(.int (((zz0.toUInt32 >>> ((8 : Int32) &&& 31).toUInt32).toInt32).toInt8.toInt32)), (.int (zz0.toInt8.toInt32)), (.int (((zz1.toUInt32 >>> ((8 : Int32) &&& 31).toUInt32).toInt32).toInt8.toInt32)), (.int (zz1.toInt8.toInt32)), (.int (((zz2.toUInt32 >>> ((8 : Int32) &&& 31).toUInt32).toInt32).toInt8.toInt32)), (.int (zz2.toInt8.toInt32))] (.int 0)) (hC0 : zz0 < (65536 : Int32)) (hC1 : zz1 < (65536 : Int32)) (hC2 : zz2 < (65536 : Int32)) (bzz0 : 0 ≤ zz0.toInt ∧ zz0.toInt ≤ 1114111) (bzz1 : 0 ≤ zz1.toInt ∧ zz1.toInt ≤ 1114111) (bzz2 : 0 ≤ zz2.toInt ∧ zz2.toInt ≤ 1114111) :
    ∃ (s₂ : State) (o : Outcome), Steps p.tables e below E0 s₂ ∧ s₂.status = .running ∧ Ended s₂ below o ∧ ∃ v L, o = .returned v ∧ Q0 n0 v s₂.heap L ∧ FrameEnd s o s₂ L 24 128 := by
 obtain ⟨_, T1, L1, X1, hQ1, st1⟩ := own_vb X0 hx hZ hown (y := yn10) (own_w hw 53 rfl) (own_w hw 54 rfl) (own_w hw 56 rfl) (own_w hw 55 rfl) (own_w hw 57 rfl) (w_9 hw) e0 P0 (argsL := []) (rest := []) (rm33 l Z a0 hw [] o11 o12 h0 n0 O0 g_o11 g_o12 P2) (g := (mkF m 145 (l331_0 dp1 dp2 dp3 dp4 dp5 dp6 dp7 dp8 dp9 da10 o11 zz0 zz1 zz2) [(.ref o11)])) rfl (by rw [hml]; rfl) rfl (hb hby at_145) (lenOf pd7 rfl) (W := 0) (c1 := 24) (s1 := 128)
 obtain ⟨rfl, Nq2, e3⟩ := hQ1
 have N1 := Fr.app N0 Nq2
 obtain ⟨_, T4, L4, X4, hQ4, st4⟩ := own_vb X1 hx hZ hown (y := yn9) (own_w hw 58 rfl) (own_w hw 59 rfl) (own_w hw 61 rfl) (own_w hw 60 rfl) (own_w hw 62 rfl) (w_9 hw) e3 P0 (argsL := [(.int 0)]) (rest := []) (rm34 l Z a0 hw [] o11 o12 kc13 ((((zz0.toUInt32 >>> ((8 : Int32) &&& 31).toUInt32).toInt32).toInt8.toInt32)) (zz0.toInt8.toInt32) ((((zz1.toUInt32 >>> ((8 : Int32) &&& 31).toUInt32).toInt32).toInt8.toInt32)) (zz1.toInt8.toInt32) ((((zz2.toUInt32 >>> ((8 : Int32) &&& 31).toUInt32).toInt32).toInt8.toInt32)) (zz2.toInt8.toInt32) h0 n0 O0 g_o11 g_o12 P1 P3 P4) (g := (mkF m 155 (l331_0 dp1 dp2 dp3 dp4 dp5 dp6 dp7 dp8 dp9 da10 o11 zz0 zz1 zz2) [(.int 0), (.ref o11)])) rfl (by rw [hml]; rfl) rfl (hb hby at_155) (lenOf pd2 rfl) (W := 0) (c1 := 24) (s1 := 128)
 obtain ⟨rfl, Nq5, e6⟩ := hQ4
 have N4 := Fr.app N1 Nq5
 obtain ⟨_, T7, L7, X7, hQ7, st7⟩ := own_vb X4 hx hZ hown (y := yn9) (own_w hw 58 rfl) (own_w hw 59 rfl) (own_w hw 61 rfl) (own_w hw 60 rfl) (own_w hw 62 rfl) (w_9 hw) e6 P0 (argsL := [(.int 1)]) (rest := []) (rm35 l Z a0 hw [] o11 o12 kc13 ((((zz0.toUInt32 >>> ((8 : Int32) &&& 31).toUInt32).toInt32).toInt8.toInt32)) (zz0.toInt8.toInt32) ((((zz1.toUInt32 >>> ((8 : Int32) &&& 31).toUInt32).toInt32).toInt8.toInt32)) (zz1.toInt8.toInt32) ((((zz2.toUInt32 >>> ((8 : Int32) &&& 31).toUInt32).toInt32).toInt8.toInt32)) (zz2.toInt8.toInt32) h0 n0 O0 g_o11 g_o12 P1 P3 P4) (g := (mkF m 166 (l331_0 dp1 dp2 dp3 dp4 dp5 dp6 dp7 dp8 dp9 da10 o11 zz0 zz1 zz2) [(.int 1), (.ref o11)])) rfl (by rw [hml]; rfl) rfl (hb hby at_166) (lenOf pd2 rfl) (W := 0) (c1 := 24) (s1 := 128)
 obtain ⟨rfl, Nq8, e9⟩ := hQ7
 have N7 := Fr.app N4 Nq8
 obtain ⟨_, T10, L10, X10, hQ10, st10⟩ := own_vb X7 hx hZ hown (y := yn9) (own_w hw 58 rfl) (own_w hw 59 rfl) (own_w hw 61 rfl) (own_w hw 60 rfl) (own_w hw 62 rfl) (w_9 hw) e9 P0 (argsL := [(.int 2)]) (rest := []) (rm36 l Z a0 hw [] o11 o12 kc13 ((((zz0.toUInt32 >>> ((8 : Int32) &&& 31).toUInt32).toInt32).toInt8.toInt32)) (zz0.toInt8.toInt32) ((((zz1.toUInt32 >>> ((8 : Int32) &&& 31).toUInt32).toInt32).toInt8.toInt32)) (zz1.toInt8.toInt32) ((((zz2.toUInt32 >>> ((8 : Int32) &&& 31).toUInt32).toInt32).toInt8.toInt32)) (zz2.toInt8.toInt32) h0 n0 O0 g_o11 g_o12 P1 P3 P4) (g := (mkF m 177 (l331_0 dp1 dp2 dp3 dp4 dp5 dp6 dp7 dp8 dp9 da10 o11 zz0 zz1 zz2) [(.int 2), (.ref o11)])) rfl (by rw [hml]; rfl) rfl (hb hby at_177) (lenOf pd2 rfl) (W := 0) (c1 := 24) (s1 := 128)
 obtain ⟨rfl, Nq11, e12⟩ := hQ10
 have N10 := Fr.app N7 Nq11
 obtain ⟨fs, hr, hrun, hended, hW, hsame⟩ := X10.leave (v := some (.int 1)) (fun h => by rw [hret] at h; cases h)
 refine ⟨_, _, pre0 _ ?_, hrun, hended, _, _, rfl, ?_, ⟨_, rfl⟩, hW, hsame.mono (by decide) (by decide)⟩
 ·
  refine yal X0 hx hby at_143 rfl rfl ?_
  refine st1 _ ?_
  refine XS.iconst X1.here hx rfl (hb hby at_148) ?_
  refine yno X1 hx hby at_149 (teq (by decide : (3 : Int32) = (3 : Int32))).2 ?_
  refine yal X1 hx hby at_152 rfl rfl ?_
  refine XS.iconst X1.here hx rfl (hb hby at_154) ?_
  refine st4 _ ?_
  refine yil X4 hx hby at_158 rfl ?_
  refine yno X4 hx hby at_160 (teq (by rw [own_g2 (x := zz0) (by have q0 := bzz0; have q1 := own_lt1 (n := 65536) (k := (65536 : Int32)) (by decide) hC0; omega)] : ((((((zz0.toUInt32 >>> ((8 : Int32) &&& 31).toUInt32).toInt32).toInt8.toInt32) &&& (255 : Int32)) <<< ((8 : Int32) &&& 31)) ||| ((zz0.toInt8.toInt32) &&& (255 : Int32))) = zz0)).2 ?_
  refine yal X4 hx hby at_163 rfl rfl ?_
  refine XS.iconst X4.here hx rfl (hb hby at_165) ?_
  refine st7 _ ?_
  refine yil X7 hx hby at_169 rfl ?_
  refine yno X7 hx hby at_171 (teq (by rw [own_g2 (x := zz1) (by have q0 := bzz1; have q1 := own_lt1 (n := 65536) (k := (65536 : Int32)) (by decide) hC1; omega)] : ((((((zz1.toUInt32 >>> ((8 : Int32) &&& 31).toUInt32).toInt32).toInt8.toInt32) &&& (255 : Int32)) <<< ((8 : Int32) &&& 31)) ||| ((zz1.toInt8.toInt32) &&& (255 : Int32))) = zz1)).2 ?_
  refine yal X7 hx hby at_174 rfl rfl ?_
  refine XS.iconst X7.here hx rfl (hb hby at_176) ?_
  refine st10 _ ?_
  refine yil X10 hx hby at_180 rfl ?_
  refine yno X10 hx hby at_182 (teq (by rw [own_g2 (x := zz2) (by have q0 := bzz2; have q1 := own_lt1 (n := 65536) (k := (65536 : Int32)) (by decide) hC2; omega)] : ((((((zz2.toUInt32 >>> ((8 : Int32) &&& 31).toUInt32).toInt32).toInt8.toInt32) &&& (255 : Int32)) <<< ((8 : Int32) &&& 31)) ||| ((zz2.toInt8.toInt32) &&& (255 : Int32))) = zz2)).2 ?_
  refine XS.iconst X10.here hx rfl (hb hby at_185) ?_
  refine ygo X10 hx hby 186 190 rfl at_186 (by decide) ?_
  show Steps p.tables e below (T10.setTop (mkF m 190 (l331_0 dp1 dp2 dp3 dp4 dp5 dp6 dp7 dp8 dp9 da10 o11 zz0 zz1 zz2) [(.int 1)])) _
  exact retN X10 hx (t := .boolean) hret (by simp) (hb hby at_190) hr
 ·
  show Q0 n0 _ T10.heap _
  rw [e12]
  exact ⟨rfl, N10⟩
theorem ef37 (m : MethodId) (x0 : Addr) : entryFrame m #[(.ref x0)] 1 = mkF m 0 #[.val (.ref x0)] [] := by first | (simp [entryFrame, mkF, argsToLocals, Value.category]; done) | rfl
def Q37 (Z : State) (o1 o2 : Addr) (h0 : Heap) (n0 : Nat) (v : Option Value) (h : Heap) (L : List Loc) : Prop :=
  (v = some (.int 3) ∧ Fr n0 L ∧ h = h0)
set_option maxRecDepth 65536 in
set_option maxHeartbeats 40000000 in
theorem rm37 (l : Launch) (Z : State) (a0 : Array Value) (hw : HW a0 Z) (ws : List Jvm.Cond) (o1 o2 : Addr) (h0 : Heap) (n0 : Nat) (O0 : Old Z n0 h0) (g_o1 : n0 ≤ o1) (g_o2 : n0 ≤ o2) (P2 : Fld Z h0 o1 "com/example/driftless/driftless/CodePoints" "length" "I" (.int 3)) :
    MF l yn10 prog_6_method_3_code 1 (some .int) ws ({ frames := 0, cells := 0, slots := 0, locals := 0 } : Room) #[(.ref o1)] Z h0 (Q37 Z o1 o2 h0 n0) := by
 refine MetFree.of_bodySF (plainFor_of_name pn1) hisR ?_
 intro p e s m args below meth c s₁ Bd hml hP hK
 obtain ⟨rfl, hZ, hh⟩ := hP
 obtain ⟨hx, hby, hown, hret, hlk, X0, e0, N0⟩ := own_bd Bd hh n0
 have pre0 := own_ct s₁ (p := p) (e := e) (below := below) (ef37 m o1)
 obtain ⟨T1, X1, e1, st1⟩ := yag X0 hx hZ hown hby (w_34 hw) e0 P2 0 #[.val (.ref o1)] [] d10_0 d10_1 rfl
 obtain ⟨fs, hr, hrun, hended, hW, hsame⟩ := X1.leave (v := some (.int 3)) (fun h => by rw [hret] at h; cases h)
 refine ⟨_, _, pre0 _ ?_, hrun, hended, _, _, rfl, ?_, ⟨_, rfl⟩, hW, hsame.mono (by decide) (by decide)⟩
 ·
  refine st1 _ ?_
  show Steps p.tables e below (T1.setTop (mkF m 4 #[.val (.ref o1)] [(.int 3)])) _
  exact retI X1 hx hret (hb hby d10_4) hr
 ·
  show Q37 Z o1 o2 h0 n0 _ T1.heap _
  rw [e1]
  exact ⟨rfl, N0, rfl⟩
def l333_0 (o1 : Addr) (p4 p5 p6 : Int32) : Array Slot := #[.val (.ref o1), .val (.int 0), .val (.int 0), .val (.int (((((p4 &&& (255 : Int32)) <<< ((8 : Int32) &&& 31)) ||| (p5 &&& (255 : Int32))) <<< ((8 : Int32) &&& 31)) ||| (p6 &&& (255 : Int32)))), .val (.int 3)]
def l333_1 (o1 : Addr) (p4 p5 : Int32) : Array Slot := #[.val (.ref o1), .val (.int 0), .val (.int 0), .val (.int (((p4 &&& (255 : Int32)) <<< ((8 : Int32) &&& 31)) ||| (p5 &&& (255 : Int32)))), .val (.int 2)]
def l333_2 (o1 : Addr) (p4 : Int32) : Array Slot := #[.val (.ref o1), .val (.int 0), .val (.int 0), .val (.int (p4 &&& (255 : Int32))), .val (.int 1)]
def l333_3 (o1 : Addr) : Array Slot := #[.val (.ref o1), .val (.int 0), .val (.int 0), .unset, .unset]
theorem ef38 (m : MethodId) (x0 : Addr) (x1 : Int32) : entryFrame m #[(.ref x0), (.int x1)] 5 = mkF m 0 #[.val (.ref x0), .val (.int x1), .unset, .unset, .unset] [] := by first | (simp [entryFrame, mkF, argsToLocals, Value.category]; done) | rfl
def Q38 (Z : State) (o1 o2 : Addr) (kc3 : ClassId) (p4 p5 : Int32) (p6 p7 : Int32) (p8 p9 : Int32) (p10 p11 p12 : Int32) (h0 : Heap) (n0 : Nat) (v : Option Value) (h : Heap) (L : List Loc) : Prop :=
  (v = some (.int (((((p4 &&& (255 : Int32)) <<< ((8 : Int32) &&& 31)) ||| (p5 &&& (255 : Int32))) <<< ((8 : Int32) &&& 31)) ||| (p6 &&& (255 : Int32)))) ∧ Fr n0 L ∧ h = h0)
set_option maxRecDepth 65536 in
set_option maxHeartbeats 40000000 in
theorem rm38 (l : Launch) (Z : State) (a0 : Array Value) (hw : HW a0 Z) (ws : List Jvm.Cond) (o1 o2 : Addr) (kc3 : ClassId) (p4 p5 : Int32) (p6 p7 : Int32) (p8 p9 : Int32) (p10 p11 p12 : Int32) (h0 : Heap) (n0 : Nat) (O0 : Old Z n0 h0) (g_o1 : n0 ≤ o1) (g_o2 : n0 ≤ o2) (P1 : Fld Z h0 o1 "com/example/driftless/driftless/CodePoints" "bytes" "[B" (.ref o2)) (P3 : Fld Z h0 o1 "com/example/driftless/driftless/CodePoints" "width" "I" (.int 3)) (P4 : Arv Z h0 o2 kc3 .byte (9 : Int32) [(.int p4), (.int p5), (.int p6), (.int p7), (.int p8), (.int p9), (.int p10), (.int p11), (.int p12)] (.int 0)) :
    MF l yn9 prog_6_method_4_code 5 (some .int) ws ({ frames := 0, cells := 0, slots := 0, locals := 0 } : Room) #[(.ref o1), (.int 0)] Z h0 (Q38 Z o1 o2 kc3 p4 p5 p6 p7 p8 p9 p10 p11 p12 h0 n0) := by
 refine MetFree.of_bodySF (plainFor_of_name pn1) hisR ?_
 intro p e s m args below meth c s₁ Bd hml hP hK
 obtain ⟨rfl, hZ, hh⟩ := hP
 obtain ⟨hx, hby, hown, hret, hlk, X0, e0, N0⟩ := own_bd Bd hh n0
 have pre0 := own_ct s₁ (p := p) (e := e) (below := below) (ef38 m o1 (0 : Int32))
 obtain ⟨T1, X1, e1, st1⟩ := yag X0 hx hZ hown hby (w_20 hw) e0 P3 1 #[.val (.ref o1), .val (.int 0), .unset, .unset, .unset] [(.int 0)] d9_1 d9_2 rfl
 obtain ⟨T2, X2, e2, st2⟩ := yag X1 hx hZ hown hby (w_18 hw) e1 P1 7 (l333_3 o1) [] d9_7 d9_8 rfl
 obtain ⟨cl3, Ar3, qa3, Sa3, Na3, Ha3, Ga3⟩ := id (P4)
 have hin3 := inb_of (j := (0 : Int32)) Sa3 ⟨by decide, by decide⟩
 have hat3 : cl3.slots[((0 : Int32)).toNatClampNeg]? = some (.int p4) := Has.at Ha3 hin3 rfl
 obtain ⟨T4, X4, e4, st4⟩ := yag X2 hx hZ hown hby (w_20 hw) e2 P3 23 (l333_2 o1 p4) [(.int 1)] d9_23 d9_24 rfl
 obtain ⟨T5, X5, e5, st5⟩ := yag X4 hx hZ hown hby (w_18 hw) e4 P1 34 (l333_2 o1 p4) [(.int ((p4 &&& (255 : Int32)) <<< ((8 : Int32) &&& 31)))] d9_34 d9_35 rfl
 obtain ⟨cl6, Ar6, qa6, Sa6, Na6, Ha6, Ga6⟩ := id (P4)
 have hin6 := inb_of (j := (1 : Int32)) Sa6 ⟨by decide, by decide⟩
 have hat6 : cl6.slots[((1 : Int32)).toNatClampNeg]? = some (.int p5) := Has.at Ha6 hin6 rfl
 obtain ⟨T7, X7, e7, st7⟩ := yag X5 hx hZ hown hby (w_20 hw) e5 P3 23 (l333_1 o1 p4 p5) [(.int 2)] d9_23 d9_24 rfl
 obtain ⟨T8, X8, e8, st8⟩ := yag X7 hx hZ hown hby (w_18 hw) e7 P1 34 (l333_1 o1 p4 p5) [(.int ((((p4 &&& (255 : Int32)) <<< ((8 : Int32) &&& 31)) ||| (p5 &&& (255 : Int32))) <<< ((8 : Int32) &&& 31)))] d9_34 d9_35 rfl
 obtain ⟨cl9, Ar9, qa9, Sa9, Na9, Ha9, Ga9⟩ := id (P4)
 have hin9 := inb_of (j := (2 : Int32)) Sa9 ⟨by decide, by decide⟩
 have hat9 : cl9.slots[((2 : Int32)).toNatClampNeg]? = some (.int p6) := Has.at Ha9 hin9 rfl
 obtain ⟨T10, X10, e10, st10⟩ := yag X8 hx hZ hown hby (w_20 hw) e8 P3 23 (l333_0 o1 p4 p5 p6) [(.int 3)] d9_23 d9_24 rfl
 obtain ⟨fs, hr, hrun, hended, hW, hsame⟩ := X10.leave (v := some (.int (((((p4 &&& (255 : Int32)) <<< ((8 : Int32) &&& 31)) ||| (p5 &&& (255 : Int32))) <<< ((8 : Int32) &&& 31)) ||| (p6 &&& (255 : Int32))))) (fun h => by rw [hret] at h; cases h)
 refine ⟨_, _, pre0 _ ?_, hrun, hended, _, _, rfl, ?_, ⟨_, rfl⟩, hW, hsame.mono (by decide) (by decide)⟩
 ·
  refine yin X0 hx hby d9_0 rfl ?_
  refine st1 _ ?_
  refine XS.imul X1.here hx rfl (hb hby d9_5) rfl ?_
  refine yit X1 hx hby d9_6 (l' := (l333_3 o1)) rfl ?_
  refine st2 _ ?_
  refine yin X2 hx hby d9_11 rfl ?_
  refine X2.baloadBytes hx (j := (0 : Int32)) (v := (.int p4)) (by rw [e2]; exact Ar3.1) (State.isArrayOf_alike hZ.alike Ar3.2.1) Ar3.2.2 hin3 hat3 (g := (mkF m 12 (l333_3 o1) [(.int 0), (.ref o2)])) rfl rfl (hb hby d9_12) _ ?_
  refine XS.sipush X2.here hx rfl (hb hby d9_13) ?_
  refine XS.iand X2.here hx rfl (hb hby d9_16) rfl ?_
  refine yit X2 hx hby d9_17 (l' := #[.val (.ref o1), .val (.int 0), .val (.int 0), .val (.int (p4 &&& (255 : Int32))), .unset]) rfl ?_
  refine XS.iconst X2.here hx rfl (hb hby d9_18) ?_
  refine yis X2 hx hby d9_19 (l' := (l333_2 o1 p4)) rfl ?_
  refine yil X2 hx hby d9_21 rfl ?_
  refine st4 _ ?_
  refine yno X4 hx hby d9_27 (tlt (by decide : (1 : Int32) < (3 : Int32))).2.1 ?_
  refine yin X4 hx hby d9_30 rfl ?_
  refine XS.bipush X4.here hx rfl (hb hby d9_31) ?_
  refine XS.ishl X4.here hx rfl (hb hby d9_33) rfl ?_
  refine st5 _ ?_
  refine yin X5 hx hby d9_38 rfl ?_
  refine yil X5 hx hby d9_39 rfl ?_
  refine yad X5 hx hby d9_41 ?_
  refine X5.baloadBytes hx (j := (1 : Int32)) (v := (.int p5)) (by rw [e5]; exact Ar6.1) (State.isArrayOf_alike hZ.alike Ar6.2.1) Ar6.2.2 hin6 hat6 (g := (mkF m 42 (l333_2 o1 p4) [(.int 1), (.ref o2), (.int ((p4 &&& (255 : Int32)) <<< ((8 : Int32) &&& 31)))])) rfl rfl (hb hby d9_42) _ ?_
  refine XS.sipush X5.here hx rfl (hb hby d9_43) ?_
  refine XS.iand X5.here hx rfl (hb hby d9_46) rfl ?_
  refine XS.ior X5.here hx rfl (hb hby d9_47) rfl ?_
  refine yit X5 hx hby d9_48 (l' := #[.val (.ref o1), .val (.int 0), .val (.int 0), .val (.int (((p4 &&& (255 : Int32)) <<< ((8 : Int32) &&& 31)) ||| (p5 &&& (255 : Int32)))), .val (.int 1)]) rfl ?_
  refine XS.iinc X5.here hx rfl (hb hby d9_49) rfl (l' := (l333_1 o1 p4 p5)) rfl ?_
  refine ygo X5 hx hby 52 21 rfl d9_52 (by decide) ?_
  refine yil X5 hx hby d9_21 rfl ?_
  refine st7 _ ?_
  refine yno X7 hx hby d9_27 (tlt (by decide : (2 : Int32) < (3 : Int32))).2.1 ?_
  refine yin X7 hx hby d9_30 rfl ?_
  refine XS.bipush X7.here hx rfl (hb hby d9_31) ?_
  refine XS.ishl X7.here hx rfl (hb hby d9_33) rfl ?_
  refine st8 _ ?_
  refine yin X8 hx hby d9_38 rfl ?_
  refine yil X8 hx hby d9_39 rfl ?_
  refine yad X8 hx hby d9_41 ?_
  refine X8.baloadBytes hx (j := (2 : Int32)) (v := (.int p6)) (by rw [e8]; exact Ar9.1) (State.isArrayOf_alike hZ.alike Ar9.2.1) Ar9.2.2 hin9 hat9 (g := (mkF m 42 (l333_1 o1 p4 p5) [(.int 2), (.ref o2), (.int ((((p4 &&& (255 : Int32)) <<< ((8 : Int32) &&& 31)) ||| (p5 &&& (255 : Int32))) <<< ((8 : Int32) &&& 31)))])) rfl rfl (hb hby d9_42) _ ?_
  refine XS.sipush X8.here hx rfl (hb hby d9_43) ?_
  refine XS.iand X8.here hx rfl (hb hby d9_46) rfl ?_
  refine XS.ior X8.here hx rfl (hb hby d9_47) rfl ?_
  refine yit X8 hx hby d9_48 (l' := #[.val (.ref o1), .val (.int 0), .val (.int 0), .val (.int (((((p4 &&& (255 : Int32)) <<< ((8 : Int32) &&& 31)) ||| (p5 &&& (255 : Int32))) <<< ((8 : Int32) &&& 31)) ||| (p6 &&& (255 : Int32)))), .val (.int 2)]) rfl ?_
  refine XS.iinc X8.here hx rfl (hb hby d9_49) rfl (l' := (l333_0 o1 p4 p5 p6)) rfl ?_
  refine ygo X8 hx hby 52 21 rfl d9_52 (by decide) ?_
  refine yil X8 hx hby d9_21 rfl ?_
  refine st10 _ ?_
  refine yye X10 hx hby 27 55 rfl d9_27 (flt (by decide : ¬ ((3 : Int32) < (3 : Int32)))).2.1 (by decide) ?_
  refine yin X10 hx hby d9_55 rfl ?_
  show Steps p.tables e below (T10.setTop (mkF m 56 (l333_0 o1 p4 p5 p6) [(.int (((((p4 &&& (255 : Int32)) <<< ((8 : Int32) &&& 31)) ||| (p5 &&& (255 : Int32))) <<< ((8 : Int32) &&& 31)) ||| (p6 &&& (255 : Int32))))])) _
  exact retI X10 hx hret (hb hby d9_56) hr
 ·
  show Q38 Z o1 o2 kc3 p4 p5 p6 p7 p8 p9 p10 p11 p12 h0 n0 _ T10.heap _
  rw [e10]
  exact ⟨rfl, N0, rfl⟩
def l334_0 (o1 : Addr) (p7 p8 p9 : Int32) : Array Slot := #[.val (.ref o1), .val (.int 1), .val (.int 3), .val (.int (((((p7 &&& (255 : Int32)) <<< ((8 : Int32) &&& 31)) ||| (p8 &&& (255 : Int32))) <<< ((8 : Int32) &&& 31)) ||| (p9 &&& (255 : Int32)))), .val (.int 3)]
def l334_1 (o1 : Addr) (p7 p8 : Int32) : Array Slot := #[.val (.ref o1), .val (.int 1), .val (.int 3), .val (.int (((p7 &&& (255 : Int32)) <<< ((8 : Int32) &&& 31)) ||| (p8 &&& (255 : Int32)))), .val (.int 2)]
def l334_2 (o1 : Addr) (p7 : Int32) : Array Slot := #[.val (.ref o1), .val (.int 1), .val (.int 3), .val (.int (p7 &&& (255 : Int32))), .val (.int 1)]
def l334_3 (o1 : Addr) : Array Slot := #[.val (.ref o1), .val (.int 1), .val (.int 3), .unset, .unset]
theorem ef39 (m : MethodId) (x0 : Addr) (x1 : Int32) : entryFrame m #[(.ref x0), (.int x1)] 5 = mkF m 0 #[.val (.ref x0), .val (.int x1), .unset, .unset, .unset] [] := by first | (simp [entryFrame, mkF, argsToLocals, Value.category]; done) | rfl
def Q39 (Z : State) (o1 o2 : Addr) (kc3 : ClassId) (p4 p5 : Int32) (p6 p7 : Int32) (p8 p9 : Int32) (p10 p11 p12 : Int32) (h0 : Heap) (n0 : Nat) (v : Option Value) (h : Heap) (L : List Loc) : Prop :=
  (v = some (.int (((((p7 &&& (255 : Int32)) <<< ((8 : Int32) &&& 31)) ||| (p8 &&& (255 : Int32))) <<< ((8 : Int32) &&& 31)) ||| (p9 &&& (255 : Int32)))) ∧ Fr n0 L ∧ h = h0)
set_option maxRecDepth 65536 in
set_option maxHeartbeats 40000000 in
theorem rm39 (l : Launch) (Z : State) (a0 : Array Value) (hw : HW a0 Z) (ws : List Jvm.Cond) (o1 o2 : Addr) (kc3 : ClassId) (p4 p5 : Int32) (p6 p7 : Int32) (p8 p9 : Int32) (p10 p11 p12 : Int32) (h0 : Heap) (n0 : Nat) (O0 : Old Z n0 h0) (g_o1 : n0 ≤ o1) (g_o2 : n0 ≤ o2) (P1 : Fld Z h0 o1 "com/example/driftless/driftless/CodePoints" "bytes" "[B" (.ref o2)) (P3 : Fld Z h0 o1 "com/example/driftless/driftless/CodePoints" "width" "I" (.int 3)) (P4 : Arv Z h0 o2 kc3 .byte (9 : Int32) [(.int p4), (.int p5), (.int p6), (.int p7), (.int p8), (.int p9), (.int p10), (.int p11), (.int p12)] (.int 0)) :
    MF l yn9 prog_6_method_4_code 5 (some .int) ws ({ frames := 0, cells := 0, slots := 0, locals := 0 } : Room) #[(.ref o1), (.int 1)] Z h0 (Q39 Z o1 o2 kc3 p4 p5 p6 p7 p8 p9 p10 p11 p12 h0 n0) := by
 refine MetFree.of_bodySF (plainFor_of_name pn1) hisR ?_
 intro p e s m args below meth c s₁ Bd hml hP hK
 obtain ⟨rfl, hZ, hh⟩ := hP
 obtain ⟨hx, hby, hown, hret, hlk, X0, e0, N0⟩ := own_bd Bd hh n0
 have pre0 := own_ct s₁ (p := p) (e := e) (below := below) (ef39 m o1 (1 : Int32))
 obtain ⟨T1, X1, e1, st1⟩ := yag X0 hx hZ hown hby (w_20 hw) e0 P3 1 #[.val (.ref o1), .val (.int 1), .unset, .unset, .unset] [(.int 1)] d9_1 d9_2 rfl
 obtain ⟨T2, X2, e2, st2⟩ := yag X1 hx hZ hown hby (w_18 hw) e1 P1 7 (l334_3 o1) [] d9_7 d9_8 rfl
 obtain ⟨cl3, Ar3, qa3, Sa3, Na3, Ha3, Ga3⟩ := id (P4)
 have hin3 := inb_of (j := (3 : Int32)) Sa3 ⟨by decide, by decide⟩
 have hat3 : cl3.slots[((3 : Int32)).toNatClampNeg]? = some (.int p7) := Has.at Ha3 hin3 rfl
 obtain ⟨T4, X4, e4, st4⟩ := yag X2 hx hZ hown hby (w_20 hw) e2 P3 23 (l334_2 o1 p7) [(.int 1)] d9_23 d9_24 rfl
 obtain ⟨T5, X5, e5, st5⟩ := yag X4 hx hZ hown hby (w_18 hw) e4 P1 34 (l334_2 o1 p7) [(.int ((p7 &&& (255 : Int32)) <<< ((8 : Int32) &&& 31)))] d9_34 d9_35 rfl
 obtain ⟨cl6, Ar6, qa6, Sa6, Na6, Ha6, Ga6⟩ := id (P4)
 have hin6 := inb_of (j := (4 : Int32)) Sa6 ⟨by decide, by decide⟩
 have hat6 : cl6.slots[((4 : Int32)).toNatClampNeg]? = some (.int p8) := Has.at Ha6 hin6 rfl
 obtain ⟨T7, X7, e7, st7⟩ := yag X5 hx hZ hown hby (w_20 hw) e5 P3 23 (l334_1 o1 p7 p8) [(.int 2)] d9_23 d9_24 rfl
 obtain ⟨T8, X8, e8, st8⟩ := yag X7 hx hZ hown hby (w_18 hw) e7 P1 34 (l334_1 o1 p7 p8) [(.int ((((p7 &&& (255 : Int32)) <<< ((8 : Int32) &&& 31)) ||| (p8 &&& (255 : Int32))) <<< ((8 : Int32) &&& 31)))] d9_34 d9_35 rfl
 obtain ⟨cl9, Ar9, qa9, Sa9, Na9, Ha9, Ga9⟩ := id (P4)
 have hin9 := inb_of (j := (5 : Int32)) Sa9 ⟨by decide, by decide⟩
 have hat9 : cl9.slots[((5 : Int32)).toNatClampNeg]? = some (.int p9) := Has.at Ha9 hin9 rfl
 obtain ⟨T10, X10, e10, st10⟩ := yag X8 hx hZ hown hby (w_20 hw) e8 P3 23 (l334_0 o1 p7 p8 p9) [(.int 3)] d9_23 d9_24 rfl
 obtain ⟨fs, hr, hrun, hended, hW, hsame⟩ := X10.leave (v := some (.int (((((p7 &&& (255 : Int32)) <<< ((8 : Int32) &&& 31)) ||| (p8 &&& (255 : Int32))) <<< ((8 : Int32) &&& 31)) ||| (p9 &&& (255 : Int32))))) (fun h => by rw [hret] at h; cases h)
 refine ⟨_, _, pre0 _ ?_, hrun, hended, _, _, rfl, ?_, ⟨_, rfl⟩, hW, hsame.mono (by decide) (by decide)⟩
 ·
  refine yin X0 hx hby d9_0 rfl ?_
  refine st1 _ ?_
  refine XS.imul X1.here hx rfl (hb hby d9_5) rfl ?_
  refine yit X1 hx hby d9_6 (l' := (l334_3 o1)) rfl ?_
  refine st2 _ ?_
  refine yin X2 hx hby d9_11 rfl ?_
  refine X2.baloadBytes hx (j := (3 : Int32)) (v := (.int p7)) (by rw [e2]; exact Ar3.1) (State.isArrayOf_alike hZ.alike Ar3.2.1) Ar3.2.2 hin3 hat3 (g := (mkF m 12 (l334_3 o1) [(.int 3), (.ref o2)])) rfl rfl (hb hby d9_12) _ ?_
  refine XS.sipush X2.here hx rfl (hb hby d9_13) ?_
  refine XS.iand X2.here hx rfl (hb hby d9_16) rfl ?_
  refine yit X2 hx hby d9_17 (l' := #[.val (.ref o1), .val (.int 1), .val (.int 3), .val (.int (p7 &&& (255 : Int32))), .unset]) rfl ?_
  refine XS.iconst X2.here hx rfl (hb hby d9_18) ?_
  refine yis X2 hx hby d9_19 (l' := (l334_2 o1 p7)) rfl ?_
  refine yil X2 hx hby d9_21 rfl ?_
  refine st4 _ ?_
  refine yno X4 hx hby d9_27 (tlt (by decide : (1 : Int32) < (3 : Int32))).2.1 ?_
  refine yin X4 hx hby d9_30 rfl ?_
  refine XS.bipush X4.here hx rfl (hb hby d9_31) ?_
  refine XS.ishl X4.here hx rfl (hb hby d9_33) rfl ?_
  refine st5 _ ?_
  refine yin X5 hx hby d9_38 rfl ?_
  refine yil X5 hx hby d9_39 rfl ?_
  refine yad X5 hx hby d9_41 ?_
  refine X5.baloadBytes hx (j := (4 : Int32)) (v := (.int p8)) (by rw [e5]; exact Ar6.1) (State.isArrayOf_alike hZ.alike Ar6.2.1) Ar6.2.2 hin6 hat6 (g := (mkF m 42 (l334_2 o1 p7) [(.int 4), (.ref o2), (.int ((p7 &&& (255 : Int32)) <<< ((8 : Int32) &&& 31)))])) rfl rfl (hb hby d9_42) _ ?_
  refine XS.sipush X5.here hx rfl (hb hby d9_43) ?_
  refine XS.iand X5.here hx rfl (hb hby d9_46) rfl ?_
  refine XS.ior X5.here hx rfl (hb hby d9_47) rfl ?_
  refine yit X5 hx hby d9_48 (l' := #[.val (.ref o1), .val (.int 1), .val (.int 3), .val (.int (((p7 &&& (255 : Int32)) <<< ((8 : Int32) &&& 31)) ||| (p8 &&& (255 : Int32)))), .val (.int 1)]) rfl ?_
  refine XS.iinc X5.here hx rfl (hb hby d9_49) rfl (l' := (l334_1 o1 p7 p8)) rfl ?_
  refine ygo X5 hx hby 52 21 rfl d9_52 (by decide) ?_
  refine yil X5 hx hby d9_21 rfl ?_
  refine st7 _ ?_
  refine yno X7 hx hby d9_27 (tlt (by decide : (2 : Int32) < (3 : Int32))).2.1 ?_
  refine yin X7 hx hby d9_30 rfl ?_
  refine XS.bipush X7.here hx rfl (hb hby d9_31) ?_
  refine XS.ishl X7.here hx rfl (hb hby d9_33) rfl ?_
  refine st8 _ ?_
  refine yin X8 hx hby d9_38 rfl ?_
  refine yil X8 hx hby d9_39 rfl ?_
  refine yad X8 hx hby d9_41 ?_
  refine X8.baloadBytes hx (j := (5 : Int32)) (v := (.int p9)) (by rw [e8]; exact Ar9.1) (State.isArrayOf_alike hZ.alike Ar9.2.1) Ar9.2.2 hin9 hat9 (g := (mkF m 42 (l334_1 o1 p7 p8) [(.int 5), (.ref o2), (.int ((((p7 &&& (255 : Int32)) <<< ((8 : Int32) &&& 31)) ||| (p8 &&& (255 : Int32))) <<< ((8 : Int32) &&& 31)))])) rfl rfl (hb hby d9_42) _ ?_
  refine XS.sipush X8.here hx rfl (hb hby d9_43) ?_
  refine XS.iand X8.here hx rfl (hb hby d9_46) rfl ?_
  refine XS.ior X8.here hx rfl (hb hby d9_47) rfl ?_
  refine yit X8 hx hby d9_48 (l' := #[.val (.ref o1), .val (.int 1), .val (.int 3), .val (.int (((((p7 &&& (255 : Int32)) <<< ((8 : Int32) &&& 31)) ||| (p8 &&& (255 : Int32))) <<< ((8 : Int32) &&& 31)) ||| (p9 &&& (255 : Int32)))), .val (.int 2)]) rfl ?_
  refine XS.iinc X8.here hx rfl (hb hby d9_49) rfl (l' := (l334_0 o1 p7 p8 p9)) rfl ?_
  refine ygo X8 hx hby 52 21 rfl d9_52 (by decide) ?_
  refine yil X8 hx hby d9_21 rfl ?_
  refine st10 _ ?_
  refine yye X10 hx hby 27 55 rfl d9_27 (flt (by decide : ¬ ((3 : Int32) < (3 : Int32)))).2.1 (by decide) ?_
  refine yin X10 hx hby d9_55 rfl ?_
  show Steps p.tables e below (T10.setTop (mkF m 56 (l334_0 o1 p7 p8 p9) [(.int (((((p7 &&& (255 : Int32)) <<< ((8 : Int32) &&& 31)) ||| (p8 &&& (255 : Int32))) <<< ((8 : Int32) &&& 31)) ||| (p9 &&& (255 : Int32))))])) _
  exact retI X10 hx hret (hb hby d9_56) hr
 ·
  show Q39 Z o1 o2 kc3 p4 p5 p6 p7 p8 p9 p10 p11 p12 h0 n0 _ T10.heap _
  rw [e10]
  exact ⟨rfl, N0, rfl⟩
def l335_0 (o1 : Addr) (p10 p11 p12 : Int32) : Array Slot := #[.val (.ref o1), .val (.int 2), .val (.int 6), .val (.int (((((p10 &&& (255 : Int32)) <<< ((8 : Int32) &&& 31)) ||| (p11 &&& (255 : Int32))) <<< ((8 : Int32) &&& 31)) ||| (p12 &&& (255 : Int32)))), .val (.int 3)]
def l335_1 (o1 : Addr) (p10 p11 : Int32) : Array Slot := #[.val (.ref o1), .val (.int 2), .val (.int 6), .val (.int (((p10 &&& (255 : Int32)) <<< ((8 : Int32) &&& 31)) ||| (p11 &&& (255 : Int32)))), .val (.int 2)]
def l335_2 (o1 : Addr) (p10 : Int32) : Array Slot := #[.val (.ref o1), .val (.int 2), .val (.int 6), .val (.int (p10 &&& (255 : Int32))), .val (.int 1)]
def l335_3 (o1 : Addr) : Array Slot := #[.val (.ref o1), .val (.int 2), .val (.int 6), .unset, .unset]
theorem ef40 (m : MethodId) (x0 : Addr) (x1 : Int32) : entryFrame m #[(.ref x0), (.int x1)] 5 = mkF m 0 #[.val (.ref x0), .val (.int x1), .unset, .unset, .unset] [] := by first | (simp [entryFrame, mkF, argsToLocals, Value.category]; done) | rfl
def Q40 (Z : State) (o1 o2 : Addr) (kc3 : ClassId) (p4 p5 : Int32) (p6 p7 : Int32) (p8 p9 : Int32) (p10 p11 p12 : Int32) (h0 : Heap) (n0 : Nat) (v : Option Value) (h : Heap) (L : List Loc) : Prop :=
  (v = some (.int (((((p10 &&& (255 : Int32)) <<< ((8 : Int32) &&& 31)) ||| (p11 &&& (255 : Int32))) <<< ((8 : Int32) &&& 31)) ||| (p12 &&& (255 : Int32)))) ∧ Fr n0 L ∧ h = h0)
set_option maxRecDepth 65536 in
set_option maxHeartbeats 40000000 in
theorem rm40 (l : Launch) (Z : State) (a0 : Array Value) (hw : HW a0 Z) (ws : List Jvm.Cond) (o1 o2 : Addr) (kc3 : ClassId) (p4 p5 : Int32) (p6 p7 : Int32) (p8 p9 : Int32) (p10 p11 p12 : Int32) (h0 : Heap) (n0 : Nat) (O0 : Old Z n0 h0) (g_o1 : n0 ≤ o1) (g_o2 : n0 ≤ o2) (P1 : Fld Z h0 o1 "com/example/driftless/driftless/CodePoints" "bytes" "[B" (.ref o2)) (P3 : Fld Z h0 o1 "com/example/driftless/driftless/CodePoints" "width" "I" (.int 3)) (P4 : Arv Z h0 o2 kc3 .byte (9 : Int32) [(.int p4), (.int p5), (.int p6), (.int p7), (.int p8), (.int p9), (.int p10), (.int p11), (.int p12)] (.int 0)) :
    MF l yn9 prog_6_method_4_code 5 (some .int) ws ({ frames := 0, cells := 0, slots := 0, locals := 0 } : Room) #[(.ref o1), (.int 2)] Z h0 (Q40 Z o1 o2 kc3 p4 p5 p6 p7 p8 p9 p10 p11 p12 h0 n0) := by
 refine MetFree.of_bodySF (plainFor_of_name pn1) hisR ?_
 intro p e s m args below meth c s₁ Bd hml hP hK
 obtain ⟨rfl, hZ, hh⟩ := hP
 obtain ⟨hx, hby, hown, hret, hlk, X0, e0, N0⟩ := own_bd Bd hh n0
 have pre0 := own_ct s₁ (p := p) (e := e) (below := below) (ef40 m o1 (2 : Int32))
 obtain ⟨T1, X1, e1, st1⟩ := yag X0 hx hZ hown hby (w_20 hw) e0 P3 1 #[.val (.ref o1), .val (.int 2), .unset, .unset, .unset] [(.int 2)] d9_1 d9_2 rfl
 obtain ⟨T2, X2, e2, st2⟩ := yag X1 hx hZ hown hby (w_18 hw) e1 P1 7 (l335_3 o1) [] d9_7 d9_8 rfl
 obtain ⟨cl3, Ar3, qa3, Sa3, Na3, Ha3, Ga3⟩ := id (P4)
 have hin3 := inb_of (j := (6 : Int32)) Sa3 ⟨by decide, by decide⟩
 have hat3 : cl3.slots[((6 : Int32)).toNatClampNeg]? = some (.int p10) := Has.at Ha3 hin3 rfl
 obtain ⟨T4, X4, e4, st4⟩ := yag X2 hx hZ hown hby (w_20 hw) e2 P3 23 (l335_2 o1 p10) [(.int 1)] d9_23 d9_24 rfl
 obtain ⟨T5, X5, e5, st5⟩ := yag X4 hx hZ hown hby (w_18 hw) e4 P1 34 (l335_2 o1 p10) [(.int ((p10 &&& (255 : Int32)) <<< ((8 : Int32) &&& 31)))] d9_34 d9_35 rfl
 obtain ⟨cl6, Ar6, qa6, Sa6, Na6, Ha6, Ga6⟩ := id (P4)
 have hin6 := inb_of (j := (7 : Int32)) Sa6 ⟨by decide, by decide⟩
 have hat6 : cl6.slots[((7 : Int32)).toNatClampNeg]? = some (.int p11) := Has.at Ha6 hin6 rfl
 obtain ⟨T7, X7, e7, st7⟩ := yag X5 hx hZ hown hby (w_20 hw) e5 P3 23 (l335_1 o1 p10 p11) [(.int 2)] d9_23 d9_24 rfl
 obtain ⟨T8, X8, e8, st8⟩ := yag X7 hx hZ hown hby (w_18 hw) e7 P1 34 (l335_1 o1 p10 p11) [(.int ((((p10 &&& (255 : Int32)) <<< ((8 : Int32) &&& 31)) ||| (p11 &&& (255 : Int32))) <<< ((8 : Int32) &&& 31)))] d9_34 d9_35 rfl
 obtain ⟨cl9, Ar9, qa9, Sa9, Na9, Ha9, Ga9⟩ := id (P4)
 have hin9 := inb_of (j := (8 : Int32)) Sa9 ⟨by decide, by decide⟩
 have hat9 : cl9.slots[((8 : Int32)).toNatClampNeg]? = some (.int p12) := Has.at Ha9 hin9 rfl
 obtain ⟨T10, X10, e10, st10⟩ := yag X8 hx hZ hown hby (w_20 hw) e8 P3 23 (l335_0 o1 p10 p11 p12) [(.int 3)] d9_23 d9_24 rfl
 obtain ⟨fs, hr, hrun, hended, hW, hsame⟩ := X10.leave (v := some (.int (((((p10 &&& (255 : Int32)) <<< ((8 : Int32) &&& 31)) ||| (p11 &&& (255 : Int32))) <<< ((8 : Int32) &&& 31)) ||| (p12 &&& (255 : Int32))))) (fun h => by rw [hret] at h; cases h)
 refine ⟨_, _, pre0 _ ?_, hrun, hended, _, _, rfl, ?_, ⟨_, rfl⟩, hW, hsame.mono (by decide) (by decide)⟩
 ·
  refine yin X0 hx hby d9_0 rfl ?_
  refine st1 _ ?_
  refine XS.imul X1.here hx rfl (hb hby d9_5) rfl ?_
  refine yit X1 hx hby d9_6 (l' := (l335_3 o1)) rfl ?_
  refine st2 _ ?_
  refine yin X2 hx hby d9_11 rfl ?_
  refine X2.baloadBytes hx (j := (6 : Int32)) (v := (.int p10)) (by rw [e2]; exact Ar3.1) (State.isArrayOf_alike hZ.alike Ar3.2.1) Ar3.2.2 hin3 hat3 (g := (mkF m 12 (l335_3 o1) [(.int 6), (.ref o2)])) rfl rfl (hb hby d9_12) _ ?_
  refine XS.sipush X2.here hx rfl (hb hby d9_13) ?_
  refine XS.iand X2.here hx rfl (hb hby d9_16) rfl ?_
  refine yit X2 hx hby d9_17 (l' := #[.val (.ref o1), .val (.int 2), .val (.int 6), .val (.int (p10 &&& (255 : Int32))), .unset]) rfl ?_
  refine XS.iconst X2.here hx rfl (hb hby d9_18) ?_
  refine yis X2 hx hby d9_19 (l' := (l335_2 o1 p10)) rfl ?_
  refine yil X2 hx hby d9_21 rfl ?_
  refine st4 _ ?_
  refine yno X4 hx hby d9_27 (tlt (by decide : (1 : Int32) < (3 : Int32))).2.1 ?_
  refine yin X4 hx hby d9_30 rfl ?_
  refine XS.bipush X4.here hx rfl (hb hby d9_31) ?_
  refine XS.ishl X4.here hx rfl (hb hby d9_33) rfl ?_
  refine st5 _ ?_
  refine yin X5 hx hby d9_38 rfl ?_
  refine yil X5 hx hby d9_39 rfl ?_
  refine yad X5 hx hby d9_41 ?_
  refine X5.baloadBytes hx (j := (7 : Int32)) (v := (.int p11)) (by rw [e5]; exact Ar6.1) (State.isArrayOf_alike hZ.alike Ar6.2.1) Ar6.2.2 hin6 hat6 (g := (mkF m 42 (l335_2 o1 p10) [(.int 7), (.ref o2), (.int ((p10 &&& (255 : Int32)) <<< ((8 : Int32) &&& 31)))])) rfl rfl (hb hby d9_42) _ ?_
  refine XS.sipush X5.here hx rfl (hb hby d9_43) ?_
  refine XS.iand X5.here hx rfl (hb hby d9_46) rfl ?_
  refine XS.ior X5.here hx rfl (hb hby d9_47) rfl ?_
  refine yit X5 hx hby d9_48 (l' := #[.val (.ref o1), .val (.int 2), .val (.int 6), .val (.int (((p10 &&& (255 : Int32)) <<< ((8 : Int32) &&& 31)) ||| (p11 &&& (255 : Int32)))), .val (.int 1)]) rfl ?_
  refine XS.iinc X5.here hx rfl (hb hby d9_49) rfl (l' := (l335_1 o1 p10 p11)) rfl ?_
  refine ygo X5 hx hby 52 21 rfl d9_52 (by decide) ?_
  refine yil X5 hx hby d9_21 rfl ?_
  refine st7 _ ?_
  refine yno X7 hx hby d9_27 (tlt (by decide : (2 : Int32) < (3 : Int32))).2.1 ?_
  refine yin X7 hx hby d9_30 rfl ?_
  refine XS.bipush X7.here hx rfl (hb hby d9_31) ?_
  refine XS.ishl X7.here hx rfl (hb hby d9_33) rfl ?_
  refine st8 _ ?_
  refine yin X8 hx hby d9_38 rfl ?_
  refine yil X8 hx hby d9_39 rfl ?_
  refine yad X8 hx hby d9_41 ?_
  refine X8.baloadBytes hx (j := (8 : Int32)) (v := (.int p12)) (by rw [e8]; exact Ar9.1) (State.isArrayOf_alike hZ.alike Ar9.2.1) Ar9.2.2 hin9 hat9 (g := (mkF m 42 (l335_1 o1 p10 p11) [(.int 8), (.ref o2), (.int ((((p10 &&& (255 : Int32)) <<< ((8 : Int32) &&& 31)) ||| (p11 &&& (255 : Int32))) <<< ((8 : Int32) &&& 31)))])) rfl rfl (hb hby d9_42) _ ?_
  refine XS.sipush X8.here hx rfl (hb hby d9_43) ?_
  refine XS.iand X8.here hx rfl (hb hby d9_46) rfl ?_
  refine XS.ior X8.here hx rfl (hb hby d9_47) rfl ?_
  refine yit X8 hx hby d9_48 (l' := #[.val (.ref o1), .val (.int 2), .val (.int 6), .val (.int (((((p10 &&& (255 : Int32)) <<< ((8 : Int32) &&& 31)) ||| (p11 &&& (255 : Int32))) <<< ((8 : Int32) &&& 31)) ||| (p12 &&& (255 : Int32)))), .val (.int 2)]) rfl ?_
  refine XS.iinc X8.here hx rfl (hb hby d9_49) rfl (l' := (l335_0 o1 p10 p11 p12)) rfl ?_
  refine ygo X8 hx hby 52 21 rfl d9_52 (by decide) ?_
  refine yil X8 hx hby d9_21 rfl ?_
  refine st10 _ ?_
  refine yye X10 hx hby 27 55 rfl d9_27 (flt (by decide : ¬ ((3 : Int32) < (3 : Int32)))).2.1 (by decide) ?_
  refine yin X10 hx hby d9_55 rfl ?_
  show Steps p.tables e below (T10.setTop (mkF m 56 (l335_0 o1 p10 p11 p12) [(.int (((((p10 &&& (255 : Int32)) <<< ((8 : Int32) &&& 31)) ||| (p11 &&& (255 : Int32))) <<< ((8 : Int32) &&& 31)) ||| (p12 &&& (255 : Int32))))])) _
  exact retI X10 hx hret (hb hby d9_56) hr
 ·
  show Q40 Z o1 o2 kc3 p4 p5 p6 p7 p8 p9 p10 p11 p12 h0 n0 _ T10.heap _
  rw [e10]
  exact ⟨rfl, N0, rfl⟩
def l336_0 (dp1 dp2 : Int32) (dp3 dp4 : Int32) (dp5 dp6 : Int32) (dp7 dp8 dp9 : Int32) (da10 o11 : Addr) (zz0 zz1 zz2 : Int32) : Array Slot := #[.val (.int dp1), .val (.int dp2), .val (.int dp3), .val (.int dp4), .val (.int dp5), .val (.int dp6), .val (.int dp7), .val (.int dp8), .val (.int dp9), .val (.ref da10), .val (.ref o11), .val (.int zz0), .val (.int zz1), .val (.int zz2)]
set_option maxRecDepth 65536 in
set_option maxHeartbeats 40000000 in
theorem ct3 {p : Program} {l : Launch} {e : Env} {s : State} {m : MethodId} {below : List Frame} {meth : Method} {c : Code} {E0 T0 : State} {locs : List Loc} {Z : State} {a0 : Array Value} (hw : HW a0 Z) (o11 o12 : Addr) (kc13 : ClassId) (zz0 zz1 : Int32) (zz2 dp1 : Int32) (dp2 dp3 : Int32) (dp4 dp5 : Int32) (dp6 dp7 : Int32) (dp8 dp9 : Int32) (da10 : Addr) (p1 p2 : Int32) (p3 p4 p5 : Int32) (h0 : Heap) (n0 : Nat) (O0 : Old Z n0 h0)
    (hx : p.tables.exec = Jvm.exec) (hby : c.code = code) (hml : c.maxLocals = 14) (hown : s.vm.findClass "com/example/driftless/driftless/CodePointsGetPinLaw" = some m.cls) (hret : meth.sig.returnType = ret) (hlk : meth.locks = false) (hZ : Z.Warmed39 s.vm)
    (X0 : Stand p l e room_1 s m #[(.int p1), (.int p2), (.int p3), (.int p4), (.int p5)] below meth c T0 locs 24 128) (e0 : T0.heap = h0) (N0 : Fr n0 locs) (pre0 : Go p e below T0 (mkF m 143 (l336_0 dp1 dp2 dp3 dp4 dp5 dp6 dp7 dp8 dp9 da10 o11 zz0 zz1 zz2) []) E0) (g_o11 : n0 ≤ o11) (g_o12 : n0 ≤ o12) (P0 : Exa Z h0 o11 "com/example/driftless/driftless/CodePoints") (P1 : Fld Z h0 o11 "com/example/driftless/driftless/CodePoints" "bytes" "[B" (.ref o12)) (P2 : Fld Z h0 o11 "com/example/driftless/driftless/CodePoints" "length" "I" (.int 3)) (P3 : Fld Z h0 o11 "com/example/driftless/driftless/CodePoints" "width" "I" (.int 3)) (P4 : Arv Z h0 o12 kc13 .byte (9 : Int32) [(.int (((((zz0.toUInt32 >>> ((8 : Int32) &&& 31).toUInt32).toInt32).toUInt32 >>> ((8 : Int32) &&& 31).toUInt32).toInt32).toInt8.toInt32)), (.int (((zz0.toUInt32 >>> ((8 : Int32) &&& 31).toUInt32).toInt32).toInt8.toInt32)), (.int (zz0.toInt8.toInt32)), (.int (((((zz1.toUInt32 >>> ((8 : Int32) &&& 31).toUInt32).toInt32).toUInt32 >>> ((8 : Int32) &&& 31).toUInt32).toInt32).toInt8.toInt32)), (.int (((zz1.toUInt32 >>> ((8 : Int32) &&& 31).toUInt32).toInt32).toInt8.toInt32)), (.int (zz1.toInt8.toInt32)), (.int (((((zz2.toUInt32 >>> ((8 : Int32) &&& 31).toUInt32).toInt32).toUInt32 >>> ((8 : Int32) &&& 31).toUInt32).toInt32).toInt8.toInt32)), (.int (((zz2.toUInt32 >>> ((8 : Int32) &&& 31).toUInt32).toInt32).toInt8.toInt32)), (.int (zz2.toInt8.toInt32))] (.int 0)) (bzz0 : 0 ≤ zz0.toInt ∧ zz0.toInt ≤ 1114111) (bzz1 : 0 ≤ zz1.toInt ∧ zz1.toInt ≤ 1114111) (bzz2 : 0 ≤ zz2.toInt ∧ zz2.toInt ≤ 1114111) :
    ∃ (s₂ : State) (o : Outcome), Steps p.tables e below E0 s₂ ∧ s₂.status = .running ∧ Ended s₂ below o ∧ ∃ v L, o = .returned v ∧ Q0 n0 v s₂.heap L ∧ FrameEnd s o s₂ L 24 128 := by
 obtain ⟨_, T1, L1, X1, hQ1, st1⟩ := own_vb X0 hx hZ hown (y := yn10) (own_w hw 53 rfl) (own_w hw 54 rfl) (own_w hw 56 rfl) (own_w hw 55 rfl) (own_w hw 57 rfl) (w_9 hw) e0 P0 (argsL := []) (rest := []) (rm37 l Z a0 hw [] o11 o12 h0 n0 O0 g_o11 g_o12 P2) (g := (mkF m 145 (l336_0 dp1 dp2 dp3 dp4 dp5 dp6 dp7 dp8 dp9 da10 o11 zz0 zz1 zz2) [(.ref o11)])) rfl (by rw [hml]; rfl) rfl (hb hby at_145) (lenOf pd7 rfl) (W := 0) (c1 := 24) (s1 := 128)
 obtain ⟨rfl, Nq2, e3⟩ := hQ1
 have N1 := Fr.app N0 Nq2
 obtain ⟨_, T4, L4, X4, hQ4, st4⟩ := own_vb X1 hx hZ hown (y := yn9) (own_w hw 58 rfl) (own_w hw 59 rfl) (own_w hw 61 rfl) (own_w hw 60 rfl) (own_w hw 62 rfl) (w_9 hw) e3 P0 (argsL := [(.int 0)]) (rest := []) (rm38 l Z a0 hw [] o11 o12 kc13 ((((((zz0.toUInt32 >>> ((8 : Int32) &&& 31).toUInt32).toInt32).toUInt32 >>> ((8 : Int32) &&& 31).toUInt32).toInt32).toInt8.toInt32)) ((((zz0.toUInt32 >>> ((8 : Int32) &&& 31).toUInt32).toInt32).toInt8.toInt32)) (zz0.toInt8.toInt32) ((((((zz1.toUInt32 >>> ((8 : Int32) &&& 31).toUInt32).toInt32).toUInt32 >>> ((8 : Int32) &&& 31).toUInt32).toInt32).toInt8.toInt32)) ((((zz1.toUInt32 >>> ((8 : Int32) &&& 31).toUInt32).toInt32).toInt8.toInt32)) (zz1.toInt8.toInt32) ((((((zz2.toUInt32 >>> ((8 : Int32) &&& 31).toUInt32).toInt32).toUInt32 >>> ((8 : Int32) &&& 31).toUInt32).toInt32).toInt8.toInt32)) ((((zz2.toUInt32 >>> ((8 : Int32) &&& 31).toUInt32).toInt32).toInt8.toInt32)) (zz2.toInt8.toInt32) h0 n0 O0 g_o11 g_o12 P1 P3 P4) (g := (mkF m 155 (l336_0 dp1 dp2 dp3 dp4 dp5 dp6 dp7 dp8 dp9 da10 o11 zz0 zz1 zz2) [(.int 0), (.ref o11)])) rfl (by rw [hml]; rfl) rfl (hb hby at_155) (lenOf pd2 rfl) (W := 0) (c1 := 24) (s1 := 128)
 obtain ⟨rfl, Nq5, e6⟩ := hQ4
 have N4 := Fr.app N1 Nq5
 obtain ⟨_, T7, L7, X7, hQ7, st7⟩ := own_vb X4 hx hZ hown (y := yn9) (own_w hw 58 rfl) (own_w hw 59 rfl) (own_w hw 61 rfl) (own_w hw 60 rfl) (own_w hw 62 rfl) (w_9 hw) e6 P0 (argsL := [(.int 1)]) (rest := []) (rm39 l Z a0 hw [] o11 o12 kc13 ((((((zz0.toUInt32 >>> ((8 : Int32) &&& 31).toUInt32).toInt32).toUInt32 >>> ((8 : Int32) &&& 31).toUInt32).toInt32).toInt8.toInt32)) ((((zz0.toUInt32 >>> ((8 : Int32) &&& 31).toUInt32).toInt32).toInt8.toInt32)) (zz0.toInt8.toInt32) ((((((zz1.toUInt32 >>> ((8 : Int32) &&& 31).toUInt32).toInt32).toUInt32 >>> ((8 : Int32) &&& 31).toUInt32).toInt32).toInt8.toInt32)) ((((zz1.toUInt32 >>> ((8 : Int32) &&& 31).toUInt32).toInt32).toInt8.toInt32)) (zz1.toInt8.toInt32) ((((((zz2.toUInt32 >>> ((8 : Int32) &&& 31).toUInt32).toInt32).toUInt32 >>> ((8 : Int32) &&& 31).toUInt32).toInt32).toInt8.toInt32)) ((((zz2.toUInt32 >>> ((8 : Int32) &&& 31).toUInt32).toInt32).toInt8.toInt32)) (zz2.toInt8.toInt32) h0 n0 O0 g_o11 g_o12 P1 P3 P4) (g := (mkF m 166 (l336_0 dp1 dp2 dp3 dp4 dp5 dp6 dp7 dp8 dp9 da10 o11 zz0 zz1 zz2) [(.int 1), (.ref o11)])) rfl (by rw [hml]; rfl) rfl (hb hby at_166) (lenOf pd2 rfl) (W := 0) (c1 := 24) (s1 := 128)
 obtain ⟨rfl, Nq8, e9⟩ := hQ7
 have N7 := Fr.app N4 Nq8
 obtain ⟨_, T10, L10, X10, hQ10, st10⟩ := own_vb X7 hx hZ hown (y := yn9) (own_w hw 58 rfl) (own_w hw 59 rfl) (own_w hw 61 rfl) (own_w hw 60 rfl) (own_w hw 62 rfl) (w_9 hw) e9 P0 (argsL := [(.int 2)]) (rest := []) (rm40 l Z a0 hw [] o11 o12 kc13 ((((((zz0.toUInt32 >>> ((8 : Int32) &&& 31).toUInt32).toInt32).toUInt32 >>> ((8 : Int32) &&& 31).toUInt32).toInt32).toInt8.toInt32)) ((((zz0.toUInt32 >>> ((8 : Int32) &&& 31).toUInt32).toInt32).toInt8.toInt32)) (zz0.toInt8.toInt32) ((((((zz1.toUInt32 >>> ((8 : Int32) &&& 31).toUInt32).toInt32).toUInt32 >>> ((8 : Int32) &&& 31).toUInt32).toInt32).toInt8.toInt32)) ((((zz1.toUInt32 >>> ((8 : Int32) &&& 31).toUInt32).toInt32).toInt8.toInt32)) (zz1.toInt8.toInt32) ((((((zz2.toUInt32 >>> ((8 : Int32) &&& 31).toUInt32).toInt32).toUInt32 >>> ((8 : Int32) &&& 31).toUInt32).toInt32).toInt8.toInt32)) ((((zz2.toUInt32 >>> ((8 : Int32) &&& 31).toUInt32).toInt32).toInt8.toInt32)) (zz2.toInt8.toInt32) h0 n0 O0 g_o11 g_o12 P1 P3 P4) (g := (mkF m 177 (l336_0 dp1 dp2 dp3 dp4 dp5 dp6 dp7 dp8 dp9 da10 o11 zz0 zz1 zz2) [(.int 2), (.ref o11)])) rfl (by rw [hml]; rfl) rfl (hb hby at_177) (lenOf pd2 rfl) (W := 0) (c1 := 24) (s1 := 128)
 obtain ⟨rfl, Nq11, e12⟩ := hQ10
 have N10 := Fr.app N7 Nq11
 obtain ⟨fs, hr, hrun, hended, hW, hsame⟩ := X10.leave (v := some (.int 1)) (fun h => by rw [hret] at h; cases h)
 refine ⟨_, _, pre0 _ ?_, hrun, hended, _, _, rfl, ?_, ⟨_, rfl⟩, hW, hsame.mono (by decide) (by decide)⟩
 ·
  refine yal X0 hx hby at_143 rfl rfl ?_
  refine st1 _ ?_
  refine XS.iconst X1.here hx rfl (hb hby at_148) ?_
  refine yno X1 hx hby at_149 (teq (by decide : (3 : Int32) = (3 : Int32))).2 ?_
  refine yal X1 hx hby at_152 rfl rfl ?_
  refine XS.iconst X1.here hx rfl (hb hby at_154) ?_
  refine st4 _ ?_
  refine yil X4 hx hby at_158 rfl ?_
  refine yno X4 hx hby at_160 (teq (by rw [own_g3 (x := zz0) (by have q0 := bzz0; omega)] : ((((((((((zz0.toUInt32 >>> ((8 : Int32) &&& 31).toUInt32).toInt32).toUInt32 >>> ((8 : Int32) &&& 31).toUInt32).toInt32).toInt8.toInt32) &&& (255 : Int32)) <<< ((8 : Int32) &&& 31)) ||| ((((zz0.toUInt32 >>> ((8 : Int32) &&& 31).toUInt32).toInt32).toInt8.toInt32) &&& (255 : Int32))) <<< ((8 : Int32) &&& 31)) ||| ((zz0.toInt8.toInt32) &&& (255 : Int32))) = zz0)).2 ?_
  refine yal X4 hx hby at_163 rfl rfl ?_
  refine XS.iconst X4.here hx rfl (hb hby at_165) ?_
  refine st7 _ ?_
  refine yil X7 hx hby at_169 rfl ?_
  refine yno X7 hx hby at_171 (teq (by rw [own_g3 (x := zz1) (by have q0 := bzz1; omega)] : ((((((((((zz1.toUInt32 >>> ((8 : Int32) &&& 31).toUInt32).toInt32).toUInt32 >>> ((8 : Int32) &&& 31).toUInt32).toInt32).toInt8.toInt32) &&& (255 : Int32)) <<< ((8 : Int32) &&& 31)) ||| ((((zz1.toUInt32 >>> ((8 : Int32) &&& 31).toUInt32).toInt32).toInt8.toInt32) &&& (255 : Int32))) <<< ((8 : Int32) &&& 31)) ||| ((zz1.toInt8.toInt32) &&& (255 : Int32))) = zz1)).2 ?_
  refine yal X7 hx hby at_174 rfl rfl ?_
  refine XS.iconst X7.here hx rfl (hb hby at_176) ?_
  refine st10 _ ?_
  refine yil X10 hx hby at_180 rfl ?_
  refine yno X10 hx hby at_182 (teq (by rw [own_g3 (x := zz2) (by have q0 := bzz2; omega)] : ((((((((((zz2.toUInt32 >>> ((8 : Int32) &&& 31).toUInt32).toInt32).toUInt32 >>> ((8 : Int32) &&& 31).toUInt32).toInt32).toInt8.toInt32) &&& (255 : Int32)) <<< ((8 : Int32) &&& 31)) ||| ((((zz2.toUInt32 >>> ((8 : Int32) &&& 31).toUInt32).toInt32).toInt8.toInt32) &&& (255 : Int32))) <<< ((8 : Int32) &&& 31)) ||| ((zz2.toInt8.toInt32) &&& (255 : Int32))) = zz2)).2 ?_
  refine XS.iconst X10.here hx rfl (hb hby at_185) ?_
  refine ygo X10 hx hby 186 190 rfl at_186 (by decide) ?_
  show Steps p.tables e below (T10.setTop (mkF m 190 (l336_0 dp1 dp2 dp3 dp4 dp5 dp6 dp7 dp8 dp9 da10 o11 zz0 zz1 zz2) [(.int 1)])) _
  exact retN X10 hx (t := .boolean) hret (by simp) (hb hby at_190) hr
 ·
  show Q0 n0 _ T10.heap _
  rw [e12]
  exact ⟨rfl, N10⟩
def l337_0 (o1 : Addr) (p4 p5 : Int32) : Array Slot := #[.val (.ref o1), .val (.int 0), .val (.int 0), .val (.int (((p4 &&& (255 : Int32)) <<< ((8 : Int32) &&& 31)) ||| (p5 &&& (255 : Int32)))), .val (.int 2)]
def l337_1 (o1 : Addr) (p4 : Int32) : Array Slot := #[.val (.ref o1), .val (.int 0), .val (.int 0), .val (.int (p4 &&& (255 : Int32))), .val (.int 1)]
def l337_2 (o1 : Addr) : Array Slot := #[.val (.ref o1), .val (.int 0), .val (.int 0), .unset, .unset]
theorem ef41 (m : MethodId) (x0 : Addr) (x1 : Int32) : entryFrame m #[(.ref x0), (.int x1)] 5 = mkF m 0 #[.val (.ref x0), .val (.int x1), .unset, .unset, .unset] [] := by first | (simp [entryFrame, mkF, argsToLocals, Value.category]; done) | rfl
def Q41 (Z : State) (o1 o2 : Addr) (kc3 : ClassId) (p4 p5 : Int32) (p6 p7 : Int32) (h0 : Heap) (n0 : Nat) (v : Option Value) (h : Heap) (L : List Loc) : Prop :=
  (v = some (.int (((p4 &&& (255 : Int32)) <<< ((8 : Int32) &&& 31)) ||| (p5 &&& (255 : Int32)))) ∧ Fr n0 L ∧ h = h0)
set_option maxRecDepth 65536 in
set_option maxHeartbeats 40000000 in
theorem rm41 (l : Launch) (Z : State) (a0 : Array Value) (hw : HW a0 Z) (ws : List Jvm.Cond) (o1 o2 : Addr) (kc3 : ClassId) (p4 p5 : Int32) (p6 p7 : Int32) (h0 : Heap) (n0 : Nat) (O0 : Old Z n0 h0) (g_o1 : n0 ≤ o1) (g_o2 : n0 ≤ o2) (P1 : Fld Z h0 o1 "com/example/driftless/driftless/CodePoints" "bytes" "[B" (.ref o2)) (P3 : Fld Z h0 o1 "com/example/driftless/driftless/CodePoints" "width" "I" (.int 2)) (P4 : Arv Z h0 o2 kc3 .byte (4 : Int32) [(.int p4), (.int p5), (.int p6), (.int p7)] (.int 0)) :
    MF l yn9 prog_6_method_4_code 5 (some .int) ws ({ frames := 0, cells := 0, slots := 0, locals := 0 } : Room) #[(.ref o1), (.int 0)] Z h0 (Q41 Z o1 o2 kc3 p4 p5 p6 p7 h0 n0) := by
 refine MetFree.of_bodySF (plainFor_of_name pn1) hisR ?_
 intro p e s m args below meth c s₁ Bd hml hP hK
 obtain ⟨rfl, hZ, hh⟩ := hP
 obtain ⟨hx, hby, hown, hret, hlk, X0, e0, N0⟩ := own_bd Bd hh n0
 have pre0 := own_ct s₁ (p := p) (e := e) (below := below) (ef41 m o1 (0 : Int32))
 obtain ⟨T1, X1, e1, st1⟩ := yag X0 hx hZ hown hby (w_20 hw) e0 P3 1 #[.val (.ref o1), .val (.int 0), .unset, .unset, .unset] [(.int 0)] d9_1 d9_2 rfl
 obtain ⟨T2, X2, e2, st2⟩ := yag X1 hx hZ hown hby (w_18 hw) e1 P1 7 (l337_2 o1) [] d9_7 d9_8 rfl
 obtain ⟨cl3, Ar3, qa3, Sa3, Na3, Ha3, Ga3⟩ := id (P4)
 have hin3 := inb_of (j := (0 : Int32)) Sa3 ⟨by decide, by decide⟩
 have hat3 : cl3.slots[((0 : Int32)).toNatClampNeg]? = some (.int p4) := Has.at Ha3 hin3 rfl
 obtain ⟨T4, X4, e4, st4⟩ := yag X2 hx hZ hown hby (w_20 hw) e2 P3 23 (l337_1 o1 p4) [(.int 1)] d9_23 d9_24 rfl
 obtain ⟨T5, X5, e5, st5⟩ := yag X4 hx hZ hown hby (w_18 hw) e4 P1 34 (l337_1 o1 p4) [(.int ((p4 &&& (255 : Int32)) <<< ((8 : Int32) &&& 31)))] d9_34 d9_35 rfl
 obtain ⟨cl6, Ar6, qa6, Sa6, Na6, Ha6, Ga6⟩ := id (P4)
 have hin6 := inb_of (j := (1 : Int32)) Sa6 ⟨by decide, by decide⟩
 have hat6 : cl6.slots[((1 : Int32)).toNatClampNeg]? = some (.int p5) := Has.at Ha6 hin6 rfl
 obtain ⟨T7, X7, e7, st7⟩ := yag X5 hx hZ hown hby (w_20 hw) e5 P3 23 (l337_0 o1 p4 p5) [(.int 2)] d9_23 d9_24 rfl
 obtain ⟨fs, hr, hrun, hended, hW, hsame⟩ := X7.leave (v := some (.int (((p4 &&& (255 : Int32)) <<< ((8 : Int32) &&& 31)) ||| (p5 &&& (255 : Int32))))) (fun h => by rw [hret] at h; cases h)
 refine ⟨_, _, pre0 _ ?_, hrun, hended, _, _, rfl, ?_, ⟨_, rfl⟩, hW, hsame.mono (by decide) (by decide)⟩
 ·
  refine yin X0 hx hby d9_0 rfl ?_
  refine st1 _ ?_
  refine XS.imul X1.here hx rfl (hb hby d9_5) rfl ?_
  refine yit X1 hx hby d9_6 (l' := (l337_2 o1)) rfl ?_
  refine st2 _ ?_
  refine yin X2 hx hby d9_11 rfl ?_
  refine X2.baloadBytes hx (j := (0 : Int32)) (v := (.int p4)) (by rw [e2]; exact Ar3.1) (State.isArrayOf_alike hZ.alike Ar3.2.1) Ar3.2.2 hin3 hat3 (g := (mkF m 12 (l337_2 o1) [(.int 0), (.ref o2)])) rfl rfl (hb hby d9_12) _ ?_
  refine XS.sipush X2.here hx rfl (hb hby d9_13) ?_
  refine XS.iand X2.here hx rfl (hb hby d9_16) rfl ?_
  refine yit X2 hx hby d9_17 (l' := #[.val (.ref o1), .val (.int 0), .val (.int 0), .val (.int (p4 &&& (255 : Int32))), .unset]) rfl ?_
  refine XS.iconst X2.here hx rfl (hb hby d9_18) ?_
  refine yis X2 hx hby d9_19 (l' := (l337_1 o1 p4)) rfl ?_
  refine yil X2 hx hby d9_21 rfl ?_
  refine st4 _ ?_
  refine yno X4 hx hby d9_27 (tlt (by decide : (1 : Int32) < (2 : Int32))).2.1 ?_
  refine yin X4 hx hby d9_30 rfl ?_
  refine XS.bipush X4.here hx rfl (hb hby d9_31) ?_
  refine XS.ishl X4.here hx rfl (hb hby d9_33) rfl ?_
  refine st5 _ ?_
  refine yin X5 hx hby d9_38 rfl ?_
  refine yil X5 hx hby d9_39 rfl ?_
  refine yad X5 hx hby d9_41 ?_
  refine X5.baloadBytes hx (j := (1 : Int32)) (v := (.int p5)) (by rw [e5]; exact Ar6.1) (State.isArrayOf_alike hZ.alike Ar6.2.1) Ar6.2.2 hin6 hat6 (g := (mkF m 42 (l337_1 o1 p4) [(.int 1), (.ref o2), (.int ((p4 &&& (255 : Int32)) <<< ((8 : Int32) &&& 31)))])) rfl rfl (hb hby d9_42) _ ?_
  refine XS.sipush X5.here hx rfl (hb hby d9_43) ?_
  refine XS.iand X5.here hx rfl (hb hby d9_46) rfl ?_
  refine XS.ior X5.here hx rfl (hb hby d9_47) rfl ?_
  refine yit X5 hx hby d9_48 (l' := #[.val (.ref o1), .val (.int 0), .val (.int 0), .val (.int (((p4 &&& (255 : Int32)) <<< ((8 : Int32) &&& 31)) ||| (p5 &&& (255 : Int32)))), .val (.int 1)]) rfl ?_
  refine XS.iinc X5.here hx rfl (hb hby d9_49) rfl (l' := (l337_0 o1 p4 p5)) rfl ?_
  refine ygo X5 hx hby 52 21 rfl d9_52 (by decide) ?_
  refine yil X5 hx hby d9_21 rfl ?_
  refine st7 _ ?_
  refine yye X7 hx hby 27 55 rfl d9_27 (flt (by decide : ¬ ((2 : Int32) < (2 : Int32)))).2.1 (by decide) ?_
  refine yin X7 hx hby d9_55 rfl ?_
  show Steps p.tables e below (T7.setTop (mkF m 56 (l337_0 o1 p4 p5) [(.int (((p4 &&& (255 : Int32)) <<< ((8 : Int32) &&& 31)) ||| (p5 &&& (255 : Int32))))])) _
  exact retI X7 hx hret (hb hby d9_56) hr
 ·
  show Q41 Z o1 o2 kc3 p4 p5 p6 p7 h0 n0 _ T7.heap _
  rw [e7]
  exact ⟨rfl, N0, rfl⟩
def l338_0 (o1 : Addr) (p6 p7 : Int32) : Array Slot := #[.val (.ref o1), .val (.int 1), .val (.int 2), .val (.int (((p6 &&& (255 : Int32)) <<< ((8 : Int32) &&& 31)) ||| (p7 &&& (255 : Int32)))), .val (.int 2)]
def l338_1 (o1 : Addr) (p6 : Int32) : Array Slot := #[.val (.ref o1), .val (.int 1), .val (.int 2), .val (.int (p6 &&& (255 : Int32))), .val (.int 1)]
def l338_2 (o1 : Addr) : Array Slot := #[.val (.ref o1), .val (.int 1), .val (.int 2), .unset, .unset]
theorem ef42 (m : MethodId) (x0 : Addr) (x1 : Int32) : entryFrame m #[(.ref x0), (.int x1)] 5 = mkF m 0 #[.val (.ref x0), .val (.int x1), .unset, .unset, .unset] [] := by first | (simp [entryFrame, mkF, argsToLocals, Value.category]; done) | rfl
def Q42 (Z : State) (o1 o2 : Addr) (kc3 : ClassId) (p4 p5 : Int32) (p6 p7 : Int32) (h0 : Heap) (n0 : Nat) (v : Option Value) (h : Heap) (L : List Loc) : Prop :=
  (v = some (.int (((p6 &&& (255 : Int32)) <<< ((8 : Int32) &&& 31)) ||| (p7 &&& (255 : Int32)))) ∧ Fr n0 L ∧ h = h0)
set_option maxRecDepth 65536 in
set_option maxHeartbeats 40000000 in
theorem rm42 (l : Launch) (Z : State) (a0 : Array Value) (hw : HW a0 Z) (ws : List Jvm.Cond) (o1 o2 : Addr) (kc3 : ClassId) (p4 p5 : Int32) (p6 p7 : Int32) (h0 : Heap) (n0 : Nat) (O0 : Old Z n0 h0) (g_o1 : n0 ≤ o1) (g_o2 : n0 ≤ o2) (P1 : Fld Z h0 o1 "com/example/driftless/driftless/CodePoints" "bytes" "[B" (.ref o2)) (P3 : Fld Z h0 o1 "com/example/driftless/driftless/CodePoints" "width" "I" (.int 2)) (P4 : Arv Z h0 o2 kc3 .byte (4 : Int32) [(.int p4), (.int p5), (.int p6), (.int p7)] (.int 0)) :
    MF l yn9 prog_6_method_4_code 5 (some .int) ws ({ frames := 0, cells := 0, slots := 0, locals := 0 } : Room) #[(.ref o1), (.int 1)] Z h0 (Q42 Z o1 o2 kc3 p4 p5 p6 p7 h0 n0) := by
 refine MetFree.of_bodySF (plainFor_of_name pn1) hisR ?_
 intro p e s m args below meth c s₁ Bd hml hP hK
 obtain ⟨rfl, hZ, hh⟩ := hP
 obtain ⟨hx, hby, hown, hret, hlk, X0, e0, N0⟩ := own_bd Bd hh n0
 have pre0 := own_ct s₁ (p := p) (e := e) (below := below) (ef42 m o1 (1 : Int32))
 obtain ⟨T1, X1, e1, st1⟩ := yag X0 hx hZ hown hby (w_20 hw) e0 P3 1 #[.val (.ref o1), .val (.int 1), .unset, .unset, .unset] [(.int 1)] d9_1 d9_2 rfl
 obtain ⟨T2, X2, e2, st2⟩ := yag X1 hx hZ hown hby (w_18 hw) e1 P1 7 (l338_2 o1) [] d9_7 d9_8 rfl
 obtain ⟨cl3, Ar3, qa3, Sa3, Na3, Ha3, Ga3⟩ := id (P4)
 have hin3 := inb_of (j := (2 : Int32)) Sa3 ⟨by decide, by decide⟩
 have hat3 : cl3.slots[((2 : Int32)).toNatClampNeg]? = some (.int p6) := Has.at Ha3 hin3 rfl
 obtain ⟨T4, X4, e4, st4⟩ := yag X2 hx hZ hown hby (w_20 hw) e2 P3 23 (l338_1 o1 p6) [(.int 1)] d9_23 d9_24 rfl
 obtain ⟨T5, X5, e5, st5⟩ := yag X4 hx hZ hown hby (w_18 hw) e4 P1 34 (l338_1 o1 p6) [(.int ((p6 &&& (255 : Int32)) <<< ((8 : Int32) &&& 31)))] d9_34 d9_35 rfl
 obtain ⟨cl6, Ar6, qa6, Sa6, Na6, Ha6, Ga6⟩ := id (P4)
 have hin6 := inb_of (j := (3 : Int32)) Sa6 ⟨by decide, by decide⟩
 have hat6 : cl6.slots[((3 : Int32)).toNatClampNeg]? = some (.int p7) := Has.at Ha6 hin6 rfl
 obtain ⟨T7, X7, e7, st7⟩ := yag X5 hx hZ hown hby (w_20 hw) e5 P3 23 (l338_0 o1 p6 p7) [(.int 2)] d9_23 d9_24 rfl
 obtain ⟨fs, hr, hrun, hended, hW, hsame⟩ := X7.leave (v := some (.int (((p6 &&& (255 : Int32)) <<< ((8 : Int32) &&& 31)) ||| (p7 &&& (255 : Int32))))) (fun h => by rw [hret] at h; cases h)
 refine ⟨_, _, pre0 _ ?_, hrun, hended, _, _, rfl, ?_, ⟨_, rfl⟩, hW, hsame.mono (by decide) (by decide)⟩
 ·
  refine yin X0 hx hby d9_0 rfl ?_
  refine st1 _ ?_
  refine XS.imul X1.here hx rfl (hb hby d9_5) rfl ?_
  refine yit X1 hx hby d9_6 (l' := (l338_2 o1)) rfl ?_
  refine st2 _ ?_
  refine yin X2 hx hby d9_11 rfl ?_
  refine X2.baloadBytes hx (j := (2 : Int32)) (v := (.int p6)) (by rw [e2]; exact Ar3.1) (State.isArrayOf_alike hZ.alike Ar3.2.1) Ar3.2.2 hin3 hat3 (g := (mkF m 12 (l338_2 o1) [(.int 2), (.ref o2)])) rfl rfl (hb hby d9_12) _ ?_
  refine XS.sipush X2.here hx rfl (hb hby d9_13) ?_
  refine XS.iand X2.here hx rfl (hb hby d9_16) rfl ?_
  refine yit X2 hx hby d9_17 (l' := #[.val (.ref o1), .val (.int 1), .val (.int 2), .val (.int (p6 &&& (255 : Int32))), .unset]) rfl ?_
  refine XS.iconst X2.here hx rfl (hb hby d9_18) ?_
  refine yis X2 hx hby d9_19 (l' := (l338_1 o1 p6)) rfl ?_
  refine yil X2 hx hby d9_21 rfl ?_
  refine st4 _ ?_
  refine yno X4 hx hby d9_27 (tlt (by decide : (1 : Int32) < (2 : Int32))).2.1 ?_
  refine yin X4 hx hby d9_30 rfl ?_
  refine XS.bipush X4.here hx rfl (hb hby d9_31) ?_
  refine XS.ishl X4.here hx rfl (hb hby d9_33) rfl ?_
  refine st5 _ ?_
  refine yin X5 hx hby d9_38 rfl ?_
  refine yil X5 hx hby d9_39 rfl ?_
  refine yad X5 hx hby d9_41 ?_
  refine X5.baloadBytes hx (j := (3 : Int32)) (v := (.int p7)) (by rw [e5]; exact Ar6.1) (State.isArrayOf_alike hZ.alike Ar6.2.1) Ar6.2.2 hin6 hat6 (g := (mkF m 42 (l338_1 o1 p6) [(.int 3), (.ref o2), (.int ((p6 &&& (255 : Int32)) <<< ((8 : Int32) &&& 31)))])) rfl rfl (hb hby d9_42) _ ?_
  refine XS.sipush X5.here hx rfl (hb hby d9_43) ?_
  refine XS.iand X5.here hx rfl (hb hby d9_46) rfl ?_
  refine XS.ior X5.here hx rfl (hb hby d9_47) rfl ?_
  refine yit X5 hx hby d9_48 (l' := #[.val (.ref o1), .val (.int 1), .val (.int 2), .val (.int (((p6 &&& (255 : Int32)) <<< ((8 : Int32) &&& 31)) ||| (p7 &&& (255 : Int32)))), .val (.int 1)]) rfl ?_
  refine XS.iinc X5.here hx rfl (hb hby d9_49) rfl (l' := (l338_0 o1 p6 p7)) rfl ?_
  refine ygo X5 hx hby 52 21 rfl d9_52 (by decide) ?_
  refine yil X5 hx hby d9_21 rfl ?_
  refine st7 _ ?_
  refine yye X7 hx hby 27 55 rfl d9_27 (flt (by decide : ¬ ((2 : Int32) < (2 : Int32)))).2.1 (by decide) ?_
  refine yin X7 hx hby d9_55 rfl ?_
  show Steps p.tables e below (T7.setTop (mkF m 56 (l338_0 o1 p6 p7) [(.int (((p6 &&& (255 : Int32)) <<< ((8 : Int32) &&& 31)) ||| (p7 &&& (255 : Int32))))])) _
  exact retI X7 hx hret (hb hby d9_56) hr
 ·
  show Q42 Z o1 o2 kc3 p4 p5 p6 p7 h0 n0 _ T7.heap _
  rw [e7]
  exact ⟨rfl, N0, rfl⟩
def l339_0 (o1 b1 : Addr) : Array Slot := #[.val (.ref o1), .val (.int 3), .val (.ref b1), .val (.int 0)]
def l339_1 (o1 b1 : Addr) : Array Slot := #[.val (.ref o1), .val (.int 3), .val (.ref b1), .val (.int 1)]
def l339_2 (o1 b1 : Addr) : Array Slot := #[.val (.ref o1), .val (.int 3), .val (.ref b1), .val (.int 2)]
def l339_3 (o1 b1 : Addr) : Array Slot := #[.val (.ref o1), .val (.int 3), .val (.ref b1), .unset]
theorem ef43 (m : MethodId) (x0 : Addr) (x1 : Int32) : entryFrame m #[(.ref x0), (.int x1)] 4 = mkF m 0 #[.val (.ref x0), .val (.int x1), .unset, .unset] [] := by first | (simp [entryFrame, mkF, argsToLocals, Value.category]; done) | rfl
def Q43 (Z : State) (w1 : Addr) (kw1 : ClassId) (o1 o2 : Addr) (kc3 : ClassId) (p4 p5 : Int32) (p6 p7 : Int32) (h0 : Heap) (n0 : Nat) (v : Option Value) (h : Heap) (L : List Loc) : Prop :=
  (∃ b26 : Addr, ∃ k26 : ClassId, v = none ∧ Fr n0 L ∧ Keep h0 h [o1] ∧ h0.size ≤ b26 ∧ (Exa Z h o1 "com/example/driftless/driftless/CodePoints") ∧ (Fld Z h o1 "com/example/driftless/driftless/CodePoints" "bytes" "[B" (.ref b26)) ∧ (Fld Z h o1 "com/example/driftless/driftless/CodePoints" "length" "I" (.int 2)) ∧ (Fld Z h o1 "com/example/driftless/driftless/CodePoints" "width" "I" (.int 3)) ∧ (Arv Z h b26 k26 .byte (6 : Int32) [(.int ((((((((p4 &&& (255 : Int32)) <<< ((8 : Int32) &&& 31)) ||| (p5 &&& (255 : Int32))).toUInt32 >>> ((8 : Int32) &&& 31).toUInt32).toInt32).toUInt32 >>> ((8 : Int32) &&& 31).toUInt32).toInt32).toInt8.toInt32)), (.int ((((((p4 &&& (255 : Int32)) <<< ((8 : Int32) &&& 31)) ||| (p5 &&& (255 : Int32))).toUInt32 >>> ((8 : Int32) &&& 31).toUInt32).toInt32).toInt8.toInt32)), (.int ((((p4 &&& (255 : Int32)) <<< ((8 : Int32) &&& 31)) ||| (p5 &&& (255 : Int32))).toInt8.toInt32)), (.int ((((((((p6 &&& (255 : Int32)) <<< ((8 : Int32) &&& 31)) ||| (p7 &&& (255 : Int32))).toUInt32 >>> ((8 : Int32) &&& 31).toUInt32).toInt32).toUInt32 >>> ((8 : Int32) &&& 31).toUInt32).toInt32).toInt8.toInt32)), (.int ((((((p6 &&& (255 : Int32)) <<< ((8 : Int32) &&& 31)) ||| (p7 &&& (255 : Int32))).toUInt32 >>> ((8 : Int32) &&& 31).toUInt32).toInt32).toInt8.toInt32)), (.int ((((p6 &&& (255 : Int32)) <<< ((8 : Int32) &&& 31)) ||| (p7 &&& (255 : Int32))).toInt8.toInt32))] (.int 0)) ∧ (Exa Z h b26 "[B"))
set_option maxRecDepth 65536 in
set_option maxHeartbeats 40000000 in
theorem rm43 (l : Launch) (Z : State) (a0 : Array Value) (hw : HW a0 Z) (w1 : Addr) (kw1 : ClassId) (G : GW Z w1 kw1) (ws : List Jvm.Cond) (o1 o2 : Addr) (kc3 : ClassId) (p4 p5 : Int32) (p6 p7 : Int32) (h0 : Heap) (n0 : Nat) (O0 : Old Z n0 h0) (g_o1 : n0 ≤ o1) (g_o2 : n0 ≤ o2) (P0 : Exa Z h0 o1 "com/example/driftless/driftless/CodePoints") (P1 : Fld Z h0 o1 "com/example/driftless/driftless/CodePoints" "bytes" "[B" (.ref o2)) (P2 : Fld Z h0 o1 "com/example/driftless/driftless/CodePoints" "length" "I" (.int 2)) (P3 : Fld Z h0 o1 "com/example/driftless/driftless/CodePoints" "width" "I" (.int 2)) (P4 : Arv Z h0 o2 kc3 .byte (4 : Int32) [(.int p4), (.int p5), (.int p6), (.int p7)] (.int 0)) (P5 : Exa Z h0 o2 "[B") :
    MF l yn7 prog_6_method_10_code 4 none ws ({ frames := 2, cells := 2, slots := 9, locals := 25 } : Room) #[(.ref o1), (.int 3)] Z h0 (Q43 Z w1 kw1 o1 o2 kc3 p4 p5 p6 p7 h0 n0) := by
 obtain ⟨S_w1, E_w1, A_w1⟩ := id G
 refine MetFree.of_bodySF (plainFor_of_name pn1) hisR ?_
 intro p e s m args below meth c s₁ Bd hml hP hK
 obtain ⟨rfl, hZ, hh⟩ := hP
 obtain ⟨hx, hby, hown, hret, hlk, X0, e0, N0⟩ := own_bd Bd hh n0
 have pre0 := own_ct s₁ (p := p) (e := e) (below := below) (ef43 m o1 (3 : Int32))
 obtain ⟨T1, h1, X1, e1, E1, A1, D1, -, st1⟩ := newO X0 hx hZ hown (own_w hw 69 rfl) (w_8 hw) (w_9 hw) e0 (g := (mkF m 0 #[.val (.ref o1), .val (.int 3), .unset, .unset] [])) rfl (hb hby d8_0) (by decide) (by decide)
 obtain ⟨b1, g1⟩ : ∃ z, z = h0.size := ⟨_, rfl⟩
 rw [← g1] at A1 D1 st1
 have M1 : h0.size ≤ h1.size := Nat.le_trans (Nat.le_refl _) E1.1
 have O1 := Old.ext O0 E1
 have sz_b1 : h0.size ≤ b1 := Nat.le_of_eq g1.symm
 have g_b1 : n0 ≤ b1 := Nat.le_trans (own_oz O0) (Nat.le_trans (Nat.le_refl _) sz_b1)
 have F1_19 : Fld Z h1 b1 "com/example/driftless/driftless/CodePoints" "bytes" "[B" .null := D1 (Or.inl (w_19 hw)) (ty := (.array .byte)) (by decide)
 have F1_21 : Fld Z h1 b1 "com/example/driftless/driftless/CodePoints" "width" "I" (.int 0) := D1 (Or.inl (w_21 hw)) (ty := .int) (by decide)
 have F1_35 : Fld Z h1 b1 "com/example/driftless/driftless/CodePoints" "length" "I" (.int 0) := D1 (Or.inl (w_35 hw)) (ty := .int) (by decide)
 obtain ⟨_, T2, L2, X2, hQ2, st2⟩ := own_sb X1 hx hZ hown (y := yn1) (own_w hw 70 rfl) (own_w hw 11 rfl) (own_w hw 12 rfl) (w_9 hw) e1 (a := b1) (argsL := []) (rest := [(.ref b1)]) (rm2 l Z a0 hw w1 kw1 G [] b1 h1 n0 O1 g_b1 A1 F1_19 F1_35 F1_21) (g := (mkF m 4 #[.val (.ref o1), .val (.int 3), .unset, .unset] [(.ref b1), (.ref b1)])) rfl (by rw [hml]; rfl) rfl (hb hby d8_4) (lenOf pd1 rfl) (W := 1) (c1 := 1) (s1 := 3)
 obtain ⟨rfl, Nq3, K4, f5, f6, f7, f8⟩ := hQ2
 have N2 := Fr.app N0 Nq3
 have M2 : h0.size ≤ T2.heap.size := Nat.le_trans M1 K4.1
 have O2 := Old.keep O1 K4 (allS g_b1 all0)
 have lt9 : o1 < h0.size := P0.lt
 have ne10 : o1 ≠ b1 := Nat.ne_of_lt (Nat.lt_of_lt_of_le lt9 sz_b1)
 have f11 := ((P1.ext E1).keep K4 (ninS ne10 nin0))
 obtain ⟨T12, X12, e12, st12⟩ := yag X2 hx hZ hown hby (w_18 hw) rfl f11 9 (l339_3 o1 b1) [(.ref b1)] d8_9 d8_10 rfl
 obtain ⟨T13, h13, X13, e13, W13, st13⟩ := putF X12 hx hZ hown (host := "") (Or.inl (w_18 hw)) Via.refl e12 f6 f5 (Or.inl (w_19 hw)) (w_8 hw) (ty := (.array .byte)) (by decide) rfl rfl (g := (mkF m 13 (l339_3 o1 b1) [(.ref o2), (.ref b1)])) rfl rfl (hb hby d8_13)
 have N13 := Fr.snoc X13 N2 g_b1
 have Fw13 := f6.same W13
 have M13 : h0.size ≤ h13.size := Nat.le_trans M2 (Nat.le_of_eq W13.size.symm)
 have O13 := Old.wr O2 W13 g_b1
 have f14 := (((P3.ext E1).keep K4 (ninS ne10 nin0)).other W13 (Or.inl ne10))
 obtain ⟨T15, X15, e15, st15⟩ := yag X13 hx hZ hown hby (w_20 hw) e13 f14 17 (l339_3 o1 b1) [(.ref b1)] d8_17 d8_18 rfl
 have f16 := (f8.other W13 (Or.inr (slot_ne (Or.inl (w_21 hw)) (Or.inl (w_19 hw)) (by decide) (t := .int) (t' := (.array .byte)) (by decide) (by decide))))
 have f17 := (f5.wr W13)
 obtain ⟨T18, h18, X18, e18, W18, st18⟩ := putF X15 hx hZ hown (host := "") (Or.inl (w_20 hw)) Via.refl e15 f16 f17 (Or.inl (w_21 hw)) (w_8 hw) (ty := .int) (by decide) rfl rfl (g := (mkF m 21 (l339_3 o1 b1) [(.int 2), (.ref b1)])) rfl rfl (hb hby d8_21)
 have N18 := Fr.snoc X18 N13 g_b1
 have Fw18 := f16.same W18
 have M18 : h0.size ≤ h18.size := Nat.le_trans M13 (Nat.le_of_eq W18.size.symm)
 have O18 := Old.wr O13 W18 g_b1
 have f19 := ((((P2.ext E1).keep K4 (ninS ne10 nin0)).other W13 (Or.inl ne10)).other W18 (Or.inl ne10))
 obtain ⟨T20, X20, e20, st20⟩ := yag X18 hx hZ hown hby (w_34 hw) e18 f19 25 (l339_3 o1 b1) [(.ref b1)] d8_25 d8_26 rfl
 have f21 := ((f7.other W13 (Or.inr (slot_ne (Or.inl (w_35 hw)) (Or.inl (w_19 hw)) (by decide) (t := .int) (t' := (.array .byte)) (by decide) (by decide)))).other W18 (Or.inr (slot_ne (Or.inl (w_35 hw)) (Or.inl (w_21 hw)) (by decide) (t := .int) (t' := .int) (by decide) (by decide))))
 have f22 := (f17.wr W18)
 obtain ⟨T23, h23, X23, e23, W23, st23⟩ := putF X20 hx hZ hown (host := "") (Or.inl (w_34 hw)) Via.refl e20 f21 f22 (Or.inl (w_35 hw)) (w_8 hw) (ty := .int) (by decide) rfl rfl (g := (mkF m 29 (l339_3 o1 b1) [(.int 2), (.ref b1)])) rfl rfl (hb hby d8_29)
 have N23 := Fr.snoc X23 N18 g_b1
 have M23 : h0.size ≤ h23.size := Nat.le_trans M18 (Nat.le_of_eq W23.size.symm)
 have O23 := Old.wr O18 W23 g_b1
 have f24 := (f19.other W23 (Or.inl ne10))
 obtain ⟨T25, X25, e25, st25⟩ := yag X23 hx hZ hown hby (w_34 hw) e23 f24 33 (l339_3 o1 b1) [(.ref o1)] d8_33 d8_34 rfl
 obtain ⟨T26, h26, k26, X26, e26, E26, A26, EX26, st26⟩ := newPE X25 hx hZ (own_w hw 40 rfl) e25 (g := (mkF m 39 (l339_3 o1 b1) [(.int 6), (.ref o1)])) rfl (hb hby d8_39) rfl (by decide) (cap := 6) (by decide) (by decide) (by decide) (by decide) (ad := "[B") (by decide)
 obtain ⟨b26, g26⟩ : ∃ z, z = h23.size := ⟨_, rfl⟩
 rw [← g26] at A26 EX26 st26
 have O26 := Old.ext O23 E26
 have sz_b26 : h23.size ≤ b26 := Nat.le_of_eq g26.symm
 have g_b26 : n0 ≤ b26 := Nat.le_trans (own_oz O0) (Nat.le_trans M23 sz_b26)
 have V26_0 := Arv.new A26 (by decide)
 have V26 : Arv Z h26 b26 k26 .byte (6 : Int32) [(.int 0), (.int 0), (.int 0), (.int 0), (.int 0), (.int 0)] (.int 0) := V26_0.pad (pad_rep [] (.int 0) 6)
 have f27 := ((((f11.other W13 (Or.inl ne10)).other W18 (Or.inl ne10)).other W23 (Or.inl ne10)).ext E26)
 have f28 := ((((((P0.ext E1).keep K4).wr W13).wr W18).wr W23).ext E26)
 obtain ⟨T29, h29, X29, e29, W29, st29⟩ := putF X26 hx hZ hown (host := "") (Or.inl (w_18 hw)) Via.refl e26 f27 f28 (Or.inl (w_19 hw)) (w_8 hw) (ty := (.array .byte)) (by decide) rfl rfl (g := (mkF m 41 (l339_3 o1 b1) [(.ref b26), (.ref o1)])) rfl rfl (hb hby d8_41)
 have N29 := Fr.snoc X29 N23 g_o1
 have Fw29 := f27.same W29
 have O29 := Old.wr O26 W29 g_o1
 have f30 := ((((f14.other W18 (Or.inl ne10)).other W23 (Or.inl ne10)).ext E26).other W29 (Or.inr (slot_ne (Or.inl (w_21 hw)) (Or.inl (w_19 hw)) (by decide) (t := .int) (t' := (.array .byte)) (by decide) (by decide))))
 have f31 := (f28.wr W29)
 obtain ⟨T32, h32, X32, e32, W32, st32⟩ := putF X29 hx hZ hown (host := "") (Or.inl (w_20 hw)) Via.refl e29 f30 f31 (Or.inl (w_21 hw)) (w_8 hw) (ty := .int) (by decide) rfl rfl (g := (mkF m 46 (l339_3 o1 b1) [(.int 3), (.ref o1)])) rfl rfl (hb hby d8_46)
 have N32 := Fr.snoc X32 N29 g_o1
 have Fw32 := f30.same W32
 have O32 := Old.wr O29 W32 g_o1
 have f33 := (((f24.ext E26).other W29 (Or.inr (slot_ne (Or.inl (w_35 hw)) (Or.inl (w_19 hw)) (by decide) (t := .int) (t' := (.array .byte)) (by decide) (by decide)))).other W32 (Or.inr (slot_ne (Or.inl (w_35 hw)) (Or.inl (w_21 hw)) (by decide) (t := .int) (t' := .int) (by decide) (by decide))))
 obtain ⟨T34, X34, e34, st34⟩ := yag X32 hx hZ hown hby (w_34 hw) e32 f33 52 (l339_0 o1 b1) [(.int 0)] d8_52 d8_53 rfl
 have f35 := (((((Fw13.other W18 (Or.inr (slot_ne (Or.inl (w_19 hw)) (Or.inl (w_21 hw)) (by decide) (t := (.array .byte)) (t' := .int) (by decide) (by decide)))).other W23 (Or.inr (slot_ne (Or.inl (w_19 hw)) (Or.inl (w_35 hw)) (by decide) (t := (.array .byte)) (t' := .int) (by decide) (by decide)))).ext E26).other W29 (Or.inl (Ne.symm ne10))).other W32 (Or.inl (Ne.symm ne10)))
 have f36 := ((((Fw18.other W23 (Or.inr (slot_ne (Or.inl (w_21 hw)) (Or.inl (w_35 hw)) (by decide) (t := .int) (t' := .int) (by decide) (by decide)))).ext E26).other W29 (Or.inl (Ne.symm ne10))).other W32 (Or.inl (Ne.symm ne10)))
 have lt37 : o2 < h0.size := P4.lt
 have ne38 : o2 ≠ b1 := Nat.ne_of_lt (Nat.lt_of_lt_of_le lt37 sz_b1)
 have f39 := ((((((((P5.ext E1).keep K4).wr W13).wr W18).wr W23).ext E26).wr W29).wr W32)
 have f40 := (f31.wr W32)
 have ne41 : o2 ≠ o1 := ne_exa f39 f40 (by decide)
 have f42 := ((((((((P4.ext E1).keep K4 (ninS ne38 nin0)).other W13 ne38).other W18 ne38).other W23 ne38).ext E26).other W29 ne41).other W32 ne41)
 have f43 := ((((f22.wr W23).ext E26).wr W29).wr W32)
 obtain ⟨_, T44, L44, X44, hQ44, st44⟩ := own_vb X34 hx hZ hown (y := yn9) (own_w hw 71 rfl) (own_w hw 59 rfl) (own_w hw 61 rfl) (own_w hw 60 rfl) (own_w hw 62 rfl) (w_9 hw) e34 f43 (argsL := [(.int 0)]) (rest := [(.int 0), (.ref o1)]) (rm41 l Z a0 hw [] b1 o2 kc3 p4 p5 p6 p7 h32 n0 O32 g_b1 g_o2 f35 f36 f42) (g := (mkF m 63 (l339_0 o1 b1) [(.int 0), (.ref b1), (.int 0), (.ref o1)])) rfl (by rw [hml]; rfl) rfl (hb hby d8_63) (lenOf pd2 rfl) (W := 2) (c1 := 2) (s1 := 9)
 obtain ⟨rfl, Nq45, e46⟩ := hQ44
 have N44 := Fr.app N32 Nq45
 have f47 := (Fw29.other W32 (Or.inr (slot_ne (Or.inl (w_19 hw)) (Or.inl (w_21 hw)) (by decide) (t := (.array .byte)) (t' := .int) (by decide) (by decide))))
 have lt48 : o1 < h23.size := (Nat.lt_of_lt_of_le (Nat.lt_of_lt_of_le (Nat.lt_of_lt_of_le (Nat.lt_of_lt_of_le (Nat.lt_of_lt_of_le P0.lt E1.1) K4.1) (Nat.le_of_eq W13.size.symm)) (Nat.le_of_eq W18.size.symm)) (Nat.le_of_eq W23.size.symm))
 have ne49 : o1 ≠ b26 := Nat.ne_of_lt (Nat.lt_of_lt_of_le lt48 sz_b26)
 have f50 := ((V26.other W29 (Ne.symm ne49)).other W32 (Ne.symm ne49))
 have f51 := ((EX26.wr W29).wr W32)
 obtain ⟨_, T52, L52, X52, hQ52, st52⟩ := own_pb X44 hx hZ hown (y := yn6) (w_49 hw) (w_50 hw) (own_selp (mvT hZ (w_25 hw)) rfl (Cond.privateMethod_at (mvP hZ (w_51 hw) (args := #[]))) (mvT hZ (w_50 hw)) (by decide)) (w_51 hw) (own_w hw 52 rfl) (w_9 hw) e46 f40 (argsL := [(.int 0), (.int (((p4 &&& (255 : Int32)) <<< ((8 : Int32) &&& 31)) ||| (p5 &&& (255 : Int32))))]) (rest := []) (rm15 l Z a0 hw [] o1 b26 k26 ((((p4 &&& (255 : Int32)) <<< ((8 : Int32) &&& 31)) ||| (p5 &&& (255 : Int32)))) h32 n0 O32 g_o1 g_b26 f40 f47 Fw32 f50 f51) (g := (mkF m 66 (l339_0 o1 b1) [(.int (((p4 &&& (255 : Int32)) <<< ((8 : Int32) &&& 31)) ||| (p5 &&& (255 : Int32)))), (.int 0), (.ref o1)])) rfl (by rw [hml]; rfl) rfl (hb hby d8_66) (lenOf pd4 rfl) (W := 0) (c1 := 2) (s1 := 9)
 obtain ⟨rfl, Nq53, K54, f55, f56⟩ := hQ52
 have N52 := Fr.app N44 Nq53
 have O52 := Old.keep O32 K54 (allS g_b26 all0)
 have f57 := (f33.keep K54 (ninS ne49 nin0))
 obtain ⟨T58, X58, e58, st58⟩ := yag X52 hx hZ hown hby (w_34 hw) rfl f57 52 (l339_1 o1 b1) [(.int 1)] d8_52 d8_53 rfl
 have lt59 : b1 < h23.size := (Nat.lt_of_lt_of_le (Nat.lt_of_lt_of_le (Nat.lt_of_lt_of_le (Nat.lt_of_lt_of_le A1.lt K4.1) (Nat.le_of_eq W13.size.symm)) (Nat.le_of_eq W18.size.symm)) (Nat.le_of_eq W23.size.symm))
 have ne60 : b1 ≠ b26 := Nat.ne_of_lt (Nat.lt_of_lt_of_le lt59 sz_b26)
 have f61 := (f35.keep K54 (ninS ne60 nin0))
 have f62 := (f36.keep K54 (ninS ne60 nin0))
 have lt63 : o2 < h23.size := (Nat.lt_of_lt_of_le (Nat.lt_of_lt_of_le (Nat.lt_of_lt_of_le (Nat.lt_of_lt_of_le (Nat.lt_of_lt_of_le P4.lt E1.1) K4.1) (Nat.le_of_eq W13.size.symm)) (Nat.le_of_eq W18.size.symm)) (Nat.le_of_eq W23.size.symm))
 have ne64 : o2 ≠ b26 := Nat.ne_of_lt (Nat.lt_of_lt_of_le lt63 sz_b26)
 have f65 := (f42.keep K54 (ninS ne64 nin0))
 have f66 := (f43.keep K54)
 obtain ⟨_, T67, L67, X67, hQ67, st67⟩ := own_vb X58 hx hZ hown (y := yn9) (own_w hw 71 rfl) (own_w hw 59 rfl) (own_w hw 61 rfl) (own_w hw 60 rfl) (own_w hw 62 rfl) (w_9 hw) e58 f66 (argsL := [(.int 1)]) (rest := [(.int 1), (.ref o1)]) (rm42 l Z a0 hw [] b1 o2 kc3 p4 p5 p6 p7 T52.heap n0 O52 g_b1 g_o2 f61 f62 f65) (g := (mkF m 63 (l339_1 o1 b1) [(.int 1), (.ref b1), (.int 1), (.ref o1)])) rfl (by rw [hml]; rfl) rfl (hb hby d8_63) (lenOf pd2 rfl) (W := 2) (c1 := 2) (s1 := 9)
 obtain ⟨rfl, Nq68, e69⟩ := hQ67
 have N67 := Fr.app N52 Nq68
 have f70 := (f40.keep K54)
 have f71 := (f47.keep K54 (ninS ne49 nin0))
 have f72 := (Fw32.keep K54 (ninS ne49 nin0))
 obtain ⟨_, T73, L73, X73, hQ73, st73⟩ := own_pb X67 hx hZ hown (y := yn6) (w_49 hw) (w_50 hw) (own_selp (mvT hZ (w_25 hw)) rfl (Cond.privateMethod_at (mvP hZ (w_51 hw) (args := #[]))) (mvT hZ (w_50 hw)) (by decide)) (w_51 hw) (own_w hw 52 rfl) (w_9 hw) e69 f70 (argsL := [(.int 1), (.int (((p6 &&& (255 : Int32)) <<< ((8 : Int32) &&& 31)) ||| (p7 &&& (255 : Int32))))]) (rest := []) (rm16 l Z a0 hw [] o1 b26 k26 (((((((((p4 &&& (255 : Int32)) <<< ((8 : Int32) &&& 31)) ||| (p5 &&& (255 : Int32))).toUInt32 >>> ((8 : Int32) &&& 31).toUInt32).toInt32).toUInt32 >>> ((8 : Int32) &&& 31).toUInt32).toInt32).toInt8.toInt32)) (((((((p4 &&& (255 : Int32)) <<< ((8 : Int32) &&& 31)) ||| (p5 &&& (255 : Int32))).toUInt32 >>> ((8 : Int32) &&& 31).toUInt32).toInt32).toInt8.toInt32)) (((((p4 &&& (255 : Int32)) <<< ((8 : Int32) &&& 31)) ||| (p5 &&& (255 : Int32))).toInt8.toInt32)) ((((p6 &&& (255 : Int32)) <<< ((8 : Int32) &&& 31)) ||| (p7 &&& (255 : Int32)))) T52.heap n0 O52 g_o1 g_b26 f70 f71 f72 f55 f56) (g := (mkF m 66 (l339_1 o1 b1) [(.int (((p6 &&& (255 : Int32)) <<< ((8 : Int32) &&& 31)) ||| (p7 &&& (255 : Int32)))), (.int 1), (.ref o1)])) rfl (by rw [hml]; rfl) rfl (hb hby d8_66) (lenOf pd4 rfl) (W := 0) (c1 := 2) (s1 := 9)
 obtain ⟨rfl, Nq74, K75, f76, f77⟩ := hQ73
 have N73 := Fr.app N67 Nq74
 have f78 := (f57.keep K75 (ninS ne49 nin0))
 obtain ⟨T79, X79, e79, st79⟩ := yag X73 hx hZ hown hby (w_34 hw) rfl f78 52 (l339_2 o1 b1) [(.int 2)] d8_52 d8_53 rfl
 obtain ⟨fs, hr, hrun, hended, hW, hsame⟩ := X79.leave (v := none) (fun _ => rfl)
 have KL : Keep h0 T73.heap [o1] := (((((((((((Keep.refl h0 [o1]).ext E1).trans K4 (allS (Or.inr (Nat.le_trans (Nat.le_refl _) sz_b1)) all0)).wr W13 (Or.inr (Nat.le_trans (Nat.le_refl _) sz_b1))).wr W18 (Or.inr (Nat.le_trans (Nat.le_refl _) sz_b1))).wr W23 (Or.inr (Nat.le_trans (Nat.le_refl _) sz_b1))).ext E26).wr W29 (Or.inl (List.mem_of_getElem? (i := 0) rfl))).wr W32 (Or.inl (List.mem_of_getElem? (i := 0) rfl))).trans K54 (allS (Or.inr (Nat.le_trans M23 sz_b26)) all0)).trans K75 (allS (Or.inr (Nat.le_trans M23 sz_b26)) all0))
 have f80 := (f70.keep K75)
 have f81 := (f71.keep K75 (ninS ne49 nin0))
 have f82 := (f72.keep K75 (ninS ne49 nin0))
 refine ⟨_, _, pre0 _ ?_, hrun, hended, _, _, rfl, ?_, ⟨_, rfl⟩, hW, hsame.mono (by decide) (by decide)⟩
 ·
  refine st1 _ ?_
  refine XS.dup X1.here hx rfl (hb hby d8_3) rfl rfl ?_
  refine st2 _ ?_
  refine XS.astoreN X2.here hx rfl (hb hby d8_7) rfl rfl (l' := (l339_3 o1 b1)) rfl ?_
  refine yan X2 hx hby d8_8 rfl rfl ?_
  refine st12 _ ?_
  refine st13 _ ?_
  refine yan X13 hx hby d8_16 rfl rfl ?_
  refine st15 _ ?_
  refine st18 _ ?_
  refine yan X18 hx hby d8_24 rfl rfl ?_
  refine st20 _ ?_
  refine st23 _ ?_
  refine yan X23 hx hby d8_32 rfl rfl ?_
  refine st25 _ ?_
  refine yin X25 hx hby d8_37 rfl ?_
  refine XS.imul X25.here hx rfl (hb hby d8_38) rfl ?_
  refine st26 _ ?_
  refine st29 _ ?_
  refine yan X29 hx hby d8_44 rfl rfl ?_
  refine yin X29 hx hby d8_45 rfl ?_
  refine st32 _ ?_
  refine XS.iconst X32.here hx rfl (hb hby d8_49) ?_
  refine yit X32 hx hby d8_50 (l' := (l339_0 o1 b1)) rfl ?_
  refine yin X32 hx hby d8_51 rfl ?_
  refine st34 _ ?_
  refine yno X34 hx hby d8_56 (tlt (by decide : (0 : Int32) < (2 : Int32))).2.1 ?_
  refine yan X34 hx hby d8_59 rfl rfl ?_
  refine yin X34 hx hby d8_60 rfl ?_
  refine yan X34 hx hby d8_61 rfl rfl ?_
  refine yin X34 hx hby d8_62 rfl ?_
  refine st44 _ ?_
  refine st52 _ ?_
  refine XS.iinc X52.here hx rfl (hb hby d8_69) rfl (l' := (l339_1 o1 b1)) rfl ?_
  refine ygo X52 hx hby 72 51 rfl d8_72 (by decide) ?_
  show Steps p.tables e below (T52.setTop (mkF m 51 (l339_1 o1 b1) [])) _
  refine yin X52 hx hby d8_51 rfl ?_
  refine st58 _ ?_
  refine yno X58 hx hby d8_56 (tlt (by decide : (1 : Int32) < (2 : Int32))).2.1 ?_
  refine yan X58 hx hby d8_59 rfl rfl ?_
  refine yin X58 hx hby d8_60 rfl ?_
  refine yan X58 hx hby d8_61 rfl rfl ?_
  refine yin X58 hx hby d8_62 rfl ?_
  refine st67 _ ?_
  refine st73 _ ?_
  refine XS.iinc X73.here hx rfl (hb hby d8_69) rfl (l' := (l339_2 o1 b1)) rfl ?_
  refine ygo X73 hx hby 72 51 rfl d8_72 (by decide) ?_
  refine yin X73 hx hby d8_51 rfl ?_
  refine st79 _ ?_
  refine yye X79 hx hby 56 75 rfl d8_56 (flt (by decide : ¬ ((2 : Int32) < (2 : Int32)))).2.1 (by decide) ?_
  show Steps p.tables e below (T79.setTop (mkF m 75 (l339_2 o1 b1) [])) _
  exact X79.returnOut hx hret (hb hby d8_75) hr
 ·
  show Q43 Z w1 kw1 o1 o2 kc3 p4 p5 p6 p7 h0 n0 _ T79.heap _
  rw [e79]
  exact ⟨b26, k26, rfl, N73, KL, (Nat.le_trans M23 sz_b26), f80, f81, f78, f82, f76, f77⟩
def l340_0 (o1 o2 : Addr) : Array Slot := #[.val (.ref o1), .val (.int 0), .val (.ref o2), .val (.int 2), .val (.int 1), .val (.int 2), .val (.int 6), .val (.int 0)]
def l340_1 (o1 o2 : Addr) : Array Slot := #[.val (.ref o1), .val (.int 0), .val (.ref o2), .val (.int 2), .val (.int 1), .val (.int 2), .val (.int 6), .val (.int 1)]
def l340_2 (o1 o2 : Addr) : Array Slot := #[.val (.ref o1), .val (.int 0), .val (.ref o2), .val (.int 2), .val (.int 1), .val (.int 3), .val (.int 9), .val (.int 0)]
def l340_3 (o1 o2 : Addr) : Array Slot := #[.val (.ref o1), .val (.int 0), .val (.ref o2), .val (.int 2), .val (.int 1), .val (.int 3), .val (.int 9), .val (.int 1)]
def l340_4 (o1 o2 : Addr) : Array Slot := #[.val (.ref o1), .val (.int 0), .val (.ref o2), .val (.int 2), .val (.int 1), .val (.int 2), .val (.int 3), .unset]
def l340_5 (o1 o2 : Addr) : Array Slot := #[.val (.ref o1), .val (.int 0), .val (.ref o2), .val (.int 2), .val (.int 1), .val (.int 3), .val (.int 3), .unset]
def l340_6 (o1 o2 : Addr) : Array Slot := #[.val (.ref o1), .val (.int 0), .val (.ref o2), .val (.int 2), .val (.int 1), .val (.int 2), .val (.int 2), .unset]
def l340_7 (o1 o2 : Addr) : Array Slot := #[.val (.ref o1), .val (.int 0), .val (.ref o2), .val (.int 2), .val (.int 1), .val (.int 2), .val (.int 6), .unset]
def l340_8 (o1 o2 : Addr) : Array Slot := #[.val (.ref o1), .val (.int 0), .val (.ref o2), .val (.int 2), .val (.int 1), .val (.int 3), .val (.int 9), .unset]
theorem ef44 (m : MethodId) (x0 : Addr) (x1 : Int32) (x2 : Addr) (x3 x4 : Int32) : entryFrame m #[(.ref x0), (.int x1), (.ref x2), (.int x3), (.int x4)] 8 = mkF m 0 #[.val (.ref x0), .val (.int x1), .val (.ref x2), .val (.int x3), .val (.int x4), .unset, .unset, .unset] [] := by first | (simp [entryFrame, mkF, argsToLocals, Value.category]; done) | rfl
def Q44 (Z : State) (w1 : Addr) (kw1 : ClassId) (o1 o2 o3 : Addr) (kc4 : ClassId) (p5 p6 p7 : Int32) (kc8 : ClassId) (p9 p10 : Int32) (p11 p12 : Int32) (h0 : Heap) (n0 : Nat) (v : Option Value) (h : Heap) (L : List Loc) : Prop :=
  (∃ b65 : Addr, ∃ k66 : ClassId, (p7 < (65536 : Int32)) ∧ v = none ∧ Fr n0 L ∧ Keep h0 h [o1] ∧ h0.size ≤ b65 ∧ (Exa Z h o1 "com/example/driftless/driftless/CodePoints") ∧ (Fld Z h o1 "com/example/driftless/driftless/CodePoints" "bytes" "[B" (.ref b65)) ∧ (Fld Z h o1 "com/example/driftless/driftless/CodePoints" "length" "I" (.int 3)) ∧ (Fld Z h o1 "com/example/driftless/driftless/CodePoints" "width" "I" (.int 2)) ∧ (Arv Z h b65 k66 .byte (6 : Int32) [(.int (((p7.toUInt32 >>> ((8 : Int32) &&& 31).toUInt32).toInt32).toInt8.toInt32)), (.int (p7.toInt8.toInt32)), (.int p9), (.int p10), (.int p11), (.int p12)] (.int 0)) ∧ (Exa Z h b65 "[B"))
  ∨ (∃ b140 : Addr, ∃ k141 : ClassId, v = none ∧ Fr n0 L ∧ Keep h0 h [o1] ∧ h0.size ≤ b140 ∧ (Exa Z h o1 "com/example/driftless/driftless/CodePoints") ∧ (Fld Z h o1 "com/example/driftless/driftless/CodePoints" "bytes" "[B" (.ref b140)) ∧ (Fld Z h o1 "com/example/driftless/driftless/CodePoints" "length" "I" (.int 3)) ∧ (Fld Z h o1 "com/example/driftless/driftless/CodePoints" "width" "I" (.int 3)) ∧ (Arv Z h b140 k141 .byte (9 : Int32) [(.int (((((p7.toUInt32 >>> ((8 : Int32) &&& 31).toUInt32).toInt32).toUInt32 >>> ((8 : Int32) &&& 31).toUInt32).toInt32).toInt8.toInt32)), (.int (((p7.toUInt32 >>> ((8 : Int32) &&& 31).toUInt32).toInt32).toInt8.toInt32)), (.int (p7.toInt8.toInt32)), (.int ((((((((p9 &&& (255 : Int32)) <<< ((8 : Int32) &&& 31)) ||| (p10 &&& (255 : Int32))).toUInt32 >>> ((8 : Int32) &&& 31).toUInt32).toInt32).toUInt32 >>> ((8 : Int32) &&& 31).toUInt32).toInt32).toInt8.toInt32)), (.int ((((((p9 &&& (255 : Int32)) <<< ((8 : Int32) &&& 31)) ||| (p10 &&& (255 : Int32))).toUInt32 >>> ((8 : Int32) &&& 31).toUInt32).toInt32).toInt8.toInt32)), (.int ((((p9 &&& (255 : Int32)) <<< ((8 : Int32) &&& 31)) ||| (p10 &&& (255 : Int32))).toInt8.toInt32)), (.int ((((((((p11 &&& (255 : Int32)) <<< ((8 : Int32) &&& 31)) ||| (p12 &&& (255 : Int32))).toUInt32 >>> ((8 : Int32) &&& 31).toUInt32).toInt32).toUInt32 >>> ((8 : Int32) &&& 31).toUInt32).toInt32).toInt8.toInt32)), (.int ((((((p11 &&& (255 : Int32)) <<< ((8 : Int32) &&& 31)) ||| (p12 &&& (255 : Int32))).toUInt32 >>> ((8 : Int32) &&& 31).toUInt32).toInt32).toInt8.toInt32)), (.int ((((p11 &&& (255 : Int32)) <<< ((8 : Int32) &&& 31)) ||| (p12 &&& (255 : Int32))).toInt8.toInt32))] (.int 0)) ∧ (Exa Z h b140 "[B"))
set_option maxRecDepth 65536 in
set_option maxHeartbeats 40000000 in
theorem rm44 (l : Launch) (Z : State) (a0 : Array Value) (hw : HW a0 Z) (w1 : Addr) (kw1 : ClassId) (G : GW Z w1 kw1) (ws : List Jvm.Cond) (o1 o2 o3 : Addr) (kc4 : ClassId) (p5 p6 p7 : Int32) (kc8 : ClassId) (p9 p10 : Int32) (p11 p12 : Int32) (h0 : Heap) (n0 : Nat) (O0 : Old Z n0 h0) (g_o1 : n0 ≤ o1) (g_o2 : n0 ≤ o2) (g_o3 : n0 ≤ o3) (P0 : Exa Z h0 o1 "com/example/driftless/driftless/CodePoints") (P1 : Fld Z h0 o1 "com/example/driftless/driftless/CodePoints" "bytes" "[B" (.ref o3)) (P2 : Fld Z h0 o1 "com/example/driftless/driftless/CodePoints" "length" "I" (.int 2)) (P3 : Fld Z h0 o1 "com/example/driftless/driftless/CodePoints" "width" "I" (.int 2)) (P4 : Arv Z h0 o2 kc4 .int (3 : Int32) [(.int p5), (.int p6), (.int p7)] (.int 0)) (P5 : Exa Z h0 o2 "[I") (P6 : Arv Z h0 o3 kc8 .byte (4 : Int32) [(.int p9), (.int p10), (.int p11), (.int p12)] (.int 0)) (P7 : Exa Z h0 o3 "[B") :
    MF l yn8 prog_6_method_5_code 8 none ws ({ frames := 3, cells := 3, slots := 18, locals := 40 } : Room) #[(.ref o1), (.int 0), (.ref o2), (.int 2), (.int 1)] Z h0 (Q44 Z w1 kw1 o1 o2 o3 kc4 p5 p6 p7 kc8 p9 p10 p11 p12 h0 n0) := by
 obtain ⟨S_w1, E_w1, A_w1⟩ := id G
 refine MetFree.of_bodySF (plainFor_of_name pn1) hisR ?_
 intro p e s m args below meth c s₁ Bd hml hP hK
 obtain ⟨rfl, hZ, hh⟩ := hP
 obtain ⟨hx, hby, hown, hret, hlk, X0, e0, N0⟩ := own_bd Bd hh n0
 have pre0 := own_ct s₁ (p := p) (e := e) (below := below) (ef44 m o1 (0 : Int32) o2 (2 : Int32) (1 : Int32))
 revert pre0
 generalize s₁.setTop (entryFrame m #[(.ref o1), (.int 0), (.ref o2), (.int 2), (.int 1)] 8) = E0
 intro pre0
 have J0 : (∃ (T : State) (locs : List Loc), Stand p l e ({ frames := 3, cells := 3, slots := 18, locals := 40 } : Room) s m #[(.ref o1), (.int 0), (.ref o2), (.int 2), (.int 1)] below meth c T locs 0 0 ∧ T.heap = h0 ∧ Fr n0 locs ∧ (Go p e below T (mkF m 38 (l340_4 o1 o2) []) E0) ∧ (p7 < (65536 : Int32))) ∨ (∃ (T : State) (locs : List Loc), Stand p l e ({ frames := 3, cells := 3, slots := 18, locals := 40 } : Room) s m #[(.ref o1), (.int 0), (.ref o2), (.int 2), (.int 1)] below meth c T locs 0 0 ∧ T.heap = h0 ∧ Fr n0 locs ∧ (Go p e below T (mkF m 38 (l340_5 o1 o2) []) E0)) := by
  obtain ⟨T1, X1, e1, st1⟩ := yag X0 hx hZ hown hby (w_20 hw) e0 P3 0 #[.val (.ref o1), .val (.int 0), .val (.ref o2), .val (.int 2), .val (.int 1), .unset, .unset, .unset] [] d2_0 d2_1 rfl
  obtain ⟨cl2, Ar2, qa2, Sa2, Na2, Ha2, Ga2⟩ := id (P4)
  have hin2 := inb_of (j := (2 : Int32)) Sa2 ⟨by decide, by decide⟩
  have hat2 : cl2.slots[((2 : Int32)).toNatClampNeg]? = some (.int p7) := Has.at Ha2 hin2 rfl
  obtain ⟨_, T3, L3, X3, hQ3, st3⟩ := own_cs X1 hx hZ hown (y := yn2) (own_w hw 27 rfl) (own_w hw 28 rfl) (own_w hw 29 rfl) (w_9 hw) e1 (argsL := [(.int p7)]) (rest := [(.int 2)]) (rm3 l Z a0 hw [] p7 h0 n0 O0 ) (g := (mkF m 24 (l340_6 o1 o2) [(.int p7), (.int 2)])) rfl (by rw [hml]; rfl) rfl (hb hby d2_24) (lenOf pd2 rfl) (W := 1) (c1 := 0) (s1 := 0)
  have pre4 : Go p e below T1 (mkF m 24 (l340_6 o1 o2) [(.int p7), (.int 2)]) E0 := fun t k => by
   refine pre0 _ ?_
   refine st1 _ ?_
   refine yis X1 hx hby d2_4 (l' := #[.val (.ref o1), .val (.int 0), .val (.ref o2), .val (.int 2), .val (.int 1), .val (.int 2), .unset, .unset]) rfl ?_
   refine yin X1 hx hby d2_6 rfl ?_
   refine yis X1 hx hby d2_7 (l' := (l340_6 o1 o2)) rfl ?_
   refine yil X1 hx hby d2_9 rfl ?_
   refine yin X1 hx hby d2_11 rfl ?_
   refine yil X1 hx hby d2_12 rfl ?_
   refine yad X1 hx hby d2_14 ?_
   refine yno X1 hx hby d2_15 (tlt (by decide : (2 : Int32) < (3 : Int32))).2.1 ?_
   refine yil X1 hx hby d2_18 rfl ?_
   refine yan X1 hx hby d2_20 rfl rfl ?_
   refine yil X1 hx hby d2_21 rfl ?_
   refine X1.iaload hx (j := (2 : Int32)) (v := (.int p7)) (by rw [e1]; exact Ar2.1) (State.isArrayOf_alike hZ.alike Ar2.2.1) Ar2.2.2 hin2 hat2 (g := (mkF m 23 (l340_6 o1 o2) [(.int 2), (.ref o2), (.int 2)])) rfl rfl (hb hby d2_23) _ ?_
   exact k
  rcases hQ3 with ⟨hc5, rfl, Nq6, e7⟩ | ⟨hc8, hc9, rfl, Nq10, e11⟩ | ⟨hc12, hc13, rfl, Nq14, e15⟩
  ·
   have N3 := Fr.app N0 Nq6
   obtain ⟨_, T16, L16, X16, hQ16, st16⟩ := own_cs X3 hx hZ hown (y := yn3) (w_30 hw) (w_31 hw) (w_33 hw) (w_32 hw) e7 (argsL := [(.int 2), (.int 1)]) (rest := []) (rm4 l Z a0 hw [] ((2 : Int32)) ((1 : Int32)) h0 n0 O0 ) (g := (mkF m 27 (l340_6 o1 o2) [(.int 1), (.int 2)])) rfl (by rw [hml]; rfl) rfl (hb hby d2_27) (lenOf pd0 rfl) (W := 0) (c1 := 0) (s1 := 0)
   have pre17 : Go p e below T3 (mkF m 27 (l340_6 o1 o2) [(.int 1), (.int 2)]) E0 := fun t k => by
    refine pre4 _ ?_
    refine st3 _ ?_
    exact k
   rcases hQ16 with ⟨hc18, rfl, Nq19, e20⟩ | ⟨hc21, rfl, Nq22, e23⟩
   ·
    exact absurd hc18 (by decide : ¬ ((2 : Int32) < (1 : Int32)))
   ·
    have N16 := Fr.app N3 Nq22
    have pre24 : Go p e below T16 (mkF m 38 (l340_4 o1 o2) []) E0 := fun t k => by
     refine pre17 _ ?_
     refine st16 _ ?_
     refine yis X16 hx hby d2_30 (l' := (l340_6 o1 o2)) rfl ?_
     refine XS.iinc X16.here hx rfl (hb hby d2_32) rfl (l' := (l340_4 o1 o2)) rfl ?_
     refine ygo X16 hx hby 35 9 rfl d2_35 (by decide) ?_
     refine yil X16 hx hby d2_9 rfl ?_
     refine yin X16 hx hby d2_11 rfl ?_
     refine yil X16 hx hby d2_12 rfl ?_
     refine yad X16 hx hby d2_14 ?_
     refine yye X16 hx hby 15 38 rfl d2_15 (flt (by decide : ¬ ((3 : Int32) < (3 : Int32)))).2.1 (by decide) ?_
     exact k
    exact (Or.inl ⟨_, _, X16.more (by decide) (by decide), e23, N16, pre24, (own_glt1 (n := 65536) (k := (65536 : Int32)) (by decide) (by have q0 := rng32 p7; have q1 := own_lt1 (n := 256) (k := (256 : Int32)) (by decide) hc5; omega))⟩)
  ·
   have N3 := Fr.app N0 Nq10
   obtain ⟨_, T25, L25, X25, hQ25, st25⟩ := own_cs X3 hx hZ hown (y := yn3) (w_30 hw) (w_31 hw) (w_33 hw) (w_32 hw) e11 (argsL := [(.int 2), (.int 2)]) (rest := []) (rm4 l Z a0 hw [] ((2 : Int32)) ((2 : Int32)) h0 n0 O0 ) (g := (mkF m 27 (l340_6 o1 o2) [(.int 2), (.int 2)])) rfl (by rw [hml]; rfl) rfl (hb hby d2_27) (lenOf pd0 rfl) (W := 0) (c1 := 0) (s1 := 0)
   have pre26 : Go p e below T3 (mkF m 27 (l340_6 o1 o2) [(.int 2), (.int 2)]) E0 := fun t k => by
    refine pre4 _ ?_
    refine st3 _ ?_
    exact k
   rcases hQ25 with ⟨hc27, rfl, Nq28, e29⟩ | ⟨hc30, rfl, Nq31, e32⟩
   ·
    exact absurd hc27 (by decide : ¬ ((2 : Int32) < (2 : Int32)))
   ·
    have N25 := Fr.app N3 Nq31
    have pre33 : Go p e below T25 (mkF m 38 (l340_4 o1 o2) []) E0 := fun t k => by
     refine pre26 _ ?_
     refine st25 _ ?_
     refine yis X25 hx hby d2_30 (l' := (l340_6 o1 o2)) rfl ?_
     refine XS.iinc X25.here hx rfl (hb hby d2_32) rfl (l' := (l340_4 o1 o2)) rfl ?_
     refine ygo X25 hx hby 35 9 rfl d2_35 (by decide) ?_
     refine yil X25 hx hby d2_9 rfl ?_
     refine yin X25 hx hby d2_11 rfl ?_
     refine yil X25 hx hby d2_12 rfl ?_
     refine yad X25 hx hby d2_14 ?_
     refine yye X25 hx hby 15 38 rfl d2_15 (flt (by decide : ¬ ((3 : Int32) < (3 : Int32)))).2.1 (by decide) ?_
     exact k
    exact (Or.inl ⟨_, _, X25.more (by decide) (by decide), e32, N25, pre33, hc9⟩)
  ·
   have N3 := Fr.app N0 Nq14
   obtain ⟨_, T34, L34, X34, hQ34, st34⟩ := own_cs X3 hx hZ hown (y := yn3) (w_30 hw) (w_31 hw) (w_33 hw) (w_32 hw) e15 (argsL := [(.int 2), (.int 3)]) (rest := []) (rm4 l Z a0 hw [] ((2 : Int32)) ((3 : Int32)) h0 n0 O0 ) (g := (mkF m 27 (l340_6 o1 o2) [(.int 3), (.int 2)])) rfl (by rw [hml]; rfl) rfl (hb hby d2_27) (lenOf pd0 rfl) (W := 0) (c1 := 0) (s1 := 0)
   have pre35 : Go p e below T3 (mkF m 27 (l340_6 o1 o2) [(.int 3), (.int 2)]) E0 := fun t k => by
    refine pre4 _ ?_
    refine st3 _ ?_
    exact k
   rcases hQ34 with ⟨hc36, rfl, Nq37, e38⟩ | ⟨hc39, rfl, Nq40, e41⟩
   ·
    have N34 := Fr.app N3 Nq37
    have pre42 : Go p e below T34 (mkF m 38 (l340_5 o1 o2) []) E0 := fun t k => by
     refine pre35 _ ?_
     refine st34 _ ?_
     refine yis X34 hx hby d2_30 (l' := #[.val (.ref o1), .val (.int 0), .val (.ref o2), .val (.int 2), .val (.int 1), .val (.int 3), .val (.int 2), .unset]) rfl ?_
     refine XS.iinc X34.here hx rfl (hb hby d2_32) rfl (l' := (l340_5 o1 o2)) rfl ?_
     refine ygo X34 hx hby 35 9 rfl d2_35 (by decide) ?_
     refine yil X34 hx hby d2_9 rfl ?_
     refine yin X34 hx hby d2_11 rfl ?_
     refine yil X34 hx hby d2_12 rfl ?_
     refine yad X34 hx hby d2_14 ?_
     refine yye X34 hx hby 15 38 rfl d2_15 (flt (by decide : ¬ ((3 : Int32) < (3 : Int32)))).2.1 (by decide) ?_
     exact k
    exact (Or.inr ⟨_, _, X34.more (by decide) (by decide), e38, N34, pre42⟩)
   ·
    exact absurd (by decide : (2 : Int32) < (3 : Int32)) hc39
 rcases J0 with ⟨T43, lc43, X43, e43, N43, pre43, hc44⟩ | ⟨T45, lc45, X45, e45, N45, pre45⟩
 ·
  obtain ⟨T46, X46, e46, st46⟩ := yag X43 hx hZ hown hby (w_20 hw) e43 P3 40 (l340_4 o1 o2) [(.int 2)] d2_40 d2_41 rfl
  obtain ⟨T47, X47, e47, st47⟩ := yag X46 hx hZ hown hby (w_34 hw) e46 P2 53 (l340_4 o1 o2) [] d2_53 d2_54 rfl
  obtain ⟨T48, X48, e48, st48⟩ := yag X47 hx hZ hown hby (w_20 hw) e47 P3 60 (l340_4 o1 o2) [(.int 3)] d2_60 d2_61 rfl
  obtain ⟨T49, X49, e49, st49⟩ := yag X48 hx hZ hown hby (w_18 hw) e48 P1 69 (l340_7 o1 o2) [(.int 6)] d2_69 d2_70 rfl
  obtain ⟨cl50, Ar50, qa50, Sa50, Na50, Ha50, Ga50⟩ := id (P6)
  obtain ⟨T51, X51, e51, st51⟩ := yag X49 hx hZ hown hby (w_18 hw) e49 P1 78 (l340_7 o1 o2) [(.ref o1)] d2_78 d2_79 rfl
  obtain ⟨T52, X52, e52, st52⟩ := yag X51 hx hZ hown hby (w_18 hw) e51 P1 84 (l340_7 o1 o2) [(.int 6), (.ref o3), (.ref o1)] d2_84 d2_85 rfl
  obtain ⟨cl53, Ar53, qa53, Sa53, Na53, Ha53, Ga53⟩ := id (P6)
  obtain ⟨T54, X54, e54, st54⟩ := yag X52 hx hZ hown hby (w_18 hw) e52 P1 89 (l340_7 o1 o2) [(.int 4), (.int 6), (.ref o3), (.ref o1)] d2_89 d2_90 rfl
  obtain ⟨cl55, Ar55, qa55, Sa55, Na55, Ha55, Ga55⟩ := id (P6)
  obtain ⟨_, T56, L56, X56, hQ56, st56⟩ := own_cs X54 hx hZ hown (y := yn3) (w_30 hw) (w_31 hw) (w_33 hw) (w_32 hw) e54 (argsL := [(.int 6), (.int 6)]) (rest := [(.ref o3), (.ref o1)]) (rm4 l Z a0 hw [] ((6 : Int32)) ((6 : Int32)) h0 n0 O0 ) (g := (mkF m 97 (l340_7 o1 o2) [(.int 6), (.int 6), (.ref o3), (.ref o1)])) rfl (by rw [hml]; rfl) rfl (hb hby d2_97) (lenOf pd0 rfl) (W := 2) (c1 := 0) (s1 := 0)
  have pre57 : Go p e below T54 (mkF m 97 (l340_7 o1 o2) [(.int 6), (.int 6), (.ref o3), (.ref o1)]) E0 := fun t k => by
   refine pre43 _ ?_
   refine yil X43 hx hby d2_38 rfl ?_
   refine st46 _ ?_
   refine yye X46 hx hby 44 53 rfl d2_44 (flt (by decide : ¬ ((2 : Int32) < (2 : Int32)))).2.2.2 (by decide) ?_
   refine st47 _ ?_
   refine yil X47 hx hby d2_57 rfl ?_
   refine yad X47 hx hby d2_59 ?_
   refine st48 _ ?_
   refine XS.imul X48.here hx rfl (hb hby d2_64) rfl ?_
   refine yis X48 hx hby d2_65 (l' := (l340_7 o1 o2)) rfl ?_
   refine yil X48 hx hby d2_67 rfl ?_
   refine st49 _ ?_
   refine X49.arraylength hx (by rw [e49]; exact Ar50.1) (State.isArrayOf_alike hZ.alike Ar50.2.1) (g := (mkF m 73 (l340_7 o1 o2) [(.ref o3), (.int 6)])) rfl rfl (hb hby d2_73) _ ?_
   rw [len_of Sa50 Na50]
   refine yno X49 hx hby d2_74 (tlt (by decide : (4 : Int32) < (6 : Int32))).2.2.2 ?_
   refine yan X49 hx hby d2_77 rfl rfl ?_
   refine st51 _ ?_
   refine yil X51 hx hby d2_82 rfl ?_
   refine st52 _ ?_
   refine X52.arraylength hx (by rw [e52]; exact Ar53.1) (State.isArrayOf_alike hZ.alike Ar53.2.1) (g := (mkF m 88 (l340_7 o1 o2) [(.ref o3), (.int 6), (.ref o3), (.ref o1)])) rfl rfl (hb hby d2_88) _ ?_
   rw [len_of Sa53 Na53]
   refine st54 _ ?_
   refine X54.arraylength hx (by rw [e54]; exact Ar55.1) (State.isArrayOf_alike hZ.alike Ar55.2.1) (g := (mkF m 93 (l340_7 o1 o2) [(.ref o3), (.int 4), (.int 6), (.ref o3), (.ref o1)])) rfl rfl (hb hby d2_93) _ ?_
   rw [len_of Sa55 Na55]
   refine XS.iconst X54.here hx rfl (hb hby d2_94) ?_
   refine XS.idiv X54.here hx rfl (hb hby d2_95) rfl (by decide : ¬ ((2 : Int32) = (0 : Int32))) ?_
   refine yad X54 hx hby d2_96 ?_
   exact k
  rcases hQ56 with ⟨hc58, rfl, Nq59, e60⟩ | ⟨hc61, rfl, Nq62, e63⟩
  ·
   exact absurd hc58 (by decide : ¬ ((6 : Int32) < (6 : Int32)))
  ·
   have N56 := Fr.app N43 Nq62
   obtain ⟨_, T64, L64, X64, hQ64, st64⟩ := own_cs X56 hx hZ hown (y := yn5) (own_w hw 36 rfl) (w_37 hw) (own_w hw 39 rfl) (w_38 hw) e63 (argsL := [(.ref o3), (.int 6)]) (rest := [(.ref o1)]) (rm23 l Z a0 hw [] o3 kc8 p9 p10 p11 p12 h0 n0 O0 g_o3 P6) (g := (mkF m 100 (l340_7 o1 o2) [(.int 6), (.ref o3), (.ref o1)])) rfl (by rw [hml]; rfl) rfl (hb hby d2_100) (lenOf pd3 rfl) (W := 1) (c1 := 1) (s1 := 6)
   obtain ⟨b65, k66, rfl, Nq67, K68, sz_b65, f69, f70⟩ := hQ64
   have N64 := Fr.app N56 Nq67
   have g_b65 : n0 ≤ b65 := Nat.le_trans (own_oz O0) sz_b65
   have O64 := Old.keep O0 K68 all0
   have f71 := (P1.keep K68 nin0)
   have f72 := (P0.keep K68)
   obtain ⟨T73, h73, X73, e73, W73, st73⟩ := putF X64 hx hZ hown (host := "") (Or.inl (w_18 hw)) Via.refl rfl f71 f72 (Or.inl (w_19 hw)) (w_8 hw) (ty := (.array .byte)) (by decide) rfl rfl (g := (mkF m 103 (l340_7 o1 o2) [(.ref b65), (.ref o1)])) rfl rfl (hb hby d2_103)
   have N73 := Fr.snoc X73 N64 g_o1
   have Fw73 := f71.same W73
   have O73 := Old.wr O64 W73 g_o1
   obtain ⟨T74, X74, e74, st74⟩ := yag X73 hx hZ hown hby (w_18 hw) e73 Fw73 106 (l340_7 o1 o2) [] d2_106 d2_107 rfl
   have f75 := ((P3.keep K68 nin0).other W73 (Or.inr (slot_ne (Or.inl (w_21 hw)) (Or.inl (w_19 hw)) (by decide) (t := .int) (t' := (.array .byte)) (by decide) (by decide))))
   obtain ⟨T76, X76, e76, st76⟩ := yag X74 hx hZ hown hby (w_20 hw) e74 f75 111 (l340_7 o1 o2) [(.int 0), (.ref b65)] d2_111 d2_112 rfl
   obtain ⟨T77, X77, e77, st77⟩ := yag X76 hx hZ hown hby (w_18 hw) e76 Fw73 116 (l340_7 o1 o2) [(.int 0), (.ref b65)] d2_116 d2_117 rfl
   obtain ⟨T78, X78, e78, st78⟩ := yag X77 hx hZ hown hby (w_20 hw) e77 f75 124 (l340_7 o1 o2) [(.int 1), (.ref b65), (.int 0), (.ref b65)] d2_124 d2_125 rfl
   have f79 := ((P2.keep K68 nin0).other W73 (Or.inr (slot_ne (Or.inl (w_35 hw)) (Or.inl (w_19 hw)) (by decide) (t := .int) (t' := (.array .byte)) (by decide) (by decide))))
   obtain ⟨T80, X80, e80, st80⟩ := yag X78 hx hZ hown hby (w_34 hw) e78 f79 129 (l340_7 o1 o2) [(.int 2), (.ref b65), (.int 0), (.ref b65)] d2_129 d2_130 rfl
   obtain ⟨T81, X81, e81, st81⟩ := yag X80 hx hZ hown hby (w_20 hw) e80 f75 135 (l340_7 o1 o2) [(.int 2), (.int 2), (.ref b65), (.int 0), (.ref b65)] d2_135 d2_136 rfl
   have lt82 : o1 < h0.size := P0.lt
   have ne83 : o1 ≠ b65 := Nat.ne_of_lt (Nat.lt_of_lt_of_le lt82 sz_b65)
   have f84 := (f69.other W73 (Ne.symm ne83))
   obtain ⟨T85, h85, L85, X85, e85, N85, K85, VV85, st85⟩ := cpA X81 hx hZ hown (own_w hw 48 rfl) (w_47 hw) (w_45 hw) (w_46 hw) e81 (us := [(.int p9), (.int p10), (.int p11), (.int p12)]) f84 f84 (Or.inl ⟨rfl, rfl⟩) (by decide) (by decide) (by decide) (by decide) (by decide) rfl (by first | decide | exact (by decide : 2 + 4 ≤ 6)) N73 g_b65 (g := (mkF m 140 (l340_7 o1 o2) [(.int 4), (.int 2), (.ref b65), (.int 0), (.ref b65)])) rfl (by rw [hml]; rfl) rfl (hb hby d2_140) (by decide) (W := 0) (by show 2 * 0 + _ ≤ _; exact Nat.le_of_eq rfl) (by decide)
   have V85 : Arv Z h85 b65 k66 .byte (6 : Int32) [(.int p9), (.int p10), (.int p9), (.int p10), (.int p11), (.int p12)] (.int 0) := VV85
   have O85 := Old.keep O73 K85 (allS g_b65 all0)
   have f86 := (f79.keep K85 (ninS ne83 nin0))
   obtain ⟨T87, X87, e87, st87⟩ := yg X85 hx hZ hown hby (w_34 hw) e85 f86 145 (l340_7 o1 o2) [(.ref o1)] d2_145
   have f88 := ((f72.wr W73).keep K85)
   obtain ⟨T89, h89, X89, e89, W89, st89⟩ := putF X87 hx hZ hown (host := "") (Or.inl (w_34 hw)) Via.refl e87 f86 f88 (Or.inl (w_35 hw)) (w_8 hw) (ty := .int) (by decide) rfl rfl (g := (mkF m 151 (l340_7 o1 o2) [(.int 3), (.ref o1)])) rfl rfl (hb hby d2_151)
   have N89 := Fr.snoc X89 N85 g_o1
   have Fw89 := f86.same W89
   have O89 := Old.wr O85 W89 g_o1
   have f90 := ((((P5.keep K68).wr W73).keep K85).wr W89)
   have f91 := (f88.wr W89)
   have ne92 : o2 ≠ o1 := ne_exa f90 f91 (by decide)
   have lt93 : o2 < h0.size := P4.lt
   have ne94 : o2 ≠ b65 := Nat.ne_of_lt (Nat.lt_of_lt_of_le lt93 sz_b65)
   have f95 := ((((P4.keep K68 nin0).other W73 ne92).keep K85 (ninS ne94 nin0)).other W89 ne92)
   obtain ⟨cl96, Ar96, qa96, Sa96, Na96, Ha96, Ga96⟩ := id (f95)
   have hin96 := inb_of (j := (2 : Int32)) Sa96 ⟨by decide, by decide⟩
   have hat96 : cl96.slots[((2 : Int32)).toNatClampNeg]? = some (.int p7) := Has.at Ha96 hin96 rfl
   have f97 := ((Fw73.keep K85 (ninS ne83 nin0)).other W89 (Or.inr (slot_ne (Or.inl (w_19 hw)) (Or.inl (w_35 hw)) (by decide) (t := (.array .byte)) (t' := .int) (by decide) (by decide))))
   have f98 := ((f75.keep K85 (ninS ne83 nin0)).other W89 (Or.inr (slot_ne (Or.inl (w_21 hw)) (Or.inl (w_35 hw)) (by decide) (t := .int) (t' := .int) (by decide) (by decide))))
   have f99 := (V85.other W89 (Ne.symm ne83))
   have f100 := (((f70.wr W73).keep K85).wr W89)
   obtain ⟨_, T101, L101, X101, hQ101, st101⟩ := own_pb X89 hx hZ hown (y := yn6) (w_49 hw) (w_50 hw) (own_selp (mvT hZ (w_25 hw)) rfl (Cond.privateMethod_at (mvP hZ (w_51 hw) (args := #[]))) (mvT hZ (w_50 hw)) (by decide)) (w_51 hw) (own_w hw 52 rfl) (w_9 hw) e89 f91 (argsL := [(.int 0), (.int p7)]) (rest := []) (rm24 l Z a0 hw [] o1 b65 k66 p9 p10 p9 p10 p11 p12 p7 h89 n0 O89 g_o1 g_b65 f91 f97 f98 f99 f100) (g := (mkF m 175 (l340_0 o1 o2) [(.int p7), (.int 0), (.ref o1)])) rfl (by rw [hml]; rfl) rfl (hb hby d2_175) (lenOf pd4 rfl) (W := 0) (c1 := 1) (s1 := 6)
   obtain ⟨rfl, Nq102, K103, f104, f105⟩ := hQ101
   have N101 := Fr.app N89 Nq102
   obtain ⟨fs, hr, hrun, hended, hW, hsame⟩ := X101.leave (v := none) (fun _ => rfl)
   have KL : Keep h0 T101.heap [o1] := ((((((Keep.refl h0 [o1]).trans K68 all0).wr W73 (Or.inl (List.mem_of_getElem? (i := 0) rfl))).trans K85 (allS (Or.inr (Nat.le_trans (Nat.le_refl _) sz_b65)) all0)).wr W89 (Or.inl (List.mem_of_getElem? (i := 0) rfl))).trans K103 (allS (Or.inr (Nat.le_trans (Nat.le_refl _) sz_b65)) all0))
   have f106 := (f91.keep K103)
   have f107 := (f97.keep K103 (ninS ne83 nin0))
   have f108 := (Fw89.keep K103 (ninS ne83 nin0))
   have f109 := (f98.keep K103 (ninS ne83 nin0))
   refine ⟨_, _, pre57 _ ?_, hrun, hended, _, _, rfl, ?_, ⟨_, rfl⟩, hW, hsame.mono (by decide) (by decide)⟩
   ·
    refine st56 _ ?_
    refine st64 _ ?_
    refine st73 _ ?_
    refine st74 _ ?_
    refine yin X74 hx hby d2_110 rfl ?_
    refine st76 _ ?_
    refine XS.imul X76.here hx rfl (hb hby d2_115) rfl ?_
    show Steps p.tables e below (T76.setTop (mkF m 116 (l340_7 o1 o2) [(.int 0), (.ref b65)])) _
    refine st77 _ ?_
    refine yin X77 hx hby d2_120 rfl ?_
    refine yil X77 hx hby d2_121 rfl ?_
    refine yad X77 hx hby d2_123 ?_
    refine st78 _ ?_
    refine XS.imul X78.here hx rfl (hb hby d2_128) rfl ?_
    refine st80 _ ?_
    refine yin X80 hx hby d2_133 rfl ?_
    refine ysu X80 hx hby d2_134 ?_
    refine st81 _ ?_
    refine XS.imul X81.here hx rfl (hb hby d2_139) rfl ?_
    refine st85 _ ?_
    refine yan X85 hx hby d2_143 rfl rfl ?_
    refine XS.dup X85.here hx rfl (hb hby d2_144) rfl rfl ?_
    refine st87 _ ?_
    refine yil X87 hx hby d2_148 rfl ?_
    refine yad X87 hx hby d2_150 ?_
    refine st89 _ ?_
    refine XS.iconst X89.here hx rfl (hb hby d2_154) ?_
    refine yis X89 hx hby d2_155 (l' := (l340_0 o1 o2)) rfl ?_
    refine yil X89 hx hby d2_157 rfl ?_
    refine yil X89 hx hby d2_159 rfl ?_
    refine yno X89 hx hby d2_161 (tlt (by decide : (0 : Int32) < (1 : Int32))).2.1 ?_
    refine yan X89 hx hby d2_164 rfl rfl ?_
    refine yin X89 hx hby d2_165 rfl ?_
    refine yil X89 hx hby d2_166 rfl ?_
    refine yad X89 hx hby d2_168 ?_
    refine yan X89 hx hby d2_169 rfl rfl ?_
    refine yin X89 hx hby d2_170 rfl ?_
    refine yil X89 hx hby d2_171 rfl ?_
    refine yad X89 hx hby d2_173 ?_
    refine X89.iaload hx (j := (2 : Int32)) (v := (.int p7)) (by rw [e89]; exact Ar96.1) (State.isArrayOf_alike hZ.alike Ar96.2.1) Ar96.2.2 hin96 hat96 (g := (mkF m 174 (l340_0 o1 o2) [(.int 2), (.ref o2), (.int 0), (.ref o1)])) rfl rfl (hb hby d2_174) _ ?_
    refine st101 _ ?_
    refine XS.iinc X101.here hx rfl (hb hby d2_178) rfl (l' := (l340_1 o1 o2)) rfl ?_
    refine ygo X101 hx hby 181 157 rfl d2_181 (by decide) ?_
    refine yil X101 hx hby d2_157 rfl ?_
    refine yil X101 hx hby d2_159 rfl ?_
    show Steps p.tables e below (T101.setTop (mkF m 161 (l340_1 o1 o2) [(.int 1), (.int 1)])) _
    refine yye X101 hx hby 161 184 rfl d2_161 (flt (by decide : ¬ ((1 : Int32) < (1 : Int32)))).2.1 (by decide) ?_
    show Steps p.tables e below (T101.setTop (mkF m 184 (l340_1 o1 o2) [])) _
    exact X101.returnOut hx hret (hb hby d2_184) hr
   ·
    show Q44 Z w1 kw1 o1 o2 o3 kc4 p5 p6 p7 kc8 p9 p10 p11 p12 h0 n0 _ T101.heap _
    exact (Or.inl ⟨b65, k66, hc44, rfl, N101, KL, (Nat.le_trans (Nat.le_refl _) sz_b65), f106, f107, f108, f109, f104, f105⟩)
 ·
  obtain ⟨T110, X110, e110, st110⟩ := yag X45 hx hZ hown hby (w_20 hw) e45 P3 40 (l340_5 o1 o2) [(.int 3)] d2_40 d2_41 rfl
  obtain ⟨_, T111, L111, X111, hQ111, st111⟩ := own_pb X110 hx hZ hown (y := yn7) (own_w hw 65 rfl) (own_w hw 66 rfl) (own_selp (mvT hZ (w_25 hw)) rfl (Cond.privateMethod_at (mvP hZ (own_w hw 67 rfl) (args := #[]))) (mvT hZ (own_w hw 66 rfl)) (by decide)) (own_w hw 67 rfl) (own_w hw 68 rfl) (w_9 hw) e110 P0 (argsL := [(.int 3)]) (rest := []) (rm43 l Z a0 hw w1 kw1 G [] o1 o3 kc8 p9 p10 p11 p12 h0 n0 O0 g_o1 g_o3 P0 P1 P2 P3 P6 P7) (g := (mkF m 50 (l340_5 o1 o2) [(.int 3), (.ref o1)])) rfl (by rw [hml]; rfl) rfl (hb hby d2_50) (lenOf pd5 rfl) (W := 0) (c1 := 2) (s1 := 9)
  obtain ⟨b112, k113, rfl, Nq114, K115, sz_b112, f116, f117, f118, f119, f120, f121⟩ := hQ111
  have N111 := Fr.app N45 Nq114
  have g_b112 : n0 ≤ b112 := Nat.le_trans (own_oz O0) sz_b112
  have M111 : h0.size ≤ T111.heap.size := Nat.le_trans (Nat.le_refl _) K115.1
  have O111 := Old.keep O0 K115 (allS g_o1 all0)
  obtain ⟨T122, X122, e122, st122⟩ := yag X111 hx hZ hown hby (w_34 hw) rfl f118 53 (l340_5 o1 o2) [] d2_53 d2_54 rfl
  obtain ⟨T123, X123, e123, st123⟩ := yag X122 hx hZ hown hby (w_20 hw) e122 f119 60 (l340_5 o1 o2) [(.int 3)] d2_60 d2_61 rfl
  obtain ⟨T124, X124, e124, st124⟩ := yag X123 hx hZ hown hby (w_18 hw) e123 f117 69 (l340_8 o1 o2) [(.int 9)] d2_69 d2_70 rfl
  obtain ⟨cl125, Ar125, qa125, Sa125, Na125, Ha125, Ga125⟩ := id (f120)
  obtain ⟨T126, X126, e126, st126⟩ := yag X124 hx hZ hown hby (w_18 hw) e124 f117 78 (l340_8 o1 o2) [(.ref o1)] d2_78 d2_79 rfl
  obtain ⟨T127, X127, e127, st127⟩ := yag X126 hx hZ hown hby (w_18 hw) e126 f117 84 (l340_8 o1 o2) [(.int 9), (.ref b112), (.ref o1)] d2_84 d2_85 rfl
  obtain ⟨cl128, Ar128, qa128, Sa128, Na128, Ha128, Ga128⟩ := id (f120)
  obtain ⟨T129, X129, e129, st129⟩ := yag X127 hx hZ hown hby (w_18 hw) e127 f117 89 (l340_8 o1 o2) [(.int 6), (.int 9), (.ref b112), (.ref o1)] d2_89 d2_90 rfl
  obtain ⟨cl130, Ar130, qa130, Sa130, Na130, Ha130, Ga130⟩ := id (f120)
  obtain ⟨_, T131, L131, X131, hQ131, st131⟩ := own_cs X129 hx hZ hown (y := yn3) (w_30 hw) (w_31 hw) (w_33 hw) (w_32 hw) e129 (argsL := [(.int 9), (.int 9)]) (rest := [(.ref b112), (.ref o1)]) (rm4 l Z a0 hw [] ((9 : Int32)) ((9 : Int32)) T111.heap n0 O111 ) (g := (mkF m 97 (l340_8 o1 o2) [(.int 9), (.int 9), (.ref b112), (.ref o1)])) rfl (by rw [hml]; rfl) rfl (hb hby d2_97) (lenOf pd0 rfl) (W := 2) (c1 := 2) (s1 := 9)
  have pre132 : Go p e below T129 (mkF m 97 (l340_8 o1 o2) [(.int 9), (.int 9), (.ref b112), (.ref o1)]) E0 := fun t k => by
   refine pre45 _ ?_
   refine yil X45 hx hby d2_38 rfl ?_
   refine st110 _ ?_
   refine yno X110 hx hby d2_44 (tlt (by decide : (2 : Int32) < (3 : Int32))).2.2.2 ?_
   refine yan X110 hx hby d2_47 rfl rfl ?_
   refine yil X110 hx hby d2_48 rfl ?_
   refine st111 _ ?_
   refine st122 _ ?_
   refine yil X122 hx hby d2_57 rfl ?_
   refine yad X122 hx hby d2_59 ?_
   refine st123 _ ?_
   refine XS.imul X123.here hx rfl (hb hby d2_64) rfl ?_
   refine yis X123 hx hby d2_65 (l' := (l340_8 o1 o2)) rfl ?_
   refine yil X123 hx hby d2_67 rfl ?_
   refine st124 _ ?_
   refine X124.arraylength hx (by rw [e124]; exact Ar125.1) (State.isArrayOf_alike hZ.alike Ar125.2.1) (g := (mkF m 73 (l340_8 o1 o2) [(.ref b112), (.int 9)])) rfl rfl (hb hby d2_73) _ ?_
   rw [len_of Sa125 Na125]
   refine yno X124 hx hby d2_74 (tlt (by decide : (6 : Int32) < (9 : Int32))).2.2.2 ?_
   refine yan X124 hx hby d2_77 rfl rfl ?_
   refine st126 _ ?_
   refine yil X126 hx hby d2_82 rfl ?_
   refine st127 _ ?_
   refine X127.arraylength hx (by rw [e127]; exact Ar128.1) (State.isArrayOf_alike hZ.alike Ar128.2.1) (g := (mkF m 88 (l340_8 o1 o2) [(.ref b112), (.int 9), (.ref b112), (.ref o1)])) rfl rfl (hb hby d2_88) _ ?_
   rw [len_of Sa128 Na128]
   refine st129 _ ?_
   refine X129.arraylength hx (by rw [e129]; exact Ar130.1) (State.isArrayOf_alike hZ.alike Ar130.2.1) (g := (mkF m 93 (l340_8 o1 o2) [(.ref b112), (.int 6), (.int 9), (.ref b112), (.ref o1)])) rfl rfl (hb hby d2_93) _ ?_
   rw [len_of Sa130 Na130]
   refine XS.iconst X129.here hx rfl (hb hby d2_94) ?_
   refine XS.idiv X129.here hx rfl (hb hby d2_95) rfl (by decide : ¬ ((2 : Int32) = (0 : Int32))) ?_
   refine yad X129 hx hby d2_96 ?_
   exact k
  rcases hQ131 with ⟨hc133, rfl, Nq134, e135⟩ | ⟨hc136, rfl, Nq137, e138⟩
  ·
   exact absurd hc133 (by decide : ¬ ((9 : Int32) < (9 : Int32)))
  ·
   have N131 := Fr.app N111 Nq137
   obtain ⟨_, T139, L139, X139, hQ139, st139⟩ := own_cs X131 hx hZ hown (y := yn5) (own_w hw 36 rfl) (w_37 hw) (own_w hw 39 rfl) (w_38 hw) e138 (argsL := [(.ref b112), (.int 9)]) (rest := [(.ref o1)]) (rm26 l Z a0 hw [] b112 k113 (((((((((p9 &&& (255 : Int32)) <<< ((8 : Int32) &&& 31)) ||| (p10 &&& (255 : Int32))).toUInt32 >>> ((8 : Int32) &&& 31).toUInt32).toInt32).toUInt32 >>> ((8 : Int32) &&& 31).toUInt32).toInt32).toInt8.toInt32)) (((((((p9 &&& (255 : Int32)) <<< ((8 : Int32) &&& 31)) ||| (p10 &&& (255 : Int32))).toUInt32 >>> ((8 : Int32) &&& 31).toUInt32).toInt32).toInt8.toInt32)) (((((p9 &&& (255 : Int32)) <<< ((8 : Int32) &&& 31)) ||| (p10 &&& (255 : Int32))).toInt8.toInt32)) (((((((((p11 &&& (255 : Int32)) <<< ((8 : Int32) &&& 31)) ||| (p12 &&& (255 : Int32))).toUInt32 >>> ((8 : Int32) &&& 31).toUInt32).toInt32).toUInt32 >>> ((8 : Int32) &&& 31).toUInt32).toInt32).toInt8.toInt32)) (((((((p11 &&& (255 : Int32)) <<< ((8 : Int32) &&& 31)) ||| (p12 &&& (255 : Int32))).toUInt32 >>> ((8 : Int32) &&& 31).toUInt32).toInt32).toInt8.toInt32)) (((((p11 &&& (255 : Int32)) <<< ((8 : Int32) &&& 31)) ||| (p12 &&& (255 : Int32))).toInt8.toInt32)) T111.heap n0 O111 g_b112 f120) (g := (mkF m 100 (l340_8 o1 o2) [(.int 9), (.ref b112), (.ref o1)])) rfl (by rw [hml]; rfl) rfl (hb hby d2_100) (lenOf pd3 rfl) (W := 1) (c1 := 3) (s1 := 18)
   obtain ⟨b140, k141, rfl, Nq142, K143, sz_b140, f144, f145⟩ := hQ139
   have N139 := Fr.app N131 Nq142
   have g_b140 : n0 ≤ b140 := Nat.le_trans (own_oz O111) sz_b140
   have O139 := Old.keep O111 K143 all0
   have f146 := (f117.keep K143 nin0)
   have f147 := (f116.keep K143)
   obtain ⟨T148, h148, X148, e148, W148, st148⟩ := putF X139 hx hZ hown (host := "") (Or.inl (w_18 hw)) Via.refl rfl f146 f147 (Or.inl (w_19 hw)) (w_8 hw) (ty := (.array .byte)) (by decide) rfl rfl (g := (mkF m 103 (l340_8 o1 o2) [(.ref b140), (.ref o1)])) rfl rfl (hb hby d2_103)
   have N148 := Fr.snoc X148 N139 g_o1
   have Fw148 := f146.same W148
   have O148 := Old.wr O139 W148 g_o1
   obtain ⟨T149, X149, e149, st149⟩ := yag X148 hx hZ hown hby (w_18 hw) e148 Fw148 106 (l340_8 o1 o2) [] d2_106 d2_107 rfl
   have f150 := ((f119.keep K143 nin0).other W148 (Or.inr (slot_ne (Or.inl (w_21 hw)) (Or.inl (w_19 hw)) (by decide) (t := .int) (t' := (.array .byte)) (by decide) (by decide))))
   obtain ⟨T151, X151, e151, st151⟩ := yag X149 hx hZ hown hby (w_20 hw) e149 f150 111 (l340_8 o1 o2) [(.int 0), (.ref b140)] d2_111 d2_112 rfl
   obtain ⟨T152, X152, e152, st152⟩ := yag X151 hx hZ hown hby (w_18 hw) e151 Fw148 116 (l340_8 o1 o2) [(.int 0), (.ref b140)] d2_116 d2_117 rfl
   obtain ⟨T153, X153, e153, st153⟩ := yag X152 hx hZ hown hby (w_20 hw) e152 f150 124 (l340_8 o1 o2) [(.int 1), (.ref b140), (.int 0), (.ref b140)] d2_124 d2_125 rfl
   have f154 := ((f118.keep K143 nin0).other W148 (Or.inr (slot_ne (Or.inl (w_35 hw)) (Or.inl (w_19 hw)) (by decide) (t := .int) (t' := (.array .byte)) (by decide) (by decide))))
   obtain ⟨T155, X155, e155, st155⟩ := yag X153 hx hZ hown hby (w_34 hw) e153 f154 129 (l340_8 o1 o2) [(.int 3), (.ref b140), (.int 0), (.ref b140)] d2_129 d2_130 rfl
   obtain ⟨T156, X156, e156, st156⟩ := yag X155 hx hZ hown hby (w_20 hw) e155 f150 135 (l340_8 o1 o2) [(.int 2), (.int 3), (.ref b140), (.int 0), (.ref b140)] d2_135 d2_136 rfl
   have lt157 : o1 < T111.heap.size := (Nat.lt_of_lt_of_le P0.lt K115.1)
   have ne158 : o1 ≠ b140 := Nat.ne_of_lt (Nat.lt_of_lt_of_le lt157 sz_b140)
   have f159 := (f144.other W148 (Ne.symm ne158))
   obtain ⟨T160, h160, L160, X160, e160, N160, K160, VV160, st160⟩ := cpA X156 hx hZ hown (own_w hw 48 rfl) (w_47 hw) (w_45 hw) (w_46 hw) e156 (us := [(.int ((((((((p9 &&& (255 : Int32)) <<< ((8 : Int32) &&& 31)) ||| (p10 &&& (255 : Int32))).toUInt32 >>> ((8 : Int32) &&& 31).toUInt32).toInt32).toUInt32 >>> ((8 : Int32) &&& 31).toUInt32).toInt32).toInt8.toInt32)), (.int ((((((p9 &&& (255 : Int32)) <<< ((8 : Int32) &&& 31)) ||| (p10 &&& (255 : Int32))).toUInt32 >>> ((8 : Int32) &&& 31).toUInt32).toInt32).toInt8.toInt32)), (.int ((((p9 &&& (255 : Int32)) <<< ((8 : Int32) &&& 31)) ||| (p10 &&& (255 : Int32))).toInt8.toInt32)), (.int ((((((((p11 &&& (255 : Int32)) <<< ((8 : Int32) &&& 31)) ||| (p12 &&& (255 : Int32))).toUInt32 >>> ((8 : Int32) &&& 31).toUInt32).toInt32).toUInt32 >>> ((8 : Int32) &&& 31).toUInt32).toInt32).toInt8.toInt32)), (.int ((((((p11 &&& (255 : Int32)) <<< ((8 : Int32) &&& 31)) ||| (p12 &&& (255 : Int32))).toUInt32 >>> ((8 : Int32) &&& 31).toUInt32).toInt32).toInt8.toInt32)), (.int ((((p11 &&& (255 : Int32)) <<< ((8 : Int32) &&& 31)) ||| (p12 &&& (255 : Int32))).toInt8.toInt32))]) f159 f159 (Or.inl ⟨rfl, rfl⟩) (by decide) (by decide) (by decide) (by decide) (by decide) rfl (by first | decide | exact (by decide : 3 + 6 ≤ 9)) N148 g_b140 (g := (mkF m 140 (l340_8 o1 o2) [(.int 6), (.int 3), (.ref b140), (.int 0), (.ref b140)])) rfl (by rw [hml]; rfl) rfl (hb hby d2_140) (by decide) (W := 0) (by show 2 * 0 + _ ≤ _; exact Nat.le_of_eq rfl) (by decide)
   have V160 : Arv Z h160 b140 k141 .byte (9 : Int32) [(.int ((((((((p9 &&& (255 : Int32)) <<< ((8 : Int32) &&& 31)) ||| (p10 &&& (255 : Int32))).toUInt32 >>> ((8 : Int32) &&& 31).toUInt32).toInt32).toUInt32 >>> ((8 : Int32) &&& 31).toUInt32).toInt32).toInt8.toInt32)), (.int ((((((p9 &&& (255 : Int32)) <<< ((8 : Int32) &&& 31)) ||| (p10 &&& (255 : Int32))).toUInt32 >>> ((8 : Int32) &&& 31).toUInt32).toInt32).toInt8.toInt32)), (.int ((((p9 &&& (255 : Int32)) <<< ((8 : Int32) &&& 31)) ||| (p10 &&& (255 : Int32))).toInt8.toInt32)), (.int ((((((((p9 &&& (255 : Int32)) <<< ((8 : Int32) &&& 31)) ||| (p10 &&& (255 : Int32))).toUInt32 >>> ((8 : Int32) &&& 31).toUInt32).toInt32).toUInt32 >>> ((8 : Int32) &&& 31).toUInt32).toInt32).toInt8.toInt32)), (.int ((((((p9 &&& (255 : Int32)) <<< ((8 : Int32) &&& 31)) ||| (p10 &&& (255 : Int32))).toUInt32 >>> ((8 : Int32) &&& 31).toUInt32).toInt32).toInt8.toInt32)), (.int ((((p9 &&& (255 : Int32)) <<< ((8 : Int32) &&& 31)) ||| (p10 &&& (255 : Int32))).toInt8.toInt32)), (.int ((((((((p11 &&& (255 : Int32)) <<< ((8 : Int32) &&& 31)) ||| (p12 &&& (255 : Int32))).toUInt32 >>> ((8 : Int32) &&& 31).toUInt32).toInt32).toUInt32 >>> ((8 : Int32) &&& 31).toUInt32).toInt32).toInt8.toInt32)), (.int ((((((p11 &&& (255 : Int32)) <<< ((8 : Int32) &&& 31)) ||| (p12 &&& (255 : Int32))).toUInt32 >>> ((8 : Int32) &&& 31).toUInt32).toInt32).toInt8.toInt32)), (.int ((((p11 &&& (255 : Int32)) <<< ((8 : Int32) &&& 31)) ||| (p12 &&& (255 : Int32))).toInt8.toInt32))] (.int 0) := VV160
   have O160 := Old.keep O148 K160 (allS g_b140 all0)
   have f161 := (f154.keep K160 (ninS ne158 nin0))
   obtain ⟨T162, X162, e162, st162⟩ := yg X160 hx hZ hown hby (w_34 hw) e160 f161 145 (l340_8 o1 o2) [(.ref o1)] d2_145
   have f163 := ((f147.wr W148).keep K160)
   obtain ⟨T164, h164, X164, e164, W164, st164⟩ := putF X162 hx hZ hown (host := "") (Or.inl (w_34 hw)) Via.refl e162 f161 f163 (Or.inl (w_35 hw)) (w_8 hw) (ty := .int) (by decide) rfl rfl (g := (mkF m 151 (l340_8 o1 o2) [(.int 3), (.ref o1)])) rfl rfl (hb hby d2_151)
   have N164 := Fr.snoc X164 N160 g_o1
   have Fw164 := f161.same W164
   have O164 := Old.wr O160 W164 g_o1
   have f165 := (((((P5.keep K115).keep K143).wr W148).keep K160).wr W164)
   have f166 := (f163.wr W164)
   have ne167 : o2 ≠ o1 := ne_exa f165 f166 (by decide)
   have lt168 : o2 < T111.heap.size := (Nat.lt_of_lt_of_le P4.lt K115.1)
   have ne169 : o2 ≠ b140 := Nat.ne_of_lt (Nat.lt_of_lt_of_le lt168 sz_b140)
   have f170 := (((((P4.keep K115 (ninS ne167 nin0)).keep K143 nin0).other W148 ne167).keep K160 (ninS ne169 nin0)).other W164 ne167)
   obtain ⟨cl171, Ar171, qa171, Sa171, Na171, Ha171, Ga171⟩ := id (f170)
   have hin171 := inb_of (j := (2 : Int32)) Sa171 ⟨by decide, by decide⟩
   have hat171 : cl171.slots[((2 : Int32)).toNatClampNeg]? = some (.int p7) := Has.at Ha171 hin171 rfl
   have f172 := ((Fw148.keep K160 (ninS ne158 nin0)).other W164 (Or.inr (slot_ne (Or.inl (w_19 hw)) (Or.inl (w_35 hw)) (by decide) (t := (.array .byte)) (t' := .int) (by decide) (by decide))))
   have f173 := ((f150.keep K160 (ninS ne158 nin0)).other W164 (Or.inr (slot_ne (Or.inl (w_21 hw)) (Or.inl (w_35 hw)) (by decide) (t := .int) (t' := .int) (by decide) (by decide))))
   have f174 := (V160.other W164 (Ne.symm ne158))
   have f175 := (((f145.wr W148).keep K160).wr W164)
   obtain ⟨_, T176, L176, X176, hQ176, st176⟩ := own_pb X164 hx hZ hown (y := yn6) (w_49 hw) (w_50 hw) (own_selp (mvT hZ (w_25 hw)) rfl (Cond.privateMethod_at (mvP hZ (w_51 hw) (args := #[]))) (mvT hZ (w_50 hw)) (by decide)) (w_51 hw) (own_w hw 52 rfl) (w_9 hw) e164 f166 (argsL := [(.int 0), (.int p7)]) (rest := []) (rm27 l Z a0 hw [] o1 b140 k141 (((((((((p9 &&& (255 : Int32)) <<< ((8 : Int32) &&& 31)) ||| (p10 &&& (255 : Int32))).toUInt32 >>> ((8 : Int32) &&& 31).toUInt32).toInt32).toUInt32 >>> ((8 : Int32) &&& 31).toUInt32).toInt32).toInt8.toInt32)) (((((((p9 &&& (255 : Int32)) <<< ((8 : Int32) &&& 31)) ||| (p10 &&& (255 : Int32))).toUInt32 >>> ((8 : Int32) &&& 31).toUInt32).toInt32).toInt8.toInt32)) (((((p9 &&& (255 : Int32)) <<< ((8 : Int32) &&& 31)) ||| (p10 &&& (255 : Int32))).toInt8.toInt32)) (((((((((p9 &&& (255 : Int32)) <<< ((8 : Int32) &&& 31)) ||| (p10 &&& (255 : Int32))).toUInt32 >>> ((8 : Int32) &&& 31).toUInt32).toInt32).toUInt32 >>> ((8 : Int32) &&& 31).toUInt32).toInt32).toInt8.toInt32)) (((((((p9 &&& (255 : Int32)) <<< ((8 : Int32) &&& 31)) ||| (p10 &&& (255 : Int32))).toUInt32 >>> ((8 : Int32) &&& 31).toUInt32).toInt32).toInt8.toInt32)) (((((p9 &&& (255 : Int32)) <<< ((8 : Int32) &&& 31)) ||| (p10 &&& (255 : Int32))).toInt8.toInt32)) (((((((((p11 &&& (255 : Int32)) <<< ((8 : Int32) &&& 31)) ||| (p12 &&& (255 : Int32))).toUInt32 >>> ((8 : Int32) &&& 31).toUInt32).toInt32).toUInt32 >>> ((8 : Int32) &&& 31).toUInt32).toInt32).toInt8.toInt32)) (((((((p11 &&& (255 : Int32)) <<< ((8 : Int32) &&& 31)) ||| (p12 &&& (255 : Int32))).toUInt32 >>> ((8 : Int32) &&& 31).toUInt32).toInt32).toInt8.toInt32)) (((((p11 &&& (255 : Int32)) <<< ((8 : Int32) &&& 31)) ||| (p12 &&& (255 : Int32))).toInt8.toInt32)) p7 h164 n0 O164 g_o1 g_b140 f166 f172 f173 f174 f175) (g := (mkF m 175 (l340_2 o1 o2) [(.int p7), (.int 0), (.ref o1)])) rfl (by rw [hml]; rfl) rfl (hb hby d2_175) (lenOf pd4 rfl) (W := 0) (c1 := 3) (s1 := 18)
   obtain ⟨rfl, Nq177, K178, f179, f180⟩ := hQ176
   have N176 := Fr.app N164 Nq177
   obtain ⟨fs, hr, hrun, hended, hW, hsame⟩ := X176.leave (v := none) (fun _ => rfl)
   have KL : Keep h0 T176.heap [o1] := (((((((Keep.refl h0 [o1]).trans K115 (allS (Or.inl (List.mem_of_getElem? (i := 0) rfl)) all0)).trans K143 all0).wr W148 (Or.inl (List.mem_of_getElem? (i := 0) rfl))).trans K160 (allS (Or.inr (Nat.le_trans M111 sz_b140)) all0)).wr W164 (Or.inl (List.mem_of_getElem? (i := 0) rfl))).trans K178 (allS (Or.inr (Nat.le_trans M111 sz_b140)) all0))
   have f181 := (f166.keep K178)
   have f182 := (f172.keep K178 (ninS ne158 nin0))
   have f183 := (Fw164.keep K178 (ninS ne158 nin0))
   have f184 := (f173.keep K178 (ninS ne158 nin0))
   refine ⟨_, _, pre132 _ ?_, hrun, hended, _, _, rfl, ?_, ⟨_, rfl⟩, hW, hsame.mono (by decide) (by decide)⟩
   ·
    refine st131 _ ?_
    refine st139 _ ?_
    refine st148 _ ?_
    refine st149 _ ?_
    refine yin X149 hx hby d2_110 rfl ?_
    show Steps p.tables e below (T149.setTop (mkF m 111 (l340_8 o1 o2) [(.int 0), (.ref b140)])) _
    refine st151 _ ?_
    refine XS.imul X151.here hx rfl (hb hby d2_115) rfl ?_
    refine st152 _ ?_
    refine yin X152 hx hby d2_120 rfl ?_
    refine yil X152 hx hby d2_121 rfl ?_
    refine yad X152 hx hby d2_123 ?_
    refine st153 _ ?_
    refine XS.imul X153.here hx rfl (hb hby d2_128) rfl ?_
    refine st155 _ ?_
    refine yin X155 hx hby d2_133 rfl ?_
    refine ysu X155 hx hby d2_134 ?_
    refine st156 _ ?_
    refine XS.imul X156.here hx rfl (hb hby d2_139) rfl ?_
    refine st160 _ ?_
    refine yan X160 hx hby d2_143 rfl rfl ?_
    refine XS.dup X160.here hx rfl (hb hby d2_144) rfl rfl ?_
    refine st162 _ ?_
    refine yil X162 hx hby d2_148 rfl ?_
    refine yad X162 hx hby d2_150 ?_
    refine st164 _ ?_
    refine XS.iconst X164.here hx rfl (hb hby d2_154) ?_
    refine yis X164 hx hby d2_155 (l' := (l340_2 o1 o2)) rfl ?_
    refine yil X164 hx hby d2_157 rfl ?_
    refine yil X164 hx hby d2_159 rfl ?_
    refine yno X164 hx hby d2_161 (tlt (by decide : (0 : Int32) < (1 : Int32))).2.1 ?_
    refine yan X164 hx hby d2_164 rfl rfl ?_
    refine yin X164 hx hby d2_165 rfl ?_
    refine yil X164 hx hby d2_166 rfl ?_
    refine yad X164 hx hby d2_168 ?_
    refine yan X164 hx hby d2_169 rfl rfl ?_
    refine yin X164 hx hby d2_170 rfl ?_
    refine yil X164 hx hby d2_171 rfl ?_
    refine yad X164 hx hby d2_173 ?_
    refine X164.iaload hx (j := (2 : Int32)) (v := (.int p7)) (by rw [e164]; exact Ar171.1) (State.isArrayOf_alike hZ.alike Ar171.2.1) Ar171.2.2 hin171 hat171 (g := (mkF m 174 (l340_2 o1 o2) [(.int 2), (.ref o2), (.int 0), (.ref o1)])) rfl rfl (hb hby d2_174) _ ?_
    refine st176 _ ?_
    refine XS.iinc X176.here hx rfl (hb hby d2_178) rfl (l' := (l340_3 o1 o2)) rfl ?_
    show Steps p.tables e below (T176.setTop (mkF m 181 (l340_3 o1 o2) [])) _
    refine ygo X176 hx hby 181 157 rfl d2_181 (by decide) ?_
    refine yil X176 hx hby d2_157 rfl ?_
    refine yil X176 hx hby d2_159 rfl ?_
    refine yye X176 hx hby 161 184 rfl d2_161 (flt (by decide : ¬ ((1 : Int32) < (1 : Int32)))).2.1 (by decide) ?_
    show Steps p.tables e below (T176.setTop (mkF m 184 (l340_3 o1 o2) [])) _
    exact X176.returnOut hx hret (hb hby d2_184) hr
   ·
    show Q44 Z w1 kw1 o1 o2 o3 kc4 p5 p6 p7 kc8 p9 p10 p11 p12 h0 n0 _ T176.heap _
    exact (Or.inr ⟨b140, k141, rfl, N176, KL, (Nat.le_trans M111 sz_b140), f181, f182, f183, f184, f179, f180⟩)
def l341_0 (o1 o2 : Addr) : Array Slot := #[.val (.ref o1), .val (.int 0), .val (.ref o2), .val (.int 2), .val (.int 1), .val (.int 3), .val (.int 9), .val (.int 0)]
def l341_1 (o1 o2 : Addr) : Array Slot := #[.val (.ref o1), .val (.int 0), .val (.ref o2), .val (.int 2), .val (.int 1), .val (.int 3), .val (.int 9), .val (.int 1)]
def l341_2 (o1 o2 : Addr) : Array Slot := #[.val (.ref o1), .val (.int 0), .val (.ref o2), .val (.int 2), .val (.int 1), .val (.int 3), .val (.int 3), .unset]
def l341_3 (o1 o2 : Addr) : Array Slot := #[.val (.ref o1), .val (.int 0), .val (.ref o2), .val (.int 2), .val (.int 1), .val (.int 3), .val (.int 2), .unset]
def l341_4 (o1 o2 : Addr) : Array Slot := #[.val (.ref o1), .val (.int 0), .val (.ref o2), .val (.int 2), .val (.int 1), .val (.int 3), .val (.int 9), .unset]
theorem ef45 (m : MethodId) (x0 : Addr) (x1 : Int32) (x2 : Addr) (x3 x4 : Int32) : entryFrame m #[(.ref x0), (.int x1), (.ref x2), (.int x3), (.int x4)] 8 = mkF m 0 #[.val (.ref x0), .val (.int x1), .val (.ref x2), .val (.int x3), .val (.int x4), .unset, .unset, .unset] [] := by first | (simp [entryFrame, mkF, argsToLocals, Value.category]; done) | rfl
def Q45 (Z : State) (o1 o2 o3 : Addr) (kc4 : ClassId) (p5 p6 p7 : Int32) (kc8 : ClassId) (p9 p10 : Int32) (p11 p12 : Int32) (p13 p14 : Int32) (h0 : Heap) (n0 : Nat) (v : Option Value) (h : Heap) (L : List Loc) : Prop :=
  (∃ b63 : Addr, ∃ k64 : ClassId, v = none ∧ Fr n0 L ∧ Keep h0 h [o1] ∧ h0.size ≤ b63 ∧ (Exa Z h o1 "com/example/driftless/driftless/CodePoints") ∧ (Fld Z h o1 "com/example/driftless/driftless/CodePoints" "bytes" "[B" (.ref b63)) ∧ (Fld Z h o1 "com/example/driftless/driftless/CodePoints" "length" "I" (.int 3)) ∧ (Fld Z h o1 "com/example/driftless/driftless/CodePoints" "width" "I" (.int 3)) ∧ (Arv Z h b63 k64 .byte (9 : Int32) [(.int (((((p7.toUInt32 >>> ((8 : Int32) &&& 31).toUInt32).toInt32).toUInt32 >>> ((8 : Int32) &&& 31).toUInt32).toInt32).toInt8.toInt32)), (.int (((p7.toUInt32 >>> ((8 : Int32) &&& 31).toUInt32).toInt32).toInt8.toInt32)), (.int (p7.toInt8.toInt32)), (.int p9), (.int p10), (.int p11), (.int p12), (.int p13), (.int p14)] (.int 0)) ∧ (Exa Z h b63 "[B"))
set_option maxRecDepth 65536 in
set_option maxHeartbeats 40000000 in
theorem rm45 (l : Launch) (Z : State) (a0 : Array Value) (hw : HW a0 Z) (ws : List Jvm.Cond) (o1 o2 o3 : Addr) (kc4 : ClassId) (p5 p6 p7 : Int32) (kc8 : ClassId) (p9 p10 : Int32) (p11 p12 : Int32) (p13 p14 : Int32) (h0 : Heap) (n0 : Nat) (O0 : Old Z n0 h0) (g_o1 : n0 ≤ o1) (g_o2 : n0 ≤ o2) (g_o3 : n0 ≤ o3) (P0 : Exa Z h0 o1 "com/example/driftless/driftless/CodePoints") (P1 : Fld Z h0 o1 "com/example/driftless/driftless/CodePoints" "bytes" "[B" (.ref o3)) (P2 : Fld Z h0 o1 "com/example/driftless/driftless/CodePoints" "length" "I" (.int 2)) (P3 : Fld Z h0 o1 "com/example/driftless/driftless/CodePoints" "width" "I" (.int 3)) (P4 : Arv Z h0 o2 kc4 .int (3 : Int32) [(.int p5), (.int p6), (.int p7)] (.int 0)) (P5 : Exa Z h0 o2 "[I") (P6 : Arv Z h0 o3 kc8 .byte (6 : Int32) [(.int p9), (.int p10), (.int p11), (.int p12), (.int p13), (.int p14)] (.int 0)) :
    MF l yn8 prog_6_method_5_code 8 none ws ({ frames := 2, cells := 1, slots := 9, locals := 36 } : Room) #[(.ref o1), (.int 0), (.ref o2), (.int 2), (.int 1)] Z h0 (Q45 Z o1 o2 o3 kc4 p5 p6 p7 kc8 p9 p10 p11 p12 p13 p14 h0 n0) := by
 refine MetFree.of_bodySF (plainFor_of_name pn1) hisR ?_
 intro p e s m args below meth c s₁ Bd hml hP hK
 obtain ⟨rfl, hZ, hh⟩ := hP
 obtain ⟨hx, hby, hown, hret, hlk, X0, e0, N0⟩ := own_bd Bd hh n0
 have pre0 := own_ct s₁ (p := p) (e := e) (below := below) (ef45 m o1 (0 : Int32) o2 (2 : Int32) (1 : Int32))
 revert pre0
 generalize s₁.setTop (entryFrame m #[(.ref o1), (.int 0), (.ref o2), (.int 2), (.int 1)] 8) = E0
 intro pre0
 have J0 : (∃ (T : State) (locs : List Loc), Stand p l e ({ frames := 2, cells := 1, slots := 9, locals := 36 } : Room) s m #[(.ref o1), (.int 0), (.ref o2), (.int 2), (.int 1)] below meth c T locs 0 0 ∧ T.heap = h0 ∧ Fr n0 locs ∧ (Go p e below T (mkF m 38 (l341_2 o1 o2) []) E0)) := by
  obtain ⟨T1, X1, e1, st1⟩ := yag X0 hx hZ hown hby (w_20 hw) e0 P3 0 #[.val (.ref o1), .val (.int 0), .val (.ref o2), .val (.int 2), .val (.int 1), .unset, .unset, .unset] [] d2_0 d2_1 rfl
  obtain ⟨cl2, Ar2, qa2, Sa2, Na2, Ha2, Ga2⟩ := id (P4)
  have hin2 := inb_of (j := (2 : Int32)) Sa2 ⟨by decide, by decide⟩
  have hat2 : cl2.slots[((2 : Int32)).toNatClampNeg]? = some (.int p7) := Has.at Ha2 hin2 rfl
  obtain ⟨_, T3, L3, X3, hQ3, st3⟩ := own_cs X1 hx hZ hown (y := yn2) (own_w hw 27 rfl) (own_w hw 28 rfl) (own_w hw 29 rfl) (w_9 hw) e1 (argsL := [(.int p7)]) (rest := [(.int 3)]) (rm3 l Z a0 hw [] p7 h0 n0 O0 ) (g := (mkF m 24 (l341_3 o1 o2) [(.int p7), (.int 3)])) rfl (by rw [hml]; rfl) rfl (hb hby d2_24) (lenOf pd2 rfl) (W := 1) (c1 := 0) (s1 := 0)
  have pre4 : Go p e below T1 (mkF m 24 (l341_3 o1 o2) [(.int p7), (.int 3)]) E0 := fun t k => by
   refine pre0 _ ?_
   refine st1 _ ?_
   refine yis X1 hx hby d2_4 (l' := #[.val (.ref o1), .val (.int 0), .val (.ref o2), .val (.int 2), .val (.int 1), .val (.int 3), .unset, .unset]) rfl ?_
   refine yin X1 hx hby d2_6 rfl ?_
   refine yis X1 hx hby d2_7 (l' := (l341_3 o1 o2)) rfl ?_
   refine yil X1 hx hby d2_9 rfl ?_
   refine yin X1 hx hby d2_11 rfl ?_
   refine yil X1 hx hby d2_12 rfl ?_
   refine yad X1 hx hby d2_14 ?_
   refine yno X1 hx hby d2_15 (tlt (by decide : (2 : Int32) < (3 : Int32))).2.1 ?_
   refine yil X1 hx hby d2_18 rfl ?_
   refine yan X1 hx hby d2_20 rfl rfl ?_
   refine yil X1 hx hby d2_21 rfl ?_
   refine X1.iaload hx (j := (2 : Int32)) (v := (.int p7)) (by rw [e1]; exact Ar2.1) (State.isArrayOf_alike hZ.alike Ar2.2.1) Ar2.2.2 hin2 hat2 (g := (mkF m 23 (l341_3 o1 o2) [(.int 2), (.ref o2), (.int 3)])) rfl rfl (hb hby d2_23) _ ?_
   exact k
  rcases hQ3 with ⟨hc5, rfl, Nq6, e7⟩ | ⟨hc8, hc9, rfl, Nq10, e11⟩ | ⟨hc12, hc13, rfl, Nq14, e15⟩
  ·
   have N3 := Fr.app N0 Nq6
   obtain ⟨_, T16, L16, X16, hQ16, st16⟩ := own_cs X3 hx hZ hown (y := yn3) (w_30 hw) (w_31 hw) (w_33 hw) (w_32 hw) e7 (argsL := [(.int 3), (.int 1)]) (rest := []) (rm4 l Z a0 hw [] ((3 : Int32)) ((1 : Int32)) h0 n0 O0 ) (g := (mkF m 27 (l341_3 o1 o2) [(.int 1), (.int 3)])) rfl (by rw [hml]; rfl) rfl (hb hby d2_27) (lenOf pd0 rfl) (W := 0) (c1 := 0) (s1 := 0)
   have pre17 : Go p e below T3 (mkF m 27 (l341_3 o1 o2) [(.int 1), (.int 3)]) E0 := fun t k => by
    refine pre4 _ ?_
    refine st3 _ ?_
    exact k
   rcases hQ16 with ⟨hc18, rfl, Nq19, e20⟩ | ⟨hc21, rfl, Nq22, e23⟩
   ·
    exact absurd hc18 (by decide : ¬ ((3 : Int32) < (1 : Int32)))
   ·
    have N16 := Fr.app N3 Nq22
    have pre24 : Go p e below T16 (mkF m 38 (l341_2 o1 o2) []) E0 := fun t k => by
     refine pre17 _ ?_
     refine st16 _ ?_
     refine yis X16 hx hby d2_30 (l' := (l341_3 o1 o2)) rfl ?_
     refine XS.iinc X16.here hx rfl (hb hby d2_32) rfl (l' := (l341_2 o1 o2)) rfl ?_
     refine ygo X16 hx hby 35 9 rfl d2_35 (by decide) ?_
     refine yil X16 hx hby d2_9 rfl ?_
     refine yin X16 hx hby d2_11 rfl ?_
     refine yil X16 hx hby d2_12 rfl ?_
     refine yad X16 hx hby d2_14 ?_
     refine yye X16 hx hby 15 38 rfl d2_15 (flt (by decide : ¬ ((3 : Int32) < (3 : Int32)))).2.1 (by decide) ?_
     exact k
    exact ⟨_, _, X16.more (by decide) (by decide), e23, N16, pre24⟩
  ·
   have N3 := Fr.app N0 Nq10
   obtain ⟨_, T25, L25, X25, hQ25, st25⟩ := own_cs X3 hx hZ hown (y := yn3) (w_30 hw) (w_31 hw) (w_33 hw) (w_32 hw) e11 (argsL := [(.int 3), (.int 2)]) (rest := []) (rm4 l Z a0 hw [] ((3 : Int32)) ((2 : Int32)) h0 n0 O0 ) (g := (mkF m 27 (l341_3 o1 o2) [(.int 2), (.int 3)])) rfl (by rw [hml]; rfl) rfl (hb hby d2_27) (lenOf pd0 rfl) (W := 0) (c1 := 0) (s1 := 0)
   have pre26 : Go p e below T3 (mkF m 27 (l341_3 o1 o2) [(.int 2), (.int 3)]) E0 := fun t k => by
    refine pre4 _ ?_
    refine st3 _ ?_
    exact k
   rcases hQ25 with ⟨hc27, rfl, Nq28, e29⟩ | ⟨hc30, rfl, Nq31, e32⟩
   ·
    exact absurd hc27 (by decide : ¬ ((3 : Int32) < (2 : Int32)))
   ·
    have N25 := Fr.app N3 Nq31
    have pre33 : Go p e below T25 (mkF m 38 (l341_2 o1 o2) []) E0 := fun t k => by
     refine pre26 _ ?_
     refine st25 _ ?_
     refine yis X25 hx hby d2_30 (l' := (l341_3 o1 o2)) rfl ?_
     refine XS.iinc X25.here hx rfl (hb hby d2_32) rfl (l' := (l341_2 o1 o2)) rfl ?_
     refine ygo X25 hx hby 35 9 rfl d2_35 (by decide) ?_
     refine yil X25 hx hby d2_9 rfl ?_
     refine yin X25 hx hby d2_11 rfl ?_
     refine yil X25 hx hby d2_12 rfl ?_
     refine yad X25 hx hby d2_14 ?_
     refine yye X25 hx hby 15 38 rfl d2_15 (flt (by decide : ¬ ((3 : Int32) < (3 : Int32)))).2.1 (by decide) ?_
     exact k
    exact ⟨_, _, X25.more (by decide) (by decide), e32, N25, pre33⟩
  ·
   have N3 := Fr.app N0 Nq14
   obtain ⟨_, T34, L34, X34, hQ34, st34⟩ := own_cs X3 hx hZ hown (y := yn3) (w_30 hw) (w_31 hw) (w_33 hw) (w_32 hw) e15 (argsL := [(.int 3), (.int 3)]) (rest := []) (rm4 l Z a0 hw [] ((3 : Int32)) ((3 : Int32)) h0 n0 O0 ) (g := (mkF m 27 (l341_3 o1 o2) [(.int 3), (.int 3)])) rfl (by rw [hml]; rfl) rfl (hb hby d2_27) (lenOf pd0 rfl) (W := 0) (c1 := 0) (s1 := 0)
   have pre35 : Go p e below T3 (mkF m 27 (l341_3 o1 o2) [(.int 3), (.int 3)]) E0 := fun t k => by
    refine pre4 _ ?_
    refine st3 _ ?_
    exact k
   rcases hQ34 with ⟨hc36, rfl, Nq37, e38⟩ | ⟨hc39, rfl, Nq40, e41⟩
   ·
    exact absurd hc36 (by decide : ¬ ((3 : Int32) < (3 : Int32)))
   ·
    have N34 := Fr.app N3 Nq40
    have pre42 : Go p e below T34 (mkF m 38 (l341_2 o1 o2) []) E0 := fun t k => by
     refine pre35 _ ?_
     refine st34 _ ?_
     refine yis X34 hx hby d2_30 (l' := (l341_3 o1 o2)) rfl ?_
     refine XS.iinc X34.here hx rfl (hb hby d2_32) rfl (l' := (l341_2 o1 o2)) rfl ?_
     refine ygo X34 hx hby 35 9 rfl d2_35 (by decide) ?_
     refine yil X34 hx hby d2_9 rfl ?_
     refine yin X34 hx hby d2_11 rfl ?_
     refine yil X34 hx hby d2_12 rfl ?_
     refine yad X34 hx hby d2_14 ?_
     refine yye X34 hx hby 15 38 rfl d2_15 (flt (by decide : ¬ ((3 : Int32) < (3 : Int32)))).2.1 (by decide) ?_
     exact k
    exact ⟨_, _, X34.more (by decide) (by decide), e41, N34, pre42⟩
 obtain ⟨T43, lc43, X43, e43, N43, pre43⟩ := J0
 obtain ⟨T44, X44, e44, st44⟩ := yag X43 hx hZ hown hby (w_20 hw) e43 P3 40 (l341_2 o1 o2) [(.int 3)] d2_40 d2_41 rfl
 obtain ⟨T45, X45, e45, st45⟩ := yag X44 hx hZ hown hby (w_34 hw) e44 P2 53 (l341_2 o1 o2) [] d2_53 d2_54 rfl
 obtain ⟨T46, X46, e46, st46⟩ := yag X45 hx hZ hown hby (w_20 hw) e45 P3 60 (l341_2 o1 o2) [(.int 3)] d2_60 d2_61 rfl
 obtain ⟨T47, X47, e47, st47⟩ := yag X46 hx hZ hown hby (w_18 hw) e46 P1 69 (l341_4 o1 o2) [(.int 9)] d2_69 d2_70 rfl
 obtain ⟨cl48, Ar48, qa48, Sa48, Na48, Ha48, Ga48⟩ := id (P6)
 obtain ⟨T49, X49, e49, st49⟩ := yag X47 hx hZ hown hby (w_18 hw) e47 P1 78 (l341_4 o1 o2) [(.ref o1)] d2_78 d2_79 rfl
 obtain ⟨T50, X50, e50, st50⟩ := yag X49 hx hZ hown hby (w_18 hw) e49 P1 84 (l341_4 o1 o2) [(.int 9), (.ref o3), (.ref o1)] d2_84 d2_85 rfl
 obtain ⟨cl51, Ar51, qa51, Sa51, Na51, Ha51, Ga51⟩ := id (P6)
 obtain ⟨T52, X52, e52, st52⟩ := yag X50 hx hZ hown hby (w_18 hw) e50 P1 89 (l341_4 o1 o2) [(.int 6), (.int 9), (.ref o3), (.ref o1)] d2_89 d2_90 rfl
 obtain ⟨cl53, Ar53, qa53, Sa53, Na53, Ha53, Ga53⟩ := id (P6)
 obtain ⟨_, T54, L54, X54, hQ54, st54⟩ := own_cs X52 hx hZ hown (y := yn3) (w_30 hw) (w_31 hw) (w_33 hw) (w_32 hw) e52 (argsL := [(.int 9), (.int 9)]) (rest := [(.ref o3), (.ref o1)]) (rm4 l Z a0 hw [] ((9 : Int32)) ((9 : Int32)) h0 n0 O0 ) (g := (mkF m 97 (l341_4 o1 o2) [(.int 9), (.int 9), (.ref o3), (.ref o1)])) rfl (by rw [hml]; rfl) rfl (hb hby d2_97) (lenOf pd0 rfl) (W := 2) (c1 := 0) (s1 := 0)
 have pre55 : Go p e below T52 (mkF m 97 (l341_4 o1 o2) [(.int 9), (.int 9), (.ref o3), (.ref o1)]) E0 := fun t k => by
  refine pre43 _ ?_
  refine yil X43 hx hby d2_38 rfl ?_
  refine st44 _ ?_
  refine yye X44 hx hby 44 53 rfl d2_44 (flt (by decide : ¬ ((3 : Int32) < (3 : Int32)))).2.2.2 (by decide) ?_
  refine st45 _ ?_
  refine yil X45 hx hby d2_57 rfl ?_
  refine yad X45 hx hby d2_59 ?_
  refine st46 _ ?_
  refine XS.imul X46.here hx rfl (hb hby d2_64) rfl ?_
  refine yis X46 hx hby d2_65 (l' := (l341_4 o1 o2)) rfl ?_
  refine yil X46 hx hby d2_67 rfl ?_
  refine st47 _ ?_
  refine X47.arraylength hx (by rw [e47]; exact Ar48.1) (State.isArrayOf_alike hZ.alike Ar48.2.1) (g := (mkF m 73 (l341_4 o1 o2) [(.ref o3), (.int 9)])) rfl rfl (hb hby d2_73) _ ?_
  rw [len_of Sa48 Na48]
  refine yno X47 hx hby d2_74 (tlt (by decide : (6 : Int32) < (9 : Int32))).2.2.2 ?_
  refine yan X47 hx hby d2_77 rfl rfl ?_
  refine st49 _ ?_
  refine yil X49 hx hby d2_82 rfl ?_
  refine st50 _ ?_
  refine X50.arraylength hx (by rw [e50]; exact Ar51.1) (State.isArrayOf_alike hZ.alike Ar51.2.1) (g := (mkF m 88 (l341_4 o1 o2) [(.ref o3), (.int 9), (.ref o3), (.ref o1)])) rfl rfl (hb hby d2_88) _ ?_
  rw [len_of Sa51 Na51]
  refine st52 _ ?_
  refine X52.arraylength hx (by rw [e52]; exact Ar53.1) (State.isArrayOf_alike hZ.alike Ar53.2.1) (g := (mkF m 93 (l341_4 o1 o2) [(.ref o3), (.int 6), (.int 9), (.ref o3), (.ref o1)])) rfl rfl (hb hby d2_93) _ ?_
  rw [len_of Sa53 Na53]
  refine XS.iconst X52.here hx rfl (hb hby d2_94) ?_
  refine XS.idiv X52.here hx rfl (hb hby d2_95) rfl (by decide : ¬ ((2 : Int32) = (0 : Int32))) ?_
  refine yad X52 hx hby d2_96 ?_
  exact k
 rcases hQ54 with ⟨hc56, rfl, Nq57, e58⟩ | ⟨hc59, rfl, Nq60, e61⟩
 ·
  exact absurd hc56 (by decide : ¬ ((9 : Int32) < (9 : Int32)))
 ·
  have N54 := Fr.app N43 Nq60
  obtain ⟨_, T62, L62, X62, hQ62, st62⟩ := own_cs X54 hx hZ hown (y := yn5) (own_w hw 36 rfl) (w_37 hw) (own_w hw 39 rfl) (w_38 hw) e61 (argsL := [(.ref o3), (.int 9)]) (rest := [(.ref o1)]) (rm26 l Z a0 hw [] o3 kc8 p9 p10 p11 p12 p13 p14 h0 n0 O0 g_o3 P6) (g := (mkF m 100 (l341_4 o1 o2) [(.int 9), (.ref o3), (.ref o1)])) rfl (by rw [hml]; rfl) rfl (hb hby d2_100) (lenOf pd3 rfl) (W := 1) (c1 := 1) (s1 := 9)
  obtain ⟨b63, k64, rfl, Nq65, K66, sz_b63, f67, f68⟩ := hQ62
  have N62 := Fr.app N54 Nq65
  have g_b63 : n0 ≤ b63 := Nat.le_trans (own_oz O0) sz_b63
  have O62 := Old.keep O0 K66 all0
  have f69 := (P1.keep K66 nin0)
  have f70 := (P0.keep K66)
  obtain ⟨T71, h71, X71, e71, W71, st71⟩ := putF X62 hx hZ hown (host := "") (Or.inl (w_18 hw)) Via.refl rfl f69 f70 (Or.inl (w_19 hw)) (w_8 hw) (ty := (.array .byte)) (by decide) rfl rfl (g := (mkF m 103 (l341_4 o1 o2) [(.ref b63), (.ref o1)])) rfl rfl (hb hby d2_103)
  have N71 := Fr.snoc X71 N62 g_o1
  have Fw71 := f69.same W71
  have O71 := Old.wr O62 W71 g_o1
  obtain ⟨T72, X72, e72, st72⟩ := yag X71 hx hZ hown hby (w_18 hw) e71 Fw71 106 (l341_4 o1 o2) [] d2_106 d2_107 rfl
  have f73 := ((P3.keep K66 nin0).other W71 (Or.inr (slot_ne (Or.inl (w_21 hw)) (Or.inl (w_19 hw)) (by decide) (t := .int) (t' := (.array .byte)) (by decide) (by decide))))
  obtain ⟨T74, X74, e74, st74⟩ := yag X72 hx hZ hown hby (w_20 hw) e72 f73 111 (l341_4 o1 o2) [(.int 0), (.ref b63)] d2_111 d2_112 rfl
  obtain ⟨T75, X75, e75, st75⟩ := yag X74 hx hZ hown hby (w_18 hw) e74 Fw71 116 (l341_4 o1 o2) [(.int 0), (.ref b63)] d2_116 d2_117 rfl
  obtain ⟨T76, X76, e76, st76⟩ := yag X75 hx hZ hown hby (w_20 hw) e75 f73 124 (l341_4 o1 o2) [(.int 1), (.ref b63), (.int 0), (.ref b63)] d2_124 d2_125 rfl
  have f77 := ((P2.keep K66 nin0).other W71 (Or.inr (slot_ne (Or.inl (w_35 hw)) (Or.inl (w_19 hw)) (by decide) (t := .int) (t' := (.array .byte)) (by decide) (by decide))))
  obtain ⟨T78, X78, e78, st78⟩ := yag X76 hx hZ hown hby (w_34 hw) e76 f77 129 (l341_4 o1 o2) [(.int 3), (.ref b63), (.int 0), (.ref b63)] d2_129 d2_130 rfl
  obtain ⟨T79, X79, e79, st79⟩ := yag X78 hx hZ hown hby (w_20 hw) e78 f73 135 (l341_4 o1 o2) [(.int 2), (.int 3), (.ref b63), (.int 0), (.ref b63)] d2_135 d2_136 rfl
  have lt80 : o1 < h0.size := P0.lt
  have ne81 : o1 ≠ b63 := Nat.ne_of_lt (Nat.lt_of_lt_of_le lt80 sz_b63)
  have f82 := (f67.other W71 (Ne.symm ne81))
  obtain ⟨T83, h83, L83, X83, e83, N83, K83, VV83, st83⟩ := cpA X79 hx hZ hown (own_w hw 48 rfl) (w_47 hw) (w_45 hw) (w_46 hw) e79 (us := [(.int p9), (.int p10), (.int p11), (.int p12), (.int p13), (.int p14)]) f82 f82 (Or.inl ⟨rfl, rfl⟩) (by decide) (by decide) (by decide) (by decide) (by decide) rfl (by first | decide | exact (by decide : 3 + 6 ≤ 9)) N71 g_b63 (g := (mkF m 140 (l341_4 o1 o2) [(.int 6), (.int 3), (.ref b63), (.int 0), (.ref b63)])) rfl (by rw [hml]; rfl) rfl (hb hby d2_140) (by decide) (W := 0) (by show 2 * 0 + _ ≤ _; exact Nat.le_of_eq rfl) (by decide)
  have V83 : Arv Z h83 b63 k64 .byte (9 : Int32) [(.int p9), (.int p10), (.int p11), (.int p9), (.int p10), (.int p11), (.int p12), (.int p13), (.int p14)] (.int 0) := VV83
  have O83 := Old.keep O71 K83 (allS g_b63 all0)
  have f84 := (f77.keep K83 (ninS ne81 nin0))
  obtain ⟨T85, X85, e85, st85⟩ := yg X83 hx hZ hown hby (w_34 hw) e83 f84 145 (l341_4 o1 o2) [(.ref o1)] d2_145
  have f86 := ((f70.wr W71).keep K83)
  obtain ⟨T87, h87, X87, e87, W87, st87⟩ := putF X85 hx hZ hown (host := "") (Or.inl (w_34 hw)) Via.refl e85 f84 f86 (Or.inl (w_35 hw)) (w_8 hw) (ty := .int) (by decide) rfl rfl (g := (mkF m 151 (l341_4 o1 o2) [(.int 3), (.ref o1)])) rfl rfl (hb hby d2_151)
  have N87 := Fr.snoc X87 N83 g_o1
  have Fw87 := f84.same W87
  have O87 := Old.wr O83 W87 g_o1
  have f88 := ((((P5.keep K66).wr W71).keep K83).wr W87)
  have f89 := (f86.wr W87)
  have ne90 : o2 ≠ o1 := ne_exa f88 f89 (by decide)
  have lt91 : o2 < h0.size := P4.lt
  have ne92 : o2 ≠ b63 := Nat.ne_of_lt (Nat.lt_of_lt_of_le lt91 sz_b63)
  have f93 := ((((P4.keep K66 nin0).other W71 ne90).keep K83 (ninS ne92 nin0)).other W87 ne90)
  obtain ⟨cl94, Ar94, qa94, Sa94, Na94, Ha94, Ga94⟩ := id (f93)
  have hin94 := inb_of (j := (2 : Int32)) Sa94 ⟨by decide, by decide⟩
  have hat94 : cl94.slots[((2 : Int32)).toNatClampNeg]? = some (.int p7) := Has.at Ha94 hin94 rfl
  have f95 := ((Fw71.keep K83 (ninS ne81 nin0)).other W87 (Or.inr (slot_ne (Or.inl (w_19 hw)) (Or.inl (w_35 hw)) (by decide) (t := (.array .byte)) (t' := .int) (by decide) (by decide))))
  have f96 := ((f73.keep K83 (ninS ne81 nin0)).other W87 (Or.inr (slot_ne (Or.inl (w_21 hw)) (Or.inl (w_35 hw)) (by decide) (t := .int) (t' := .int) (by decide) (by decide))))
  have f97 := (V83.other W87 (Ne.symm ne81))
  have f98 := (((f68.wr W71).keep K83).wr W87)
  obtain ⟨_, T99, L99, X99, hQ99, st99⟩ := own_pb X87 hx hZ hown (y := yn6) (w_49 hw) (w_50 hw) (own_selp (mvT hZ (w_25 hw)) rfl (Cond.privateMethod_at (mvP hZ (w_51 hw) (args := #[]))) (mvT hZ (w_50 hw)) (by decide)) (w_51 hw) (own_w hw 52 rfl) (w_9 hw) e87 f89 (argsL := [(.int 0), (.int p7)]) (rest := []) (rm27 l Z a0 hw [] o1 b63 k64 p9 p10 p11 p9 p10 p11 p12 p13 p14 p7 h87 n0 O87 g_o1 g_b63 f89 f95 f96 f97 f98) (g := (mkF m 175 (l341_0 o1 o2) [(.int p7), (.int 0), (.ref o1)])) rfl (by rw [hml]; rfl) rfl (hb hby d2_175) (lenOf pd4 rfl) (W := 0) (c1 := 1) (s1 := 9)
  obtain ⟨rfl, Nq100, K101, f102, f103⟩ := hQ99
  have N99 := Fr.app N87 Nq100
  obtain ⟨fs, hr, hrun, hended, hW, hsame⟩ := X99.leave (v := none) (fun _ => rfl)
  have KL : Keep h0 T99.heap [o1] := ((((((Keep.refl h0 [o1]).trans K66 all0).wr W71 (Or.inl (List.mem_of_getElem? (i := 0) rfl))).trans K83 (allS (Or.inr (Nat.le_trans (Nat.le_refl _) sz_b63)) all0)).wr W87 (Or.inl (List.mem_of_getElem? (i := 0) rfl))).trans K101 (allS (Or.inr (Nat.le_trans (Nat.le_refl _) sz_b63)) all0))
  have f104 := (f89.keep K101)
  have f105 := (f95.keep K101 (ninS ne81 nin0))
  have f106 := (Fw87.keep K101 (ninS ne81 nin0))
  have f107 := (f96.keep K101 (ninS ne81 nin0))
  refine ⟨_, _, pre55 _ ?_, hrun, hended, _, _, rfl, ?_, ⟨_, rfl⟩, hW, hsame.mono (by decide) (by decide)⟩
  ·
   refine st54 _ ?_
   refine st62 _ ?_
   refine st71 _ ?_
   refine st72 _ ?_
   refine yin X72 hx hby d2_110 rfl ?_
   refine st74 _ ?_
   refine XS.imul X74.here hx rfl (hb hby d2_115) rfl ?_
   show Steps p.tables e below (T74.setTop (mkF m 116 (l341_4 o1 o2) [(.int 0), (.ref b63)])) _
   refine st75 _ ?_
   refine yin X75 hx hby d2_120 rfl ?_
   refine yil X75 hx hby d2_121 rfl ?_
   refine yad X75 hx hby d2_123 ?_
   refine st76 _ ?_
   refine XS.imul X76.here hx rfl (hb hby d2_128) rfl ?_
   refine st78 _ ?_
   refine yin X78 hx hby d2_133 rfl ?_
   refine ysu X78 hx hby d2_134 ?_
   refine st79 _ ?_
   refine XS.imul X79.here hx rfl (hb hby d2_139) rfl ?_
   refine st83 _ ?_
   refine yan X83 hx hby d2_143 rfl rfl ?_
   refine XS.dup X83.here hx rfl (hb hby d2_144) rfl rfl ?_
   refine st85 _ ?_
   refine yil X85 hx hby d2_148 rfl ?_
   refine yad X85 hx hby d2_150 ?_
   refine st87 _ ?_
   refine XS.iconst X87.here hx rfl (hb hby d2_154) ?_
   refine yis X87 hx hby d2_155 (l' := (l341_0 o1 o2)) rfl ?_
   refine yil X87 hx hby d2_157 rfl ?_
   refine yil X87 hx hby d2_159 rfl ?_
   refine yno X87 hx hby d2_161 (tlt (by decide : (0 : Int32) < (1 : Int32))).2.1 ?_
   refine yan X87 hx hby d2_164 rfl rfl ?_
   refine yin X87 hx hby d2_165 rfl ?_
   refine yil X87 hx hby d2_166 rfl ?_
   refine yad X87 hx hby d2_168 ?_
   refine yan X87 hx hby d2_169 rfl rfl ?_
   refine yin X87 hx hby d2_170 rfl ?_
   refine yil X87 hx hby d2_171 rfl ?_
   refine yad X87 hx hby d2_173 ?_
   refine X87.iaload hx (j := (2 : Int32)) (v := (.int p7)) (by rw [e87]; exact Ar94.1) (State.isArrayOf_alike hZ.alike Ar94.2.1) Ar94.2.2 hin94 hat94 (g := (mkF m 174 (l341_0 o1 o2) [(.int 2), (.ref o2), (.int 0), (.ref o1)])) rfl rfl (hb hby d2_174) _ ?_
   refine st99 _ ?_
   refine XS.iinc X99.here hx rfl (hb hby d2_178) rfl (l' := (l341_1 o1 o2)) rfl ?_
   refine ygo X99 hx hby 181 157 rfl d2_181 (by decide) ?_
   refine yil X99 hx hby d2_157 rfl ?_
   refine yil X99 hx hby d2_159 rfl ?_
   show Steps p.tables e below (T99.setTop (mkF m 161 (l341_1 o1 o2) [(.int 1), (.int 1)])) _
   refine yye X99 hx hby 161 184 rfl d2_161 (flt (by decide : ¬ ((1 : Int32) < (1 : Int32)))).2.1 (by decide) ?_
   show Steps p.tables e below (T99.setTop (mkF m 184 (l341_1 o1 o2) [])) _
   exact X99.returnOut hx hret (hb hby d2_184) hr
  ·
   show Q45 Z o1 o2 o3 kc4 p5 p6 p7 kc8 p9 p10 p11 p12 p13 p14 h0 n0 _ T99.heap _
   exact ⟨b63, k64, rfl, N99, KL, (Nat.le_trans (Nat.le_refl _) sz_b63), f104, f105, f106, f107, f102, f103⟩
def l342_0 (o1 : Addr) (p2 : Int32) : Array Slot := #[.val (.ref o1), .val (.int 1), .val (.int ((p2.toUInt32 >>> ((8 : Int32) &&& 31).toUInt32).toInt32)), .val (.int 1), .val (.int (-1))]
def l342_1 (o1 : Addr) (p2 : Int32) : Array Slot := #[.val (.ref o1), .val (.int 1), .val (.int p2), .val (.int 1), .val (.int 0)]
theorem ef46 (m : MethodId) (x0 : Addr) (x1 x2 : Int32) : entryFrame m #[(.ref x0), (.int x1), (.int x2)] 5 = mkF m 0 #[.val (.ref x0), .val (.int x1), .val (.int x2), .unset, .unset] [] := by first | (simp [entryFrame, mkF, argsToLocals, Value.category]; done) | rfl
def Q46 (Z : State) (o1 o3 : Addr) (kc4 : ClassId) (p5 p6 : Int32) (p7 p2 : Int32) (h0 : Heap) (n0 : Nat) (v : Option Value) (h : Heap) (L : List Loc) : Prop :=
  (v = none ∧ Fr n0 L ∧ Keep h0 h [o3] ∧ (Arv Z h o3 kc4 .byte (3 : Int32) [(.int p5), (.int (p2.toInt8.toInt32)), (.int p7)] (.int 0)) ∧ (Exa Z h o3 "[B"))
set_option maxRecDepth 65536 in
set_option maxHeartbeats 40000000 in
theorem rm46 (l : Launch) (Z : State) (a0 : Array Value) (hw : HW a0 Z) (ws : List Jvm.Cond) (o1 o3 : Addr) (kc4 : ClassId) (p5 p6 : Int32) (p7 p2 : Int32) (h0 : Heap) (n0 : Nat) (O0 : Old Z n0 h0) (g_o1 : n0 ≤ o1) (g_o3 : n0 ≤ o3) (P1 : Fld Z h0 o1 "com/example/driftless/driftless/CodePoints" "bytes" "[B" (.ref o3)) (P3 : Fld Z h0 o1 "com/example/driftless/driftless/CodePoints" "width" "I" (.int 1)) (P4 : Arv Z h0 o3 kc4 .byte (3 : Int32) [(.int p5), (.int p6), (.int p7)] (.int 0)) (P5 : Exa Z h0 o3 "[B") :
    MF l yn6 prog_6_method_9_code 5 none ws ({ frames := 0, cells := 0, slots := 0, locals := 0 } : Room) #[(.ref o1), (.int 1), (.int p2)] Z h0 (Q46 Z o1 o3 kc4 p5 p6 p7 p2 h0 n0) := by
 refine MetFree.of_bodySF (plainFor_of_name pn1) hisR ?_
 intro p e s m args below meth c s₁ Bd hml hP hK
 obtain ⟨rfl, hZ, hh⟩ := hP
 obtain ⟨hx, hby, hown, hret, hlk, X0, e0, N0⟩ := own_bd Bd hh n0
 have pre0 := own_ct s₁ (p := p) (e := e) (below := below) (ef46 m o1 (1 : Int32) p2)
 obtain ⟨T1, X1, e1, st1⟩ := yag X0 hx hZ hown hby (w_20 hw) e0 P3 1 #[.val (.ref o1), .val (.int 1), .val (.int p2), .unset, .unset] [(.int 1)] d7_1 d7_2 rfl
 obtain ⟨T2, X2, e2, st2⟩ := yag X1 hx hZ hown hby (w_20 hw) e1 P3 7 #[.val (.ref o1), .val (.int 1), .val (.int p2), .val (.int 1), .unset] [] d7_7 d7_8 rfl
 obtain ⟨T3, X3, e3, st3⟩ := yag X2 hx hZ hown hby (w_18 hw) e2 P1 20 (l342_1 o1 p2) [] d7_20 d7_21 rfl
 obtain ⟨cl4, Ar4, qa4, Sa4, Na4, Ha4, Ga4⟩ := id (P4)
 have hin4 := inb_of (j := (1 : Int32)) Sa4 ⟨by decide, by decide⟩
 obtain ⟨T5, h5, X5, e5, W5, st5⟩ := stB X3 hx hZ e3 Ar4 (j := (1 : Int32)) hin4 (g := (mkF m 30 (l342_1 o1 p2) [(.int (p2.toInt8.toInt32)), (.int 1), (.ref o3)])) rfl rfl (hb hby d7_30)
 rw [own_nb8] at W5
 have V5 : Arv Z h5 o3 kc4 .byte (3 : Int32) [(.int p5), (.int (p2.toInt8.toInt32)), (.int p7)] (.int 0) := Arv.set Ar4 qa4 Sa4 Na4 Ha4 Ga4 (fits_nar_byte _) W5 1 rfl (Nat.le_of_ble_eq_true rfl)
 have N5 := Fr.snoc X5 N0 g_o3
 obtain ⟨fs, hr, hrun, hended, hW, hsame⟩ := X5.leave (v := none) (fun _ => rfl)
 have KL : Keep h0 h5 [o3] := ((Keep.refl h0 [o3]).wr W5 (Or.inl (List.mem_of_getElem? (i := 0) rfl)))
 have f6 := (P5.wr W5)
 refine ⟨_, _, pre0 _ ?_, hrun, hended, _, _, rfl, ?_, ⟨_, rfl⟩, hW, hsame.mono (by decide) (by decide)⟩
 ·
  refine yin X0 hx hby d7_0 rfl ?_
  refine st1 _ ?_
  refine XS.imul X1.here hx rfl (hb hby d7_5) rfl ?_
  refine yit X1 hx hby d7_6 (l' := #[.val (.ref o1), .val (.int 1), .val (.int p2), .val (.int 1), .unset]) rfl ?_
  refine st2 _ ?_
  refine XS.iconst X2.here hx rfl (hb hby d7_11) ?_
  refine ysu X2 hx hby d7_12 ?_
  refine yis X2 hx hby d7_13 (l' := (l342_1 o1 p2)) rfl ?_
  refine yil X2 hx hby d7_15 rfl ?_
  refine XS.ifNo X2.here hx rfl (hb hby d7_17) rfl ((if0 _ _).trans (flt (by decide : ¬ ((0 : Int32) < (0 : Int32)))).1) ?_
  refine st3 _ ?_
  refine yin X3 hx hby d7_24 rfl ?_
  refine yil X3 hx hby d7_25 rfl ?_
  refine yad X3 hx hby d7_27 ?_
  refine yin X3 hx hby d7_28 rfl ?_
  refine XS.i2b X3.here hx rfl (hb hby d7_29) rfl ?_
  refine st5 _ ?_
  refine yin X5 hx hby d7_31 rfl ?_
  refine XS.bipush X5.here hx rfl (hb hby d7_32) ?_
  refine XS.iushr X5.here hx rfl (hb hby d7_34) rfl ?_
  refine yit X5 hx hby d7_35 (l' := #[.val (.ref o1), .val (.int 1), .val (.int ((p2.toUInt32 >>> ((8 : Int32) &&& 31).toUInt32).toInt32)), .val (.int 1), .val (.int 0)]) rfl ?_
  refine XS.iinc X5.here hx rfl (hb hby d7_36) rfl (l' := (l342_0 o1 p2)) rfl ?_
  refine ygo X5 hx hby 39 15 rfl d7_39 (by decide) ?_
  refine yil X5 hx hby d7_15 rfl ?_
  refine XS.ifYes X5.here hx rfl (pc0 := 17) (pc' := 42) rfl (hb hby d7_17) rfl ((if0 _ _).trans (tlt (by decide : (-1 : Int32) < (0 : Int32))).1) (by decide) (by decide) ?_
  show Steps p.tables e below (T5.setTop (mkF m 42 (l342_0 o1 p2) [])) _
  exact X5.returnOut hx hret (hb hby d7_42) hr
 ·
  show Q46 Z o1 o3 kc4 p5 p6 p7 p2 h0 n0 _ T5.heap _
  rw [e5]
  exact ⟨rfl, N5, KL, V5, f6⟩
def l343_0 (o1 : Addr) (p2 : Int32) : Array Slot := #[.val (.ref o1), .val (.int 1), .val (.int ((((p2.toUInt32 >>> ((8 : Int32) &&& 31).toUInt32).toInt32).toUInt32 >>> ((8 : Int32) &&& 31).toUInt32).toInt32)), .val (.int 2), .val (.int (-1))]
def l343_1 (o1 : Addr) (p2 : Int32) : Array Slot := #[.val (.ref o1), .val (.int 1), .val (.int ((((p2.toUInt32 >>> ((8 : Int32) &&& 31).toUInt32).toInt32).toUInt32 >>> ((8 : Int32) &&& 31).toUInt32).toInt32)), .val (.int 2), .val (.int 0)]
def l343_2 (o1 : Addr) (p2 : Int32) : Array Slot := #[.val (.ref o1), .val (.int 1), .val (.int ((p2.toUInt32 >>> ((8 : Int32) &&& 31).toUInt32).toInt32)), .val (.int 2), .val (.int 0)]
def l343_3 (o1 : Addr) (p2 : Int32) : Array Slot := #[.val (.ref o1), .val (.int 1), .val (.int p2), .val (.int 2), .val (.int 1)]
theorem ef47 (m : MethodId) (x0 : Addr) (x1 x2 : Int32) : entryFrame m #[(.ref x0), (.int x1), (.int x2)] 5 = mkF m 0 #[.val (.ref x0), .val (.int x1), .val (.int x2), .unset, .unset] [] := by first | (simp [entryFrame, mkF, argsToLocals, Value.category]; done) | rfl
def Q47 (Z : State) (o1 o3 : Addr) (kc4 : ClassId) (p5 p6 : Int32) (p7 p8 : Int32) (p9 p10 p2 : Int32) (h0 : Heap) (n0 : Nat) (v : Option Value) (h : Heap) (L : List Loc) : Prop :=
  (v = none ∧ Fr n0 L ∧ Keep h0 h [o3] ∧ (Arv Z h o3 kc4 .byte (6 : Int32) [(.int p5), (.int p6), (.int (((p2.toUInt32 >>> ((8 : Int32) &&& 31).toUInt32).toInt32).toInt8.toInt32)), (.int (p2.toInt8.toInt32)), (.int p9), (.int p10)] (.int 0)) ∧ (Exa Z h o3 "[B"))
set_option maxRecDepth 65536 in
set_option maxHeartbeats 40000000 in
theorem rm47 (l : Launch) (Z : State) (a0 : Array Value) (hw : HW a0 Z) (ws : List Jvm.Cond) (o1 o3 : Addr) (kc4 : ClassId) (p5 p6 : Int32) (p7 p8 : Int32) (p9 p10 p2 : Int32) (h0 : Heap) (n0 : Nat) (O0 : Old Z n0 h0) (g_o1 : n0 ≤ o1) (g_o3 : n0 ≤ o3) (P0 : Exa Z h0 o1 "com/example/driftless/driftless/CodePoints") (P1 : Fld Z h0 o1 "com/example/driftless/driftless/CodePoints" "bytes" "[B" (.ref o3)) (P3 : Fld Z h0 o1 "com/example/driftless/driftless/CodePoints" "width" "I" (.int 2)) (P4 : Arv Z h0 o3 kc4 .byte (6 : Int32) [(.int p5), (.int p6), (.int p7), (.int p8), (.int p9), (.int p10)] (.int 0)) (P5 : Exa Z h0 o3 "[B") :
    MF l yn6 prog_6_method_9_code 5 none ws ({ frames := 0, cells := 0, slots := 0, locals := 0 } : Room) #[(.ref o1), (.int 1), (.int p2)] Z h0 (Q47 Z o1 o3 kc4 p5 p6 p7 p8 p9 p10 p2 h0 n0) := by
 refine MetFree.of_bodySF (plainFor_of_name pn1) hisR ?_
 intro p e s m args below meth c s₁ Bd hml hP hK
 obtain ⟨rfl, hZ, hh⟩ := hP
 obtain ⟨hx, hby, hown, hret, hlk, X0, e0, N0⟩ := own_bd Bd hh n0
 have pre0 := own_ct s₁ (p := p) (e := e) (below := below) (ef47 m o1 (1 : Int32) p2)
 obtain ⟨T1, X1, e1, st1⟩ := yag X0 hx hZ hown hby (w_20 hw) e0 P3 1 #[.val (.ref o1), .val (.int 1), .val (.int p2), .unset, .unset] [(.int 1)] d7_1 d7_2 rfl
 obtain ⟨T2, X2, e2, st2⟩ := yag X1 hx hZ hown hby (w_20 hw) e1 P3 7 #[.val (.ref o1), .val (.int 1), .val (.int p2), .val (.int 2), .unset] [] d7_7 d7_8 rfl
 obtain ⟨T3, X3, e3, st3⟩ := yag X2 hx hZ hown hby (w_18 hw) e2 P1 20 (l343_3 o1 p2) [] d7_20 d7_21 rfl
 obtain ⟨cl4, Ar4, qa4, Sa4, Na4, Ha4, Ga4⟩ := id (P4)
 have hin4 := inb_of (j := (3 : Int32)) Sa4 ⟨by decide, by decide⟩
 obtain ⟨T5, h5, X5, e5, W5, st5⟩ := stB X3 hx hZ e3 Ar4 (j := (3 : Int32)) hin4 (g := (mkF m 30 (l343_3 o1 p2) [(.int (p2.toInt8.toInt32)), (.int 3), (.ref o3)])) rfl rfl (hb hby d7_30)
 rw [own_nb8] at W5
 have V5 : Arv Z h5 o3 kc4 .byte (6 : Int32) [(.int p5), (.int p6), (.int p7), (.int (p2.toInt8.toInt32)), (.int p9), (.int p10)] (.int 0) := Arv.set Ar4 qa4 Sa4 Na4 Ha4 Ga4 (fits_nar_byte _) W5 3 rfl (Nat.le_of_ble_eq_true rfl)
 have N5 := Fr.snoc X5 N0 g_o3
 have f6 := (P0.wr W5)
 have f7 := (P5.wr W5)
 have ne8 : o1 ≠ o3 := ne_exa f6 f7 (by decide)
 have f9 := (P1.other W5 (Or.inl ne8))
 obtain ⟨T10, X10, e10, st10⟩ := yag X5 hx hZ hown hby (w_18 hw) e5 f9 20 (l343_2 o1 p2) [] d7_20 d7_21 rfl
 obtain ⟨cl11, Ar11, qa11, Sa11, Na11, Ha11, Ga11⟩ := id (V5)
 have hin11 := inb_of (j := (2 : Int32)) Sa11 ⟨by decide, by decide⟩
 obtain ⟨T12, h12, X12, e12, W12, st12⟩ := stB X10 hx hZ e10 Ar11 (j := (2 : Int32)) hin11 (g := (mkF m 30 (l343_2 o1 p2) [(.int (((p2.toUInt32 >>> ((8 : Int32) &&& 31).toUInt32).toInt32).toInt8.toInt32)), (.int 2), (.ref o3)])) rfl rfl (hb hby d7_30)
 rw [own_nb8] at W12
 have V12 : Arv Z h12 o3 kc4 .byte (6 : Int32) [(.int p5), (.int p6), (.int (((p2.toUInt32 >>> ((8 : Int32) &&& 31).toUInt32).toInt32).toInt8.toInt32)), (.int (p2.toInt8.toInt32)), (.int p9), (.int p10)] (.int 0) := Arv.set Ar11 qa11 Sa11 Na11 Ha11 Ga11 (fits_nar_byte _) W12 2 rfl (Nat.le_of_ble_eq_true rfl)
 have N12 := Fr.snoc X12 N5 g_o3
 obtain ⟨fs, hr, hrun, hended, hW, hsame⟩ := X12.leave (v := none) (fun _ => rfl)
 have KL : Keep h0 h12 [o3] := (((Keep.refl h0 [o3]).wr W5 (Or.inl (List.mem_of_getElem? (i := 0) rfl))).wr W12 (Or.inl (List.mem_of_getElem? (i := 0) rfl)))
 have f13 := (f7.wr W12)
 refine ⟨_, _, pre0 _ ?_, hrun, hended, _, _, rfl, ?_, ⟨_, rfl⟩, hW, hsame.mono (by decide) (by decide)⟩
 ·
  refine yin X0 hx hby d7_0 rfl ?_
  refine st1 _ ?_
  refine XS.imul X1.here hx rfl (hb hby d7_5) rfl ?_
  refine yit X1 hx hby d7_6 (l' := #[.val (.ref o1), .val (.int 1), .val (.int p2), .val (.int 2), .unset]) rfl ?_
  refine st2 _ ?_
  refine XS.iconst X2.here hx rfl (hb hby d7_11) ?_
  refine ysu X2 hx hby d7_12 ?_
  refine yis X2 hx hby d7_13 (l' := (l343_3 o1 p2)) rfl ?_
  refine yil X2 hx hby d7_15 rfl ?_
  refine XS.ifNo X2.here hx rfl (hb hby d7_17) rfl ((if0 _ _).trans (flt (by decide : ¬ ((1 : Int32) < (0 : Int32)))).1) ?_
  refine st3 _ ?_
  refine yin X3 hx hby d7_24 rfl ?_
  refine yil X3 hx hby d7_25 rfl ?_
  refine yad X3 hx hby d7_27 ?_
  refine yin X3 hx hby d7_28 rfl ?_
  refine XS.i2b X3.here hx rfl (hb hby d7_29) rfl ?_
  refine st5 _ ?_
  refine yin X5 hx hby d7_31 rfl ?_
  refine XS.bipush X5.here hx rfl (hb hby d7_32) ?_
  refine XS.iushr X5.here hx rfl (hb hby d7_34) rfl ?_
  refine yit X5 hx hby d7_35 (l' := #[.val (.ref o1), .val (.int 1), .val (.int ((p2.toUInt32 >>> ((8 : Int32) &&& 31).toUInt32).toInt32)), .val (.int 2), .val (.int 1)]) rfl ?_
  refine XS.iinc X5.here hx rfl (hb hby d7_36) rfl (l' := (l343_2 o1 p2)) rfl ?_
  refine ygo X5 hx hby 39 15 rfl d7_39 (by decide) ?_
  refine yil X5 hx hby d7_15 rfl ?_
  refine XS.ifNo X5.here hx rfl (hb hby d7_17) rfl ((if0 _ _).trans (flt (by decide : ¬ ((0 : Int32) < (0 : Int32)))).1) ?_
  refine st10 _ ?_
  refine yin X10 hx hby d7_24 rfl ?_
  refine yil X10 hx hby d7_25 rfl ?_
  refine yad X10 hx hby d7_27 ?_
  refine yin X10 hx hby d7_28 rfl ?_
  refine XS.i2b X10.here hx rfl (hb hby d7_29) rfl ?_
  refine st12 _ ?_
  refine yin X12 hx hby d7_31 rfl ?_
  refine XS.bipush X12.here hx rfl (hb hby d7_32) ?_
  refine XS.iushr X12.here hx rfl (hb hby d7_34) rfl ?_
  refine yit X12 hx hby d7_35 (l' := (l343_1 o1 p2)) rfl ?_
  show Steps p.tables e below (T12.setTop (mkF m 36 (l343_1 o1 p2) [])) _
  refine XS.iinc X12.here hx rfl (hb hby d7_36) rfl (l' := (l343_0 o1 p2)) rfl ?_
  refine ygo X12 hx hby 39 15 rfl d7_39 (by decide) ?_
  refine yil X12 hx hby d7_15 rfl ?_
  refine XS.ifYes X12.here hx rfl (pc0 := 17) (pc' := 42) rfl (hb hby d7_17) rfl ((if0 _ _).trans (tlt (by decide : (-1 : Int32) < (0 : Int32))).1) (by decide) (by decide) ?_
  show Steps p.tables e below (T12.setTop (mkF m 42 (l343_0 o1 p2) [])) _
  exact X12.returnOut hx hret (hb hby d7_42) hr
 ·
  show Q47 Z o1 o3 kc4 p5 p6 p7 p8 p9 p10 p2 h0 n0 _ T12.heap _
  rw [e12]
  exact ⟨rfl, N12, KL, V12, f13⟩
def l344_0 (o1 : Addr) (p2 : Int32) : Array Slot := #[.val (.ref o1), .val (.int 1), .val (.int ((((((p2.toUInt32 >>> ((8 : Int32) &&& 31).toUInt32).toInt32).toUInt32 >>> ((8 : Int32) &&& 31).toUInt32).toInt32).toUInt32 >>> ((8 : Int32) &&& 31).toUInt32).toInt32)), .val (.int 3), .val (.int (-1))]
def l344_1 (o1 : Addr) (p2 : Int32) : Array Slot := #[.val (.ref o1), .val (.int 1), .val (.int ((((p2.toUInt32 >>> ((8 : Int32) &&& 31).toUInt32).toInt32).toUInt32 >>> ((8 : Int32) &&& 31).toUInt32).toInt32)), .val (.int 3), .val (.int 0)]
def l344_2 (o1 : Addr) (p2 : Int32) : Array Slot := #[.val (.ref o1), .val (.int 1), .val (.int ((((p2.toUInt32 >>> ((8 : Int32) &&& 31).toUInt32).toInt32).toUInt32 >>> ((8 : Int32) &&& 31).toUInt32).toInt32)), .val (.int 3), .val (.int 1)]
def l344_3 (o1 : Addr) (p2 : Int32) : Array Slot := #[.val (.ref o1), .val (.int 1), .val (.int ((p2.toUInt32 >>> ((8 : Int32) &&& 31).toUInt32).toInt32)), .val (.int 3), .val (.int 1)]
def l344_4 (o1 : Addr) (p2 : Int32) : Array Slot := #[.val (.ref o1), .val (.int 1), .val (.int p2), .val (.int 3), .val (.int 2)]
theorem ef48 (m : MethodId) (x0 : Addr) (x1 x2 : Int32) : entryFrame m #[(.ref x0), (.int x1), (.int x2)] 5 = mkF m 0 #[.val (.ref x0), .val (.int x1), .val (.int x2), .unset, .unset] [] := by first | (simp [entryFrame, mkF, argsToLocals, Value.category]; done) | rfl
def Q48 (Z : State) (o1 o3 : Addr) (kc4 : ClassId) (p5 p6 : Int32) (p7 p8 : Int32) (p9 p10 : Int32) (p11 p12 : Int32) (p13 p2 : Int32) (h0 : Heap) (n0 : Nat) (v : Option Value) (h : Heap) (L : List Loc) : Prop :=
  (v = none ∧ Fr n0 L ∧ Keep h0 h [o3] ∧ (Arv Z h o3 kc4 .byte (9 : Int32) [(.int p5), (.int p6), (.int p7), (.int (((((p2.toUInt32 >>> ((8 : Int32) &&& 31).toUInt32).toInt32).toUInt32 >>> ((8 : Int32) &&& 31).toUInt32).toInt32).toInt8.toInt32)), (.int (((p2.toUInt32 >>> ((8 : Int32) &&& 31).toUInt32).toInt32).toInt8.toInt32)), (.int (p2.toInt8.toInt32)), (.int p11), (.int p12), (.int p13)] (.int 0)) ∧ (Exa Z h o3 "[B"))
set_option maxRecDepth 65536 in
set_option maxHeartbeats 40000000 in
theorem rm48 (l : Launch) (Z : State) (a0 : Array Value) (hw : HW a0 Z) (ws : List Jvm.Cond) (o1 o3 : Addr) (kc4 : ClassId) (p5 p6 : Int32) (p7 p8 : Int32) (p9 p10 : Int32) (p11 p12 : Int32) (p13 p2 : Int32) (h0 : Heap) (n0 : Nat) (O0 : Old Z n0 h0) (g_o1 : n0 ≤ o1) (g_o3 : n0 ≤ o3) (P0 : Exa Z h0 o1 "com/example/driftless/driftless/CodePoints") (P1 : Fld Z h0 o1 "com/example/driftless/driftless/CodePoints" "bytes" "[B" (.ref o3)) (P3 : Fld Z h0 o1 "com/example/driftless/driftless/CodePoints" "width" "I" (.int 3)) (P4 : Arv Z h0 o3 kc4 .byte (9 : Int32) [(.int p5), (.int p6), (.int p7), (.int p8), (.int p9), (.int p10), (.int p11), (.int p12), (.int p13)] (.int 0)) (P5 : Exa Z h0 o3 "[B") :
    MF l yn6 prog_6_method_9_code 5 none ws ({ frames := 0, cells := 0, slots := 0, locals := 0 } : Room) #[(.ref o1), (.int 1), (.int p2)] Z h0 (Q48 Z o1 o3 kc4 p5 p6 p7 p8 p9 p10 p11 p12 p13 p2 h0 n0) := by
 refine MetFree.of_bodySF (plainFor_of_name pn1) hisR ?_
 intro p e s m args below meth c s₁ Bd hml hP hK
 obtain ⟨rfl, hZ, hh⟩ := hP
 obtain ⟨hx, hby, hown, hret, hlk, X0, e0, N0⟩ := own_bd Bd hh n0
 have pre0 := own_ct s₁ (p := p) (e := e) (below := below) (ef48 m o1 (1 : Int32) p2)
 obtain ⟨T1, X1, e1, st1⟩ := yag X0 hx hZ hown hby (w_20 hw) e0 P3 1 #[.val (.ref o1), .val (.int 1), .val (.int p2), .unset, .unset] [(.int 1)] d7_1 d7_2 rfl
 obtain ⟨T2, X2, e2, st2⟩ := yag X1 hx hZ hown hby (w_20 hw) e1 P3 7 #[.val (.ref o1), .val (.int 1), .val (.int p2), .val (.int 3), .unset] [] d7_7 d7_8 rfl
 obtain ⟨T3, X3, e3, st3⟩ := yag X2 hx hZ hown hby (w_18 hw) e2 P1 20 (l344_4 o1 p2) [] d7_20 d7_21 rfl
 obtain ⟨cl4, Ar4, qa4, Sa4, Na4, Ha4, Ga4⟩ := id (P4)
 have hin4 := inb_of (j := (5 : Int32)) Sa4 ⟨by decide, by decide⟩
 obtain ⟨T5, h5, X5, e5, W5, st5⟩ := stB X3 hx hZ e3 Ar4 (j := (5 : Int32)) hin4 (g := (mkF m 30 (l344_4 o1 p2) [(.int (p2.toInt8.toInt32)), (.int 5), (.ref o3)])) rfl rfl (hb hby d7_30)
 rw [own_nb8] at W5
 have V5 : Arv Z h5 o3 kc4 .byte (9 : Int32) [(.int p5), (.int p6), (.int p7), (.int p8), (.int p9), (.int (p2.toInt8.toInt32)), (.int p11), (.int p12), (.int p13)] (.int 0) := Arv.set Ar4 qa4 Sa4 Na4 Ha4 Ga4 (fits_nar_byte _) W5 5 rfl (Nat.le_of_ble_eq_true rfl)
 have N5 := Fr.snoc X5 N0 g_o3
 have f6 := (P0.wr W5)
 have f7 := (P5.wr W5)
 have ne8 : o1 ≠ o3 := ne_exa f6 f7 (by decide)
 have f9 := (P1.other W5 (Or.inl ne8))
 obtain ⟨T10, X10, e10, st10⟩ := yag X5 hx hZ hown hby (w_18 hw) e5 f9 20 (l344_3 o1 p2) [] d7_20 d7_21 rfl
 obtain ⟨cl11, Ar11, qa11, Sa11, Na11, Ha11, Ga11⟩ := id (V5)
 have hin11 := inb_of (j := (4 : Int32)) Sa11 ⟨by decide, by decide⟩
 obtain ⟨T12, h12, X12, e12, W12, st12⟩ := stB X10 hx hZ e10 Ar11 (j := (4 : Int32)) hin11 (g := (mkF m 30 (l344_3 o1 p2) [(.int (((p2.toUInt32 >>> ((8 : Int32) &&& 31).toUInt32).toInt32).toInt8.toInt32)), (.int 4), (.ref o3)])) rfl rfl (hb hby d7_30)
 rw [own_nb8] at W12
 have V12 : Arv Z h12 o3 kc4 .byte (9 : Int32) [(.int p5), (.int p6), (.int p7), (.int p8), (.int (((p2.toUInt32 >>> ((8 : Int32) &&& 31).toUInt32).toInt32).toInt8.toInt32)), (.int (p2.toInt8.toInt32)), (.int p11), (.int p12), (.int p13)] (.int 0) := Arv.set Ar11 qa11 Sa11 Na11 Ha11 Ga11 (fits_nar_byte _) W12 4 rfl (Nat.le_of_ble_eq_true rfl)
 have N12 := Fr.snoc X12 N5 g_o3
 have f13 := (f9.other W12 (Or.inl ne8))
 obtain ⟨T14, X14, e14, st14⟩ := yag X12 hx hZ hown hby (w_18 hw) e12 f13 20 (l344_1 o1 p2) [] d7_20 d7_21 rfl
 obtain ⟨cl15, Ar15, qa15, Sa15, Na15, Ha15, Ga15⟩ := id (V12)
 have hin15 := inb_of (j := (3 : Int32)) Sa15 ⟨by decide, by decide⟩
 obtain ⟨T16, h16, X16, e16, W16, st16⟩ := stB X14 hx hZ e14 Ar15 (j := (3 : Int32)) hin15 (g := (mkF m 30 (l344_1 o1 p2) [(.int (((((p2.toUInt32 >>> ((8 : Int32) &&& 31).toUInt32).toInt32).toUInt32 >>> ((8 : Int32) &&& 31).toUInt32).toInt32).toInt8.toInt32)), (.int 3), (.ref o3)])) rfl rfl (hb hby d7_30)
 rw [own_nb8] at W16
 have V16 : Arv Z h16 o3 kc4 .byte (9 : Int32) [(.int p5), (.int p6), (.int p7), (.int (((((p2.toUInt32 >>> ((8 : Int32) &&& 31).toUInt32).toInt32).toUInt32 >>> ((8 : Int32) &&& 31).toUInt32).toInt32).toInt8.toInt32)), (.int (((p2.toUInt32 >>> ((8 : Int32) &&& 31).toUInt32).toInt32).toInt8.toInt32)), (.int (p2.toInt8.toInt32)), (.int p11), (.int p12), (.int p13)] (.int 0) := Arv.set Ar15 qa15 Sa15 Na15 Ha15 Ga15 (fits_nar_byte _) W16 3 rfl (Nat.le_of_ble_eq_true rfl)
 have N16 := Fr.snoc X16 N12 g_o3
 obtain ⟨fs, hr, hrun, hended, hW, hsame⟩ := X16.leave (v := none) (fun _ => rfl)
 have KL : Keep h0 h16 [o3] := ((((Keep.refl h0 [o3]).wr W5 (Or.inl (List.mem_of_getElem? (i := 0) rfl))).wr W12 (Or.inl (List.mem_of_getElem? (i := 0) rfl))).wr W16 (Or.inl (List.mem_of_getElem? (i := 0) rfl)))
 have f17 := ((f7.wr W12).wr W16)
 refine ⟨_, _, pre0 _ ?_, hrun, hended, _, _, rfl, ?_, ⟨_, rfl⟩, hW, hsame.mono (by decide) (by decide)⟩
 ·
  refine yin X0 hx hby d7_0 rfl ?_
  refine st1 _ ?_
  refine XS.imul X1.here hx rfl (hb hby d7_5) rfl ?_
  refine yit X1 hx hby d7_6 (l' := #[.val (.ref o1), .val (.int 1), .val (.int p2), .val (.int 3), .unset]) rfl ?_
  refine st2 _ ?_
  refine XS.iconst X2.here hx rfl (hb hby d7_11) ?_
  refine ysu X2 hx hby d7_12 ?_
  refine yis X2 hx hby d7_13 (l' := (l344_4 o1 p2)) rfl ?_
  refine yil X2 hx hby d7_15 rfl ?_
  refine XS.ifNo X2.here hx rfl (hb hby d7_17) rfl ((if0 _ _).trans (flt (by decide : ¬ ((2 : Int32) < (0 : Int32)))).1) ?_
  refine st3 _ ?_
  refine yin X3 hx hby d7_24 rfl ?_
  refine yil X3 hx hby d7_25 rfl ?_
  refine yad X3 hx hby d7_27 ?_
  refine yin X3 hx hby d7_28 rfl ?_
  refine XS.i2b X3.here hx rfl (hb hby d7_29) rfl ?_
  refine st5 _ ?_
  refine yin X5 hx hby d7_31 rfl ?_
  refine XS.bipush X5.here hx rfl (hb hby d7_32) ?_
  refine XS.iushr X5.here hx rfl (hb hby d7_34) rfl ?_
  refine yit X5 hx hby d7_35 (l' := #[.val (.ref o1), .val (.int 1), .val (.int ((p2.toUInt32 >>> ((8 : Int32) &&& 31).toUInt32).toInt32)), .val (.int 3), .val (.int 2)]) rfl ?_
  refine XS.iinc X5.here hx rfl (hb hby d7_36) rfl (l' := (l344_3 o1 p2)) rfl ?_
  refine ygo X5 hx hby 39 15 rfl d7_39 (by decide) ?_
  refine yil X5 hx hby d7_15 rfl ?_
  refine XS.ifNo X5.here hx rfl (hb hby d7_17) rfl ((if0 _ _).trans (flt (by decide : ¬ ((1 : Int32) < (0 : Int32)))).1) ?_
  refine st10 _ ?_
  refine yin X10 hx hby d7_24 rfl ?_
  refine yil X10 hx hby d7_25 rfl ?_
  refine yad X10 hx hby d7_27 ?_
  refine yin X10 hx hby d7_28 rfl ?_
  refine XS.i2b X10.here hx rfl (hb hby d7_29) rfl ?_
  refine st12 _ ?_
  refine yin X12 hx hby d7_31 rfl ?_
  refine XS.bipush X12.here hx rfl (hb hby d7_32) ?_
  refine XS.iushr X12.here hx rfl (hb hby d7_34) rfl ?_
  refine yit X12 hx hby d7_35 (l' := (l344_2 o1 p2)) rfl ?_
  show Steps p.tables e below (T12.setTop (mkF m 36 (l344_2 o1 p2) [])) _
  refine XS.iinc X12.here hx rfl (hb hby d7_36) rfl (l' := (l344_1 o1 p2)) rfl ?_
  refine ygo X12 hx hby 39 15 rfl d7_39 (by decide) ?_
  refine yil X12 hx hby d7_15 rfl ?_
  refine XS.ifNo X12.here hx rfl (hb hby d7_17) rfl ((if0 _ _).trans (flt (by decide : ¬ ((0 : Int32) < (0 : Int32)))).1) ?_
  refine st14 _ ?_
  refine yin X14 hx hby d7_24 rfl ?_
  refine yil X14 hx hby d7_25 rfl ?_
  refine yad X14 hx hby d7_27 ?_
  refine yin X14 hx hby d7_28 rfl ?_
  refine XS.i2b X14.here hx rfl (hb hby d7_29) rfl ?_
  refine st16 _ ?_
  refine yin X16 hx hby d7_31 rfl ?_
  refine XS.bipush X16.here hx rfl (hb hby d7_32) ?_
  refine XS.iushr X16.here hx rfl (hb hby d7_34) rfl ?_
  refine yit X16 hx hby d7_35 (l' := #[.val (.ref o1), .val (.int 1), .val (.int ((((((p2.toUInt32 >>> ((8 : Int32) &&& 31).toUInt32).toInt32).toUInt32 >>> ((8 : Int32) &&& 31).toUInt32).toInt32).toUInt32 >>> ((8 : Int32) &&& 31).toUInt32).toInt32)), .val (.int 3), .val (.int 0)]) rfl ?_
  refine XS.iinc X16.here hx rfl (hb hby d7_36) rfl (l' := (l344_0 o1 p2)) rfl ?_
  refine ygo X16 hx hby 39 15 rfl d7_39 (by decide) ?_
  refine yil X16 hx hby d7_15 rfl ?_
  refine XS.ifYes X16.here hx rfl (pc0 := 17) (pc' := 42) rfl (hb hby d7_17) rfl ((if0 _ _).trans (tlt (by decide : (-1 : Int32) < (0 : Int32))).1) (by decide) (by decide) ?_
  show Steps p.tables e below (T16.setTop (mkF m 42 (l344_0 o1 p2) [])) _
  exact X16.returnOut hx hret (hb hby d7_42) hr
 ·
  show Q48 Z o1 o3 kc4 p5 p6 p7 p8 p9 p10 p11 p12 p13 p2 h0 n0 _ T16.heap _
  rw [e16]
  exact ⟨rfl, N16, KL, V16, f17⟩
def l345_0 (o1 o2 : Addr) : Array Slot := #[.val (.ref o1), .val (.int 1), .val (.ref o2), .val (.int 2), .val (.int 1), .val (.int 1), .val (.int 3), .val (.int 0)]
def l345_1 (o1 o2 : Addr) : Array Slot := #[.val (.ref o1), .val (.int 1), .val (.ref o2), .val (.int 2), .val (.int 1), .val (.int 1), .val (.int 3), .val (.int 1)]
def l345_2 (o1 o2 : Addr) : Array Slot := #[.val (.ref o1), .val (.int 1), .val (.ref o2), .val (.int 2), .val (.int 1), .val (.int 2), .val (.int 6), .val (.int 0)]
def l345_3 (o1 o2 : Addr) : Array Slot := #[.val (.ref o1), .val (.int 1), .val (.ref o2), .val (.int 2), .val (.int 1), .val (.int 2), .val (.int 6), .val (.int 1)]
def l345_4 (o1 o2 : Addr) : Array Slot := #[.val (.ref o1), .val (.int 1), .val (.ref o2), .val (.int 2), .val (.int 1), .val (.int 3), .val (.int 9), .val (.int 0)]
def l345_5 (o1 o2 : Addr) : Array Slot := #[.val (.ref o1), .val (.int 1), .val (.ref o2), .val (.int 2), .val (.int 1), .val (.int 3), .val (.int 9), .val (.int 1)]
def l345_6 (o1 o2 : Addr) : Array Slot := #[.val (.ref o1), .val (.int 1), .val (.ref o2), .val (.int 2), .val (.int 1), .val (.int 1), .val (.int 3), .unset]
def l345_7 (o1 o2 : Addr) : Array Slot := #[.val (.ref o1), .val (.int 1), .val (.ref o2), .val (.int 2), .val (.int 1), .val (.int 2), .val (.int 3), .unset]
def l345_8 (o1 o2 : Addr) : Array Slot := #[.val (.ref o1), .val (.int 1), .val (.ref o2), .val (.int 2), .val (.int 1), .val (.int 3), .val (.int 3), .unset]
def l345_9 (o1 o2 : Addr) : Array Slot := #[.val (.ref o1), .val (.int 1), .val (.ref o2), .val (.int 2), .val (.int 1), .val (.int 1), .val (.int 2), .unset]
def l345_10 (o1 o2 : Addr) : Array Slot := #[.val (.ref o1), .val (.int 1), .val (.ref o2), .val (.int 2), .val (.int 1), .val (.int 2), .val (.int 6), .unset]
def l345_11 (o1 o2 : Addr) : Array Slot := #[.val (.ref o1), .val (.int 1), .val (.ref o2), .val (.int 2), .val (.int 1), .val (.int 3), .val (.int 9), .unset]
theorem ef49 (m : MethodId) (x0 : Addr) (x1 : Int32) (x2 : Addr) (x3 x4 : Int32) : entryFrame m #[(.ref x0), (.int x1), (.ref x2), (.int x3), (.int x4)] 8 = mkF m 0 #[.val (.ref x0), .val (.int x1), .val (.ref x2), .val (.int x3), .val (.int x4), .unset, .unset, .unset] [] := by first | (simp [entryFrame, mkF, argsToLocals, Value.category]; done) | rfl
def Q49 (Z : State) (w1 : Addr) (kw1 : ClassId) (o1 o2 o3 : Addr) (kc4 : ClassId) (p5 p6 p7 : Int32) (kc8 : ClassId) (p9 p10 : Int32) (h0 : Heap) (n0 : Nat) (v : Option Value) (h : Heap) (L : List Loc) : Prop :=
  (∃ b67 : Addr, ∃ k68 : ClassId, (p7 < (256 : Int32)) ∧ v = none ∧ Fr n0 L ∧ Keep h0 h [o1] ∧ h0.size ≤ b67 ∧ (Exa Z h o1 "com/example/driftless/driftless/CodePoints") ∧ (Fld Z h o1 "com/example/driftless/driftless/CodePoints" "bytes" "[B" (.ref b67)) ∧ (Fld Z h o1 "com/example/driftless/driftless/CodePoints" "length" "I" (.int 3)) ∧ (Fld Z h o1 "com/example/driftless/driftless/CodePoints" "width" "I" (.int 1)) ∧ (Arv Z h b67 k68 .byte (3 : Int32) [(.int p9), (.int (p7.toInt8.toInt32)), (.int p10)] (.int 0)) ∧ (Exa Z h b67 "[B"))
  ∨ (∃ b142 : Addr, ∃ k143 : ClassId, (p7 < (65536 : Int32)) ∧ v = none ∧ Fr n0 L ∧ Keep h0 h [o1] ∧ h0.size ≤ b142 ∧ (Exa Z h o1 "com/example/driftless/driftless/CodePoints") ∧ (Fld Z h o1 "com/example/driftless/driftless/CodePoints" "bytes" "[B" (.ref b142)) ∧ (Fld Z h o1 "com/example/driftless/driftless/CodePoints" "length" "I" (.int 3)) ∧ (Fld Z h o1 "com/example/driftless/driftless/CodePoints" "width" "I" (.int 2)) ∧ (Arv Z h b142 k143 .byte (6 : Int32) [(.int ((((p9 &&& (255 : Int32)).toUInt32 >>> ((8 : Int32) &&& 31).toUInt32).toInt32).toInt8.toInt32)), (.int ((p9 &&& (255 : Int32)).toInt8.toInt32)), (.int (((p7.toUInt32 >>> ((8 : Int32) &&& 31).toUInt32).toInt32).toInt8.toInt32)), (.int (p7.toInt8.toInt32)), (.int ((((p10 &&& (255 : Int32)).toUInt32 >>> ((8 : Int32) &&& 31).toUInt32).toInt32).toInt8.toInt32)), (.int ((p10 &&& (255 : Int32)).toInt8.toInt32))] (.int 0)) ∧ (Exa Z h b142 "[B"))
  ∨ (∃ b217 : Addr, ∃ k218 : ClassId, v = none ∧ Fr n0 L ∧ Keep h0 h [o1] ∧ h0.size ≤ b217 ∧ (Exa Z h o1 "com/example/driftless/driftless/CodePoints") ∧ (Fld Z h o1 "com/example/driftless/driftless/CodePoints" "bytes" "[B" (.ref b217)) ∧ (Fld Z h o1 "com/example/driftless/driftless/CodePoints" "length" "I" (.int 3)) ∧ (Fld Z h o1 "com/example/driftless/driftless/CodePoints" "width" "I" (.int 3)) ∧ (Arv Z h b217 k218 .byte (9 : Int32) [(.int ((((((p9 &&& (255 : Int32)).toUInt32 >>> ((8 : Int32) &&& 31).toUInt32).toInt32).toUInt32 >>> ((8 : Int32) &&& 31).toUInt32).toInt32).toInt8.toInt32)), (.int ((((p9 &&& (255 : Int32)).toUInt32 >>> ((8 : Int32) &&& 31).toUInt32).toInt32).toInt8.toInt32)), (.int ((p9 &&& (255 : Int32)).toInt8.toInt32)), (.int (((((p7.toUInt32 >>> ((8 : Int32) &&& 31).toUInt32).toInt32).toUInt32 >>> ((8 : Int32) &&& 31).toUInt32).toInt32).toInt8.toInt32)), (.int (((p7.toUInt32 >>> ((8 : Int32) &&& 31).toUInt32).toInt32).toInt8.toInt32)), (.int (p7.toInt8.toInt32)), (.int ((((((p10 &&& (255 : Int32)).toUInt32 >>> ((8 : Int32) &&& 31).toUInt32).toInt32).toUInt32 >>> ((8 : Int32) &&& 31).toUInt32).toInt32).toInt8.toInt32)), (.int ((((p10 &&& (255 : Int32)).toUInt32 >>> ((8 : Int32) &&& 31).toUInt32).toInt32).toInt8.toInt32)), (.int ((p10 &&& (255 : Int32)).toInt8.toInt32))] (.int 0)) ∧ (Exa Z h b217 "[B"))
set_option maxRecDepth 65536 in
set_option maxHeartbeats 40000000 in
theorem rm49 (l : Launch) (Z : State) (a0 : Array Value) (hw : HW a0 Z) (w1 : Addr) (kw1 : ClassId) (G : GW Z w1 kw1) (ws : List Jvm.Cond) (o1 o2 o3 : Addr) (kc4 : ClassId) (p5 p6 p7 : Int32) (kc8 : ClassId) (p9 p10 : Int32) (h0 : Heap) (n0 : Nat) (O0 : Old Z n0 h0) (g_o1 : n0 ≤ o1) (g_o2 : n0 ≤ o2) (g_o3 : n0 ≤ o3) (P0 : Exa Z h0 o1 "com/example/driftless/driftless/CodePoints") (P1 : Fld Z h0 o1 "com/example/driftless/driftless/CodePoints" "bytes" "[B" (.ref o3)) (P2 : Fld Z h0 o1 "com/example/driftless/driftless/CodePoints" "length" "I" (.int 2)) (P3 : Fld Z h0 o1 "com/example/driftless/driftless/CodePoints" "width" "I" (.int 1)) (P4 : Arv Z h0 o2 kc4 .int (3 : Int32) [(.int p5), (.int p6), (.int p7)] (.int 0)) (P5 : Exa Z h0 o2 "[I") (P6 : Arv Z h0 o3 kc8 .byte (2 : Int32) [(.int p9), (.int p10)] (.int 0)) (P7 : Exa Z h0 o3 "[B") :
    MF l yn8 prog_6_method_5_code 8 none ws ({ frames := 3, cells := 3, slots := 18, locals := 40 } : Room) #[(.ref o1), (.int 1), (.ref o2), (.int 2), (.int 1)] Z h0 (Q49 Z w1 kw1 o1 o2 o3 kc4 p5 p6 p7 kc8 p9 p10 h0 n0) := by
 obtain ⟨S_w1, E_w1, A_w1⟩ := id G
 refine MetFree.of_bodySF (plainFor_of_name pn1) hisR ?_
 intro p e s m args below meth c s₁ Bd hml hP hK
 obtain ⟨rfl, hZ, hh⟩ := hP
 obtain ⟨hx, hby, hown, hret, hlk, X0, e0, N0⟩ := own_bd Bd hh n0
 have pre0 := own_ct s₁ (p := p) (e := e) (below := below) (ef49 m o1 (1 : Int32) o2 (2 : Int32) (1 : Int32))
 revert pre0
 generalize s₁.setTop (entryFrame m #[(.ref o1), (.int 1), (.ref o2), (.int 2), (.int 1)] 8) = E0
 intro pre0
 have J0 : (∃ (T : State) (locs : List Loc), Stand p l e ({ frames := 3, cells := 3, slots := 18, locals := 40 } : Room) s m #[(.ref o1), (.int 1), (.ref o2), (.int 2), (.int 1)] below meth c T locs 0 0 ∧ T.heap = h0 ∧ Fr n0 locs ∧ (Go p e below T (mkF m 38 (l345_6 o1 o2) []) E0) ∧ (p7 < (256 : Int32))) ∨ (∃ (T : State) (locs : List Loc), Stand p l e ({ frames := 3, cells := 3, slots := 18, locals := 40 } : Room) s m #[(.ref o1), (.int 1), (.ref o2), (.int 2), (.int 1)] below meth c T locs 0 0 ∧ T.heap = h0 ∧ Fr n0 locs ∧ (Go p e below T (mkF m 38 (l345_7 o1 o2) []) E0) ∧ (p7 < (65536 : Int32))) ∨ (∃ (T : State) (locs : List Loc), Stand p l e ({ frames := 3, cells := 3, slots := 18, locals := 40 } : Room) s m #[(.ref o1), (.int 1), (.ref o2), (.int 2), (.int 1)] below meth c T locs 0 0 ∧ T.heap = h0 ∧ Fr n0 locs ∧ (Go p e below T (mkF m 38 (l345_8 o1 o2) []) E0)) := by
  obtain ⟨T1, X1, e1, st1⟩ := yag X0 hx hZ hown hby (w_20 hw) e0 P3 0 #[.val (.ref o1), .val (.int 1), .val (.ref o2), .val (.int 2), .val (.int 1), .unset, .unset, .unset] [] d2_0 d2_1 rfl
  obtain ⟨cl2, Ar2, qa2, Sa2, Na2, Ha2, Ga2⟩ := id (P4)
  have hin2 := inb_of (j := (2 : Int32)) Sa2 ⟨by decide, by decide⟩
  have hat2 : cl2.slots[((2 : Int32)).toNatClampNeg]? = some (.int p7) := Has.at Ha2 hin2 rfl
  obtain ⟨_, T3, L3, X3, hQ3, st3⟩ := own_cs X1 hx hZ hown (y := yn2) (own_w hw 27 rfl) (own_w hw 28 rfl) (own_w hw 29 rfl) (w_9 hw) e1 (argsL := [(.int p7)]) (rest := [(.int 1)]) (rm3 l Z a0 hw [] p7 h0 n0 O0 ) (g := (mkF m 24 (l345_9 o1 o2) [(.int p7), (.int 1)])) rfl (by rw [hml]; rfl) rfl (hb hby d2_24) (lenOf pd2 rfl) (W := 1) (c1 := 0) (s1 := 0)
  have pre4 : Go p e below T1 (mkF m 24 (l345_9 o1 o2) [(.int p7), (.int 1)]) E0 := fun t k => by
   refine pre0 _ ?_
   refine st1 _ ?_
   refine yis X1 hx hby d2_4 (l' := #[.val (.ref o1), .val (.int 1), .val (.ref o2), .val (.int 2), .val (.int 1), .val (.int 1), .unset, .unset]) rfl ?_
   refine yin X1 hx hby d2_6 rfl ?_
   refine yis X1 hx hby d2_7 (l' := (l345_9 o1 o2)) rfl ?_
   refine yil X1 hx hby d2_9 rfl ?_
   refine yin X1 hx hby d2_11 rfl ?_
   refine yil X1 hx hby d2_12 rfl ?_
   refine yad X1 hx hby d2_14 ?_
   refine yno X1 hx hby d2_15 (tlt (by decide : (2 : Int32) < (3 : Int32))).2.1 ?_
   refine yil X1 hx hby d2_18 rfl ?_
   refine yan X1 hx hby d2_20 rfl rfl ?_
   refine yil X1 hx hby d2_21 rfl ?_
   refine X1.iaload hx (j := (2 : Int32)) (v := (.int p7)) (by rw [e1]; exact Ar2.1) (State.isArrayOf_alike hZ.alike Ar2.2.1) Ar2.2.2 hin2 hat2 (g := (mkF m 23 (l345_9 o1 o2) [(.int 2), (.ref o2), (.int 1)])) rfl rfl (hb hby d2_23) _ ?_
   exact k
  rcases hQ3 with ⟨hc5, rfl, Nq6, e7⟩ | ⟨hc8, hc9, rfl, Nq10, e11⟩ | ⟨hc12, hc13, rfl, Nq14, e15⟩
  ·
   have N3 := Fr.app N0 Nq6
   obtain ⟨_, T16, L16, X16, hQ16, st16⟩ := own_cs X3 hx hZ hown (y := yn3) (w_30 hw) (w_31 hw) (w_33 hw) (w_32 hw) e7 (argsL := [(.int 1), (.int 1)]) (rest := []) (rm4 l Z a0 hw [] ((1 : Int32)) ((1 : Int32)) h0 n0 O0 ) (g := (mkF m 27 (l345_9 o1 o2) [(.int 1), (.int 1)])) rfl (by rw [hml]; rfl) rfl (hb hby d2_27) (lenOf pd0 rfl) (W := 0) (c1 := 0) (s1 := 0)
   have pre17 : Go p e below T3 (mkF m 27 (l345_9 o1 o2) [(.int 1), (.int 1)]) E0 := fun t k => by
    refine pre4 _ ?_
    refine st3 _ ?_
    exact k
   rcases hQ16 with ⟨hc18, rfl, Nq19, e20⟩ | ⟨hc21, rfl, Nq22, e23⟩
   ·
    exact absurd hc18 (by decide : ¬ ((1 : Int32) < (1 : Int32)))
   ·
    have N16 := Fr.app N3 Nq22
    have pre24 : Go p e below T16 (mkF m 38 (l345_6 o1 o2) []) E0 := fun t k => by
     refine pre17 _ ?_
     refine st16 _ ?_
     refine yis X16 hx hby d2_30 (l' := (l345_9 o1 o2)) rfl ?_
     refine XS.iinc X16.here hx rfl (hb hby d2_32) rfl (l' := (l345_6 o1 o2)) rfl ?_
     refine ygo X16 hx hby 35 9 rfl d2_35 (by decide) ?_
     refine yil X16 hx hby d2_9 rfl ?_
     refine yin X16 hx hby d2_11 rfl ?_
     refine yil X16 hx hby d2_12 rfl ?_
     refine yad X16 hx hby d2_14 ?_
     refine yye X16 hx hby 15 38 rfl d2_15 (flt (by decide : ¬ ((3 : Int32) < (3 : Int32)))).2.1 (by decide) ?_
     exact k
    exact (Or.inl ⟨_, _, X16.more (by decide) (by decide), e23, N16, pre24, hc5⟩)
  ·
   have N3 := Fr.app N0 Nq10
   obtain ⟨_, T25, L25, X25, hQ25, st25⟩ := own_cs X3 hx hZ hown (y := yn3) (w_30 hw) (w_31 hw) (w_33 hw) (w_32 hw) e11 (argsL := [(.int 1), (.int 2)]) (rest := []) (rm4 l Z a0 hw [] ((1 : Int32)) ((2 : Int32)) h0 n0 O0 ) (g := (mkF m 27 (l345_9 o1 o2) [(.int 2), (.int 1)])) rfl (by rw [hml]; rfl) rfl (hb hby d2_27) (lenOf pd0 rfl) (W := 0) (c1 := 0) (s1 := 0)
   have pre26 : Go p e below T3 (mkF m 27 (l345_9 o1 o2) [(.int 2), (.int 1)]) E0 := fun t k => by
    refine pre4 _ ?_
    refine st3 _ ?_
    exact k
   rcases hQ25 with ⟨hc27, rfl, Nq28, e29⟩ | ⟨hc30, rfl, Nq31, e32⟩
   ·
    have N25 := Fr.app N3 Nq28
    have pre33 : Go p e below T25 (mkF m 38 (l345_7 o1 o2) []) E0 := fun t k => by
     refine pre26 _ ?_
     refine st25 _ ?_
     refine yis X25 hx hby d2_30 (l' := #[.val (.ref o1), .val (.int 1), .val (.ref o2), .val (.int 2), .val (.int 1), .val (.int 2), .val (.int 2), .unset]) rfl ?_
     refine XS.iinc X25.here hx rfl (hb hby d2_32) rfl (l' := (l345_7 o1 o2)) rfl ?_
     refine ygo X25 hx hby 35 9 rfl d2_35 (by decide) ?_
     refine yil X25 hx hby d2_9 rfl ?_
     refine yin X25 hx hby d2_11 rfl ?_
     refine yil X25 hx hby d2_12 rfl ?_
     refine yad X25 hx hby d2_14 ?_
     refine yye X25 hx hby 15 38 rfl d2_15 (flt (by decide : ¬ ((3 : Int32) < (3 : Int32)))).2.1 (by decide) ?_
     exact k
    exact (Or.inr (Or.inl ⟨_, _, X25.more (by decide) (by decide), e29, N25, pre33, hc9⟩))
   ·
    exact absurd (by decide : (1 : Int32) < (2 : Int32)) hc30
  ·
   have N3 := Fr.app N0 Nq14
   obtain ⟨_, T34, L34, X34, hQ34, st34⟩ := own_cs X3 hx hZ hown (y := yn3) (w_30 hw) (w_31 hw) (w_33 hw) (w_32 hw) e15 (argsL := [(.int 1), (.int 3)]) (rest := []) (rm4 l Z a0 hw [] ((1 : Int32)) ((3 : Int32)) h0 n0 O0 ) (g := (mkF m 27 (l345_9 o1 o2) [(.int 3), (.int 1)])) rfl (by rw [hml]; rfl) rfl (hb hby d2_27) (lenOf pd0 rfl) (W := 0) (c1 := 0) (s1 := 0)
   have pre35 : Go p e below T3 (mkF m 27 (l345_9 o1 o2) [(.int 3), (.int 1)]) E0 := fun t k => by
    refine pre4 _ ?_
    refine st3 _ ?_
    exact k
   rcases hQ34 with ⟨hc36, rfl, Nq37, e38⟩ | ⟨hc39, rfl, Nq40, e41⟩
   ·
    have N34 := Fr.app N3 Nq37
    have pre42 : Go p e below T34 (mkF m 38 (l345_8 o1 o2) []) E0 := fun t k => by
     refine pre35 _ ?_
     refine st34 _ ?_
     refine yis X34 hx hby d2_30 (l' := #[.val (.ref o1), .val (.int 1), .val (.ref o2), .val (.int 2), .val (.int 1), .val (.int 3), .val (.int 2), .unset]) rfl ?_
     refine XS.iinc X34.here hx rfl (hb hby d2_32) rfl (l' := (l345_8 o1 o2)) rfl ?_
     refine ygo X34 hx hby 35 9 rfl d2_35 (by decide) ?_
     refine yil X34 hx hby d2_9 rfl ?_
     refine yin X34 hx hby d2_11 rfl ?_
     refine yil X34 hx hby d2_12 rfl ?_
     refine yad X34 hx hby d2_14 ?_
     refine yye X34 hx hby 15 38 rfl d2_15 (flt (by decide : ¬ ((3 : Int32) < (3 : Int32)))).2.1 (by decide) ?_
     exact k
    exact (Or.inr (Or.inr ⟨_, _, X34.more (by decide) (by decide), e38, N34, pre42⟩))
   ·
    exact absurd (by decide : (1 : Int32) < (3 : Int32)) hc39
 rcases J0 with ⟨T43, lc43, X43, e43, N43, pre43, hc44⟩ | ⟨T45, lc45, X45, e45, N45, pre45, hc46⟩ | ⟨T47, lc47, X47, e47, N47, pre47⟩
 ·
  obtain ⟨T48, X48, e48, st48⟩ := yag X43 hx hZ hown hby (w_20 hw) e43 P3 40 (l345_6 o1 o2) [(.int 1)] d2_40 d2_41 rfl
  obtain ⟨T49, X49, e49, st49⟩ := yag X48 hx hZ hown hby (w_34 hw) e48 P2 53 (l345_6 o1 o2) [] d2_53 d2_54 rfl
  obtain ⟨T50, X50, e50, st50⟩ := yag X49 hx hZ hown hby (w_20 hw) e49 P3 60 (l345_6 o1 o2) [(.int 3)] d2_60 d2_61 rfl
  obtain ⟨T51, X51, e51, st51⟩ := yag X50 hx hZ hown hby (w_18 hw) e50 P1 69 (l345_6 o1 o2) [(.int 3)] d2_69 d2_70 rfl
  obtain ⟨cl52, Ar52, qa52, Sa52, Na52, Ha52, Ga52⟩ := id (P6)
  obtain ⟨T53, X53, e53, st53⟩ := yag X51 hx hZ hown hby (w_18 hw) e51 P1 78 (l345_6 o1 o2) [(.ref o1)] d2_78 d2_79 rfl
  obtain ⟨T54, X54, e54, st54⟩ := yag X53 hx hZ hown hby (w_18 hw) e53 P1 84 (l345_6 o1 o2) [(.int 3), (.ref o3), (.ref o1)] d2_84 d2_85 rfl
  obtain ⟨cl55, Ar55, qa55, Sa55, Na55, Ha55, Ga55⟩ := id (P6)
  obtain ⟨T56, X56, e56, st56⟩ := yag X54 hx hZ hown hby (w_18 hw) e54 P1 89 (l345_6 o1 o2) [(.int 2), (.int 3), (.ref o3), (.ref o1)] d2_89 d2_90 rfl
  obtain ⟨cl57, Ar57, qa57, Sa57, Na57, Ha57, Ga57⟩ := id (P6)
  obtain ⟨_, T58, L58, X58, hQ58, st58⟩ := own_cs X56 hx hZ hown (y := yn3) (w_30 hw) (w_31 hw) (w_33 hw) (w_32 hw) e56 (argsL := [(.int 3), (.int 3)]) (rest := [(.ref o3), (.ref o1)]) (rm4 l Z a0 hw [] ((3 : Int32)) ((3 : Int32)) h0 n0 O0 ) (g := (mkF m 97 (l345_6 o1 o2) [(.int 3), (.int 3), (.ref o3), (.ref o1)])) rfl (by rw [hml]; rfl) rfl (hb hby d2_97) (lenOf pd0 rfl) (W := 2) (c1 := 0) (s1 := 0)
  have pre59 : Go p e below T56 (mkF m 97 (l345_6 o1 o2) [(.int 3), (.int 3), (.ref o3), (.ref o1)]) E0 := fun t k => by
   refine pre43 _ ?_
   refine yil X43 hx hby d2_38 rfl ?_
   refine st48 _ ?_
   refine yye X48 hx hby 44 53 rfl d2_44 (flt (by decide : ¬ ((1 : Int32) < (1 : Int32)))).2.2.2 (by decide) ?_
   refine st49 _ ?_
   refine yil X49 hx hby d2_57 rfl ?_
   refine yad X49 hx hby d2_59 ?_
   refine st50 _ ?_
   refine XS.imul X50.here hx rfl (hb hby d2_64) rfl ?_
   refine yis X50 hx hby d2_65 (l' := (l345_6 o1 o2)) rfl ?_
   refine yil X50 hx hby d2_67 rfl ?_
   refine st51 _ ?_
   refine X51.arraylength hx (by rw [e51]; exact Ar52.1) (State.isArrayOf_alike hZ.alike Ar52.2.1) (g := (mkF m 73 (l345_6 o1 o2) [(.ref o3), (.int 3)])) rfl rfl (hb hby d2_73) _ ?_
   rw [len_of Sa52 Na52]
   refine yno X51 hx hby d2_74 (tlt (by decide : (2 : Int32) < (3 : Int32))).2.2.2 ?_
   refine yan X51 hx hby d2_77 rfl rfl ?_
   refine st53 _ ?_
   refine yil X53 hx hby d2_82 rfl ?_
   refine st54 _ ?_
   refine X54.arraylength hx (by rw [e54]; exact Ar55.1) (State.isArrayOf_alike hZ.alike Ar55.2.1) (g := (mkF m 88 (l345_6 o1 o2) [(.ref o3), (.int 3), (.ref o3), (.ref o1)])) rfl rfl (hb hby d2_88) _ ?_
   rw [len_of Sa55 Na55]
   refine st56 _ ?_
   refine X56.arraylength hx (by rw [e56]; exact Ar57.1) (State.isArrayOf_alike hZ.alike Ar57.2.1) (g := (mkF m 93 (l345_6 o1 o2) [(.ref o3), (.int 2), (.int 3), (.ref o3), (.ref o1)])) rfl rfl (hb hby d2_93) _ ?_
   rw [len_of Sa57 Na57]
   refine XS.iconst X56.here hx rfl (hb hby d2_94) ?_
   refine XS.idiv X56.here hx rfl (hb hby d2_95) rfl (by decide : ¬ ((2 : Int32) = (0 : Int32))) ?_
   refine yad X56 hx hby d2_96 ?_
   exact k
  rcases hQ58 with ⟨hc60, rfl, Nq61, e62⟩ | ⟨hc63, rfl, Nq64, e65⟩
  ·
   exact absurd hc60 (by decide : ¬ ((3 : Int32) < (3 : Int32)))
  ·
   have N58 := Fr.app N43 Nq64
   obtain ⟨_, T66, L66, X66, hQ66, st66⟩ := own_cs X58 hx hZ hown (y := yn5) (own_w hw 36 rfl) (w_37 hw) (own_w hw 39 rfl) (w_38 hw) e65 (argsL := [(.ref o3), (.int 3)]) (rest := [(.ref o1)]) (rm18 l Z a0 hw [] o3 kc8 p9 p10 h0 n0 O0 g_o3 P6) (g := (mkF m 100 (l345_6 o1 o2) [(.int 3), (.ref o3), (.ref o1)])) rfl (by rw [hml]; rfl) rfl (hb hby d2_100) (lenOf pd3 rfl) (W := 1) (c1 := 1) (s1 := 3)
   obtain ⟨b67, k68, rfl, Nq69, K70, sz_b67, f71, f72⟩ := hQ66
   have N66 := Fr.app N58 Nq69
   have g_b67 : n0 ≤ b67 := Nat.le_trans (own_oz O0) sz_b67
   have O66 := Old.keep O0 K70 all0
   have f73 := (P1.keep K70 nin0)
   have f74 := (P0.keep K70)
   obtain ⟨T75, h75, X75, e75, W75, st75⟩ := putF X66 hx hZ hown (host := "") (Or.inl (w_18 hw)) Via.refl rfl f73 f74 (Or.inl (w_19 hw)) (w_8 hw) (ty := (.array .byte)) (by decide) rfl rfl (g := (mkF m 103 (l345_6 o1 o2) [(.ref b67), (.ref o1)])) rfl rfl (hb hby d2_103)
   have N75 := Fr.snoc X75 N66 g_o1
   have Fw75 := f73.same W75
   have O75 := Old.wr O66 W75 g_o1
   obtain ⟨T76, X76, e76, st76⟩ := yag X75 hx hZ hown hby (w_18 hw) e75 Fw75 106 (l345_6 o1 o2) [] d2_106 d2_107 rfl
   have f77 := ((P3.keep K70 nin0).other W75 (Or.inr (slot_ne (Or.inl (w_21 hw)) (Or.inl (w_19 hw)) (by decide) (t := .int) (t' := (.array .byte)) (by decide) (by decide))))
   obtain ⟨T78, X78, e78, st78⟩ := yag X76 hx hZ hown hby (w_20 hw) e76 f77 111 (l345_6 o1 o2) [(.int 1), (.ref b67)] d2_111 d2_112 rfl
   obtain ⟨T79, X79, e79, st79⟩ := yag X78 hx hZ hown hby (w_18 hw) e78 Fw75 116 (l345_6 o1 o2) [(.int 1), (.ref b67)] d2_116 d2_117 rfl
   obtain ⟨T80, X80, e80, st80⟩ := yag X79 hx hZ hown hby (w_20 hw) e79 f77 124 (l345_6 o1 o2) [(.int 2), (.ref b67), (.int 1), (.ref b67)] d2_124 d2_125 rfl
   have f81 := ((P2.keep K70 nin0).other W75 (Or.inr (slot_ne (Or.inl (w_35 hw)) (Or.inl (w_19 hw)) (by decide) (t := .int) (t' := (.array .byte)) (by decide) (by decide))))
   obtain ⟨T82, X82, e82, st82⟩ := yag X80 hx hZ hown hby (w_34 hw) e80 f81 129 (l345_6 o1 o2) [(.int 2), (.ref b67), (.int 1), (.ref b67)] d2_129 d2_130 rfl
   obtain ⟨T83, X83, e83, st83⟩ := yag X82 hx hZ hown hby (w_20 hw) e82 f77 135 (l345_6 o1 o2) [(.int 1), (.int 2), (.ref b67), (.int 1), (.ref b67)] d2_135 d2_136 rfl
   have lt84 : o1 < h0.size := P0.lt
   have ne85 : o1 ≠ b67 := Nat.ne_of_lt (Nat.lt_of_lt_of_le lt84 sz_b67)
   have f86 := (f71.other W75 (Ne.symm ne85))
   obtain ⟨T87, h87, L87, X87, e87, N87, K87, VV87, st87⟩ := cpA X83 hx hZ hown (own_w hw 48 rfl) (w_47 hw) (w_45 hw) (w_46 hw) e83 (us := [(.int p10)]) f86 f86 (Or.inl ⟨rfl, rfl⟩) (by decide) (by decide) (by decide) (by decide) (by decide) rfl (by first | decide | exact (by decide : 2 + 1 ≤ 3)) N75 g_b67 (g := (mkF m 140 (l345_6 o1 o2) [(.int 1), (.int 2), (.ref b67), (.int 1), (.ref b67)])) rfl (by rw [hml]; rfl) rfl (hb hby d2_140) (by decide) (W := 0) (by show 2 * 0 + _ ≤ _; exact Nat.le_of_eq rfl) (by decide)
   have V87 : Arv Z h87 b67 k68 .byte (3 : Int32) [(.int p9), (.int p10), (.int p10)] (.int 0) := VV87
   have O87 := Old.keep O75 K87 (allS g_b67 all0)
   have f88 := (f81.keep K87 (ninS ne85 nin0))
   obtain ⟨T89, X89, e89, st89⟩ := yg X87 hx hZ hown hby (w_34 hw) e87 f88 145 (l345_6 o1 o2) [(.ref o1)] d2_145
   have f90 := ((f74.wr W75).keep K87)
   obtain ⟨T91, h91, X91, e91, W91, st91⟩ := putF X89 hx hZ hown (host := "") (Or.inl (w_34 hw)) Via.refl e89 f88 f90 (Or.inl (w_35 hw)) (w_8 hw) (ty := .int) (by decide) rfl rfl (g := (mkF m 151 (l345_6 o1 o2) [(.int 3), (.ref o1)])) rfl rfl (hb hby d2_151)
   have N91 := Fr.snoc X91 N87 g_o1
   have Fw91 := f88.same W91
   have O91 := Old.wr O87 W91 g_o1
   have f92 := ((((P5.keep K70).wr W75).keep K87).wr W91)
   have f93 := (f90.wr W91)
   have ne94 : o2 ≠ o1 := ne_exa f92 f93 (by decide)
   have lt95 : o2 < h0.size := P4.lt
   have ne96 : o2 ≠ b67 := Nat.ne_of_lt (Nat.lt_of_lt_of_le lt95 sz_b67)
   have f97 := ((((P4.keep K70 nin0).other W75 ne94).keep K87 (ninS ne96 nin0)).other W91 ne94)
   obtain ⟨cl98, Ar98, qa98, Sa98, Na98, Ha98, Ga98⟩ := id (f97)
   have hin98 := inb_of (j := (2 : Int32)) Sa98 ⟨by decide, by decide⟩
   have hat98 : cl98.slots[((2 : Int32)).toNatClampNeg]? = some (.int p7) := Has.at Ha98 hin98 rfl
   have f99 := ((Fw75.keep K87 (ninS ne85 nin0)).other W91 (Or.inr (slot_ne (Or.inl (w_19 hw)) (Or.inl (w_35 hw)) (by decide) (t := (.array .byte)) (t' := .int) (by decide) (by decide))))
   have f100 := ((f77.keep K87 (ninS ne85 nin0)).other W91 (Or.inr (slot_ne (Or.inl (w_21 hw)) (Or.inl (w_35 hw)) (by decide) (t := .int) (t' := .int) (by decide) (by decide))))
   have f101 := (V87.other W91 (Ne.symm ne85))
   have f102 := (((f72.wr W75).keep K87).wr W91)
   obtain ⟨_, T103, L103, X103, hQ103, st103⟩ := own_pb X91 hx hZ hown (y := yn6) (w_49 hw) (w_50 hw) (own_selp (mvT hZ (w_25 hw)) rfl (Cond.privateMethod_at (mvP hZ (w_51 hw) (args := #[]))) (mvT hZ (w_50 hw)) (by decide)) (w_51 hw) (own_w hw 52 rfl) (w_9 hw) e91 f93 (argsL := [(.int 1), (.int p7)]) (rest := []) (rm46 l Z a0 hw [] o1 b67 k68 p9 p10 p10 p7 h91 n0 O91 g_o1 g_b67 f99 f100 f101 f102) (g := (mkF m 175 (l345_0 o1 o2) [(.int p7), (.int 1), (.ref o1)])) rfl (by rw [hml]; rfl) rfl (hb hby d2_175) (lenOf pd4 rfl) (W := 0) (c1 := 1) (s1 := 3)
   obtain ⟨rfl, Nq104, K105, f106, f107⟩ := hQ103
   have N103 := Fr.app N91 Nq104
   obtain ⟨fs, hr, hrun, hended, hW, hsame⟩ := X103.leave (v := none) (fun _ => rfl)
   have KL : Keep h0 T103.heap [o1] := ((((((Keep.refl h0 [o1]).trans K70 all0).wr W75 (Or.inl (List.mem_of_getElem? (i := 0) rfl))).trans K87 (allS (Or.inr (Nat.le_trans (Nat.le_refl _) sz_b67)) all0)).wr W91 (Or.inl (List.mem_of_getElem? (i := 0) rfl))).trans K105 (allS (Or.inr (Nat.le_trans (Nat.le_refl _) sz_b67)) all0))
   have f108 := (f93.keep K105)
   have f109 := (f99.keep K105 (ninS ne85 nin0))
   have f110 := (Fw91.keep K105 (ninS ne85 nin0))
   have f111 := (f100.keep K105 (ninS ne85 nin0))
   refine ⟨_, _, pre59 _ ?_, hrun, hended, _, _, rfl, ?_, ⟨_, rfl⟩, hW, hsame.mono (by decide) (by decide)⟩
   ·
    refine st58 _ ?_
    refine st66 _ ?_
    refine st75 _ ?_
    refine st76 _ ?_
    refine yin X76 hx hby d2_110 rfl ?_
    refine st78 _ ?_
    refine XS.imul X78.here hx rfl (hb hby d2_115) rfl ?_
    show Steps p.tables e below (T78.setTop (mkF m 116 (l345_6 o1 o2) [(.int 1), (.ref b67)])) _
    refine st79 _ ?_
    refine yin X79 hx hby d2_120 rfl ?_
    refine yil X79 hx hby d2_121 rfl ?_
    refine yad X79 hx hby d2_123 ?_
    refine st80 _ ?_
    refine XS.imul X80.here hx rfl (hb hby d2_128) rfl ?_
    refine st82 _ ?_
    refine yin X82 hx hby d2_133 rfl ?_
    refine ysu X82 hx hby d2_134 ?_
    refine st83 _ ?_
    refine XS.imul X83.here hx rfl (hb hby d2_139) rfl ?_
    refine st87 _ ?_
    refine yan X87 hx hby d2_143 rfl rfl ?_
    refine XS.dup X87.here hx rfl (hb hby d2_144) rfl rfl ?_
    refine st89 _ ?_
    refine yil X89 hx hby d2_148 rfl ?_
    refine yad X89 hx hby d2_150 ?_
    refine st91 _ ?_
    refine XS.iconst X91.here hx rfl (hb hby d2_154) ?_
    refine yis X91 hx hby d2_155 (l' := (l345_0 o1 o2)) rfl ?_
    refine yil X91 hx hby d2_157 rfl ?_
    refine yil X91 hx hby d2_159 rfl ?_
    refine yno X91 hx hby d2_161 (tlt (by decide : (0 : Int32) < (1 : Int32))).2.1 ?_
    refine yan X91 hx hby d2_164 rfl rfl ?_
    refine yin X91 hx hby d2_165 rfl ?_
    refine yil X91 hx hby d2_166 rfl ?_
    refine yad X91 hx hby d2_168 ?_
    refine yan X91 hx hby d2_169 rfl rfl ?_
    refine yin X91 hx hby d2_170 rfl ?_
    refine yil X91 hx hby d2_171 rfl ?_
    refine yad X91 hx hby d2_173 ?_
    refine X91.iaload hx (j := (2 : Int32)) (v := (.int p7)) (by rw [e91]; exact Ar98.1) (State.isArrayOf_alike hZ.alike Ar98.2.1) Ar98.2.2 hin98 hat98 (g := (mkF m 174 (l345_0 o1 o2) [(.int 2), (.ref o2), (.int 1), (.ref o1)])) rfl rfl (hb hby d2_174) _ ?_
    refine st103 _ ?_
    refine XS.iinc X103.here hx rfl (hb hby d2_178) rfl (l' := (l345_1 o1 o2)) rfl ?_
    refine ygo X103 hx hby 181 157 rfl d2_181 (by decide) ?_
    refine yil X103 hx hby d2_157 rfl ?_
    refine yil X103 hx hby d2_159 rfl ?_
    show Steps p.tables e below (T103.setTop (mkF m 161 (l345_1 o1 o2) [(.int 1), (.int 1)])) _
    refine yye X103 hx hby 161 184 rfl d2_161 (flt (by decide : ¬ ((1 : Int32) < (1 : Int32)))).2.1 (by decide) ?_
    show Steps p.tables e below (T103.setTop (mkF m 184 (l345_1 o1 o2) [])) _
    exact X103.returnOut hx hret (hb hby d2_184) hr
   ·
    show Q49 Z w1 kw1 o1 o2 o3 kc4 p5 p6 p7 kc8 p9 p10 h0 n0 _ T103.heap _
    exact (Or.inl ⟨b67, k68, hc44, rfl, N103, KL, (Nat.le_trans (Nat.le_refl _) sz_b67), f108, f109, f110, f111, f106, f107⟩)
 ·
  obtain ⟨T112, X112, e112, st112⟩ := yag X45 hx hZ hown hby (w_20 hw) e45 P3 40 (l345_7 o1 o2) [(.int 2)] d2_40 d2_41 rfl
  obtain ⟨_, T113, L113, X113, hQ113, st113⟩ := own_pb X112 hx hZ hown (y := yn7) (own_w hw 65 rfl) (own_w hw 66 rfl) (own_selp (mvT hZ (w_25 hw)) rfl (Cond.privateMethod_at (mvP hZ (own_w hw 67 rfl) (args := #[]))) (mvT hZ (own_w hw 66 rfl)) (by decide)) (own_w hw 67 rfl) (own_w hw 68 rfl) (w_9 hw) e112 P0 (argsL := [(.int 2)]) (rest := []) (rm22 l Z a0 hw w1 kw1 G [] o1 o3 kc8 p9 p10 h0 n0 O0 g_o1 g_o3 P0 P1 P2 P3 P6 P7) (g := (mkF m 50 (l345_7 o1 o2) [(.int 2), (.ref o1)])) rfl (by rw [hml]; rfl) rfl (hb hby d2_50) (lenOf pd5 rfl) (W := 0) (c1 := 2) (s1 := 7)
  obtain ⟨b114, k115, rfl, Nq116, K117, sz_b114, f118, f119, f120, f121, f122, f123⟩ := hQ113
  have N113 := Fr.app N45 Nq116
  have g_b114 : n0 ≤ b114 := Nat.le_trans (own_oz O0) sz_b114
  have M113 : h0.size ≤ T113.heap.size := Nat.le_trans (Nat.le_refl _) K117.1
  have O113 := Old.keep O0 K117 (allS g_o1 all0)
  obtain ⟨T124, X124, e124, st124⟩ := yag X113 hx hZ hown hby (w_34 hw) rfl f120 53 (l345_7 o1 o2) [] d2_53 d2_54 rfl
  obtain ⟨T125, X125, e125, st125⟩ := yag X124 hx hZ hown hby (w_20 hw) e124 f121 60 (l345_7 o1 o2) [(.int 3)] d2_60 d2_61 rfl
  obtain ⟨T126, X126, e126, st126⟩ := yag X125 hx hZ hown hby (w_18 hw) e125 f119 69 (l345_10 o1 o2) [(.int 6)] d2_69 d2_70 rfl
  obtain ⟨cl127, Ar127, qa127, Sa127, Na127, Ha127, Ga127⟩ := id (f122)
  obtain ⟨T128, X128, e128, st128⟩ := yag X126 hx hZ hown hby (w_18 hw) e126 f119 78 (l345_10 o1 o2) [(.ref o1)] d2_78 d2_79 rfl
  obtain ⟨T129, X129, e129, st129⟩ := yag X128 hx hZ hown hby (w_18 hw) e128 f119 84 (l345_10 o1 o2) [(.int 6), (.ref b114), (.ref o1)] d2_84 d2_85 rfl
  obtain ⟨cl130, Ar130, qa130, Sa130, Na130, Ha130, Ga130⟩ := id (f122)
  obtain ⟨T131, X131, e131, st131⟩ := yag X129 hx hZ hown hby (w_18 hw) e129 f119 89 (l345_10 o1 o2) [(.int 4), (.int 6), (.ref b114), (.ref o1)] d2_89 d2_90 rfl
  obtain ⟨cl132, Ar132, qa132, Sa132, Na132, Ha132, Ga132⟩ := id (f122)
  obtain ⟨_, T133, L133, X133, hQ133, st133⟩ := own_cs X131 hx hZ hown (y := yn3) (w_30 hw) (w_31 hw) (w_33 hw) (w_32 hw) e131 (argsL := [(.int 6), (.int 6)]) (rest := [(.ref b114), (.ref o1)]) (rm4 l Z a0 hw [] ((6 : Int32)) ((6 : Int32)) T113.heap n0 O113 ) (g := (mkF m 97 (l345_10 o1 o2) [(.int 6), (.int 6), (.ref b114), (.ref o1)])) rfl (by rw [hml]; rfl) rfl (hb hby d2_97) (lenOf pd0 rfl) (W := 2) (c1 := 2) (s1 := 7)
  have pre134 : Go p e below T131 (mkF m 97 (l345_10 o1 o2) [(.int 6), (.int 6), (.ref b114), (.ref o1)]) E0 := fun t k => by
   refine pre45 _ ?_
   refine yil X45 hx hby d2_38 rfl ?_
   refine st112 _ ?_
   refine yno X112 hx hby d2_44 (tlt (by decide : (1 : Int32) < (2 : Int32))).2.2.2 ?_
   refine yan X112 hx hby d2_47 rfl rfl ?_
   refine yil X112 hx hby d2_48 rfl ?_
   refine st113 _ ?_
   refine st124 _ ?_
   refine yil X124 hx hby d2_57 rfl ?_
   refine yad X124 hx hby d2_59 ?_
   refine st125 _ ?_
   refine XS.imul X125.here hx rfl (hb hby d2_64) rfl ?_
   refine yis X125 hx hby d2_65 (l' := (l345_10 o1 o2)) rfl ?_
   refine yil X125 hx hby d2_67 rfl ?_
   refine st126 _ ?_
   refine X126.arraylength hx (by rw [e126]; exact Ar127.1) (State.isArrayOf_alike hZ.alike Ar127.2.1) (g := (mkF m 73 (l345_10 o1 o2) [(.ref b114), (.int 6)])) rfl rfl (hb hby d2_73) _ ?_
   rw [len_of Sa127 Na127]
   refine yno X126 hx hby d2_74 (tlt (by decide : (4 : Int32) < (6 : Int32))).2.2.2 ?_
   refine yan X126 hx hby d2_77 rfl rfl ?_
   refine st128 _ ?_
   refine yil X128 hx hby d2_82 rfl ?_
   refine st129 _ ?_
   refine X129.arraylength hx (by rw [e129]; exact Ar130.1) (State.isArrayOf_alike hZ.alike Ar130.2.1) (g := (mkF m 88 (l345_10 o1 o2) [(.ref b114), (.int 6), (.ref b114), (.ref o1)])) rfl rfl (hb hby d2_88) _ ?_
   rw [len_of Sa130 Na130]
   refine st131 _ ?_
   refine X131.arraylength hx (by rw [e131]; exact Ar132.1) (State.isArrayOf_alike hZ.alike Ar132.2.1) (g := (mkF m 93 (l345_10 o1 o2) [(.ref b114), (.int 4), (.int 6), (.ref b114), (.ref o1)])) rfl rfl (hb hby d2_93) _ ?_
   rw [len_of Sa132 Na132]
   refine XS.iconst X131.here hx rfl (hb hby d2_94) ?_
   refine XS.idiv X131.here hx rfl (hb hby d2_95) rfl (by decide : ¬ ((2 : Int32) = (0 : Int32))) ?_
   refine yad X131 hx hby d2_96 ?_
   exact k
  rcases hQ133 with ⟨hc135, rfl, Nq136, e137⟩ | ⟨hc138, rfl, Nq139, e140⟩
  ·
   exact absurd hc135 (by decide : ¬ ((6 : Int32) < (6 : Int32)))
  ·
   have N133 := Fr.app N113 Nq139
   obtain ⟨_, T141, L141, X141, hQ141, st141⟩ := own_cs X133 hx hZ hown (y := yn5) (own_w hw 36 rfl) (w_37 hw) (own_w hw 39 rfl) (w_38 hw) e140 (argsL := [(.ref b114), (.int 6)]) (rest := [(.ref o1)]) (rm23 l Z a0 hw [] b114 k115 (((((p9 &&& (255 : Int32)).toUInt32 >>> ((8 : Int32) &&& 31).toUInt32).toInt32).toInt8.toInt32)) (((p9 &&& (255 : Int32)).toInt8.toInt32)) (((((p10 &&& (255 : Int32)).toUInt32 >>> ((8 : Int32) &&& 31).toUInt32).toInt32).toInt8.toInt32)) (((p10 &&& (255 : Int32)).toInt8.toInt32)) T113.heap n0 O113 g_b114 f122) (g := (mkF m 100 (l345_10 o1 o2) [(.int 6), (.ref b114), (.ref o1)])) rfl (by rw [hml]; rfl) rfl (hb hby d2_100) (lenOf pd3 rfl) (W := 1) (c1 := 3) (s1 := 13)
   obtain ⟨b142, k143, rfl, Nq144, K145, sz_b142, f146, f147⟩ := hQ141
   have N141 := Fr.app N133 Nq144
   have g_b142 : n0 ≤ b142 := Nat.le_trans (own_oz O113) sz_b142
   have O141 := Old.keep O113 K145 all0
   have f148 := (f119.keep K145 nin0)
   have f149 := (f118.keep K145)
   obtain ⟨T150, h150, X150, e150, W150, st150⟩ := putF X141 hx hZ hown (host := "") (Or.inl (w_18 hw)) Via.refl rfl f148 f149 (Or.inl (w_19 hw)) (w_8 hw) (ty := (.array .byte)) (by decide) rfl rfl (g := (mkF m 103 (l345_10 o1 o2) [(.ref b142), (.ref o1)])) rfl rfl (hb hby d2_103)
   have N150 := Fr.snoc X150 N141 g_o1
   have Fw150 := f148.same W150
   have O150 := Old.wr O141 W150 g_o1
   obtain ⟨T151, X151, e151, st151⟩ := yag X150 hx hZ hown hby (w_18 hw) e150 Fw150 106 (l345_10 o1 o2) [] d2_106 d2_107 rfl
   have f152 := ((f121.keep K145 nin0).other W150 (Or.inr (slot_ne (Or.inl (w_21 hw)) (Or.inl (w_19 hw)) (by decide) (t := .int) (t' := (.array .byte)) (by decide) (by decide))))
   obtain ⟨T153, X153, e153, st153⟩ := yag X151 hx hZ hown hby (w_20 hw) e151 f152 111 (l345_10 o1 o2) [(.int 1), (.ref b142)] d2_111 d2_112 rfl
   obtain ⟨T154, X154, e154, st154⟩ := yag X153 hx hZ hown hby (w_18 hw) e153 Fw150 116 (l345_10 o1 o2) [(.int 2), (.ref b142)] d2_116 d2_117 rfl
   obtain ⟨T155, X155, e155, st155⟩ := yag X154 hx hZ hown hby (w_20 hw) e154 f152 124 (l345_10 o1 o2) [(.int 2), (.ref b142), (.int 2), (.ref b142)] d2_124 d2_125 rfl
   have f156 := ((f120.keep K145 nin0).other W150 (Or.inr (slot_ne (Or.inl (w_35 hw)) (Or.inl (w_19 hw)) (by decide) (t := .int) (t' := (.array .byte)) (by decide) (by decide))))
   obtain ⟨T157, X157, e157, st157⟩ := yag X155 hx hZ hown hby (w_34 hw) e155 f156 129 (l345_10 o1 o2) [(.int 4), (.ref b142), (.int 2), (.ref b142)] d2_129 d2_130 rfl
   obtain ⟨T158, X158, e158, st158⟩ := yag X157 hx hZ hown hby (w_20 hw) e157 f152 135 (l345_10 o1 o2) [(.int 1), (.int 4), (.ref b142), (.int 2), (.ref b142)] d2_135 d2_136 rfl
   have lt159 : o1 < T113.heap.size := (Nat.lt_of_lt_of_le P0.lt K117.1)
   have ne160 : o1 ≠ b142 := Nat.ne_of_lt (Nat.lt_of_lt_of_le lt159 sz_b142)
   have f161 := (f146.other W150 (Ne.symm ne160))
   obtain ⟨T162, h162, L162, X162, e162, N162, K162, VV162, st162⟩ := cpA X158 hx hZ hown (own_w hw 48 rfl) (w_47 hw) (w_45 hw) (w_46 hw) e158 (us := [(.int ((((p10 &&& (255 : Int32)).toUInt32 >>> ((8 : Int32) &&& 31).toUInt32).toInt32).toInt8.toInt32)), (.int ((p10 &&& (255 : Int32)).toInt8.toInt32))]) f161 f161 (Or.inl ⟨rfl, rfl⟩) (by decide) (by decide) (by decide) (by decide) (by decide) rfl (by first | decide | exact (by decide : 4 + 2 ≤ 6)) N150 g_b142 (g := (mkF m 140 (l345_10 o1 o2) [(.int 2), (.int 4), (.ref b142), (.int 2), (.ref b142)])) rfl (by rw [hml]; rfl) rfl (hb hby d2_140) (by decide) (W := 0) (by show 2 * 0 + _ ≤ _; exact Nat.le_of_eq rfl) (by decide)
   have V162 : Arv Z h162 b142 k143 .byte (6 : Int32) [(.int ((((p9 &&& (255 : Int32)).toUInt32 >>> ((8 : Int32) &&& 31).toUInt32).toInt32).toInt8.toInt32)), (.int ((p9 &&& (255 : Int32)).toInt8.toInt32)), (.int ((((p10 &&& (255 : Int32)).toUInt32 >>> ((8 : Int32) &&& 31).toUInt32).toInt32).toInt8.toInt32)), (.int ((p10 &&& (255 : Int32)).toInt8.toInt32)), (.int ((((p10 &&& (255 : Int32)).toUInt32 >>> ((8 : Int32) &&& 31).toUInt32).toInt32).toInt8.toInt32)), (.int ((p10 &&& (255 : Int32)).toInt8.toInt32))] (.int 0) := VV162
   have O162 := Old.keep O150 K162 (allS g_b142 all0)
   have f163 := (f156.keep K162 (ninS ne160 nin0))
   obtain ⟨T164, X164, e164, st164⟩ := yg X162 hx hZ hown hby (w_34 hw) e162 f163 145 (l345_10 o1 o2) [(.ref o1)] d2_145
   have f165 := ((f149.wr W150).keep K162)
   obtain ⟨T166, h166, X166, e166, W166, st166⟩ := putF X164 hx hZ hown (host := "") (Or.inl (w_34 hw)) Via.refl e164 f163 f165 (Or.inl (w_35 hw)) (w_8 hw) (ty := .int) (by decide) rfl rfl (g := (mkF m 151 (l345_10 o1 o2) [(.int 3), (.ref o1)])) rfl rfl (hb hby d2_151)
   have N166 := Fr.snoc X166 N162 g_o1
   have Fw166 := f163.same W166
   have O166 := Old.wr O162 W166 g_o1
   have f167 := (((((P5.keep K117).keep K145).wr W150).keep K162).wr W166)
   have f168 := (f165.wr W166)
   have ne169 : o2 ≠ o1 := ne_exa f167 f168 (by decide)
   have lt170 : o2 < T113.heap.size := (Nat.lt_of_lt_of_le P4.lt K117.1)
   have ne171 : o2 ≠ b142 := Nat.ne_of_lt (Nat.lt_of_lt_of_le lt170 sz_b142)
   have f172 := (((((P4.keep K117 (ninS ne169 nin0)).keep K145 nin0).other W150 ne169).keep K162 (ninS ne171 nin0)).other W166 ne169)
   obtain ⟨cl173, Ar173, qa173, Sa173, Na173, Ha173, Ga173⟩ := id (f172)
   have hin173 := inb_of (j := (2 : Int32)) Sa173 ⟨by decide, by decide⟩
   have hat173 : cl173.slots[((2 : Int32)).toNatClampNeg]? = some (.int p7) := Has.at Ha173 hin173 rfl
   have f174 := ((Fw150.keep K162 (ninS ne160 nin0)).other W166 (Or.inr (slot_ne (Or.inl (w_19 hw)) (Or.inl (w_35 hw)) (by decide) (t := (.array .byte)) (t' := .int) (by decide) (by decide))))
   have f175 := ((f152.keep K162 (ninS ne160 nin0)).other W166 (Or.inr (slot_ne (Or.inl (w_21 hw)) (Or.inl (w_35 hw)) (by decide) (t := .int) (t' := .int) (by decide) (by decide))))
   have f176 := (V162.other W166 (Ne.symm ne160))
   have f177 := (((f147.wr W150).keep K162).wr W166)
   obtain ⟨_, T178, L178, X178, hQ178, st178⟩ := own_pb X166 hx hZ hown (y := yn6) (w_49 hw) (w_50 hw) (own_selp (mvT hZ (w_25 hw)) rfl (Cond.privateMethod_at (mvP hZ (w_51 hw) (args := #[]))) (mvT hZ (w_50 hw)) (by decide)) (w_51 hw) (own_w hw 52 rfl) (w_9 hw) e166 f168 (argsL := [(.int 1), (.int p7)]) (rest := []) (rm47 l Z a0 hw [] o1 b142 k143 (((((p9 &&& (255 : Int32)).toUInt32 >>> ((8 : Int32) &&& 31).toUInt32).toInt32).toInt8.toInt32)) (((p9 &&& (255 : Int32)).toInt8.toInt32)) (((((p10 &&& (255 : Int32)).toUInt32 >>> ((8 : Int32) &&& 31).toUInt32).toInt32).toInt8.toInt32)) (((p10 &&& (255 : Int32)).toInt8.toInt32)) (((((p10 &&& (255 : Int32)).toUInt32 >>> ((8 : Int32) &&& 31).toUInt32).toInt32).toInt8.toInt32)) (((p10 &&& (255 : Int32)).toInt8.toInt32)) p7 h166 n0 O166 g_o1 g_b142 f168 f174 f175 f176 f177) (g := (mkF m 175 (l345_2 o1 o2) [(.int p7), (.int 1), (.ref o1)])) rfl (by rw [hml]; rfl) rfl (hb hby d2_175) (lenOf pd4 rfl) (W := 0) (c1 := 3) (s1 := 13)
   obtain ⟨rfl, Nq179, K180, f181, f182⟩ := hQ178
   have N178 := Fr.app N166 Nq179
   obtain ⟨fs, hr, hrun, hended, hW, hsame⟩ := X178.leave (v := none) (fun _ => rfl)
   have KL : Keep h0 T178.heap [o1] := (((((((Keep.refl h0 [o1]).trans K117 (allS (Or.inl (List.mem_of_getElem? (i := 0) rfl)) all0)).trans K145 all0).wr W150 (Or.inl (List.mem_of_getElem? (i := 0) rfl))).trans K162 (allS (Or.inr (Nat.le_trans M113 sz_b142)) all0)).wr W166 (Or.inl (List.mem_of_getElem? (i := 0) rfl))).trans K180 (allS (Or.inr (Nat.le_trans M113 sz_b142)) all0))
   have f183 := (f168.keep K180)
   have f184 := (f174.keep K180 (ninS ne160 nin0))
   have f185 := (Fw166.keep K180 (ninS ne160 nin0))
   have f186 := (f175.keep K180 (ninS ne160 nin0))
   refine ⟨_, _, pre134 _ ?_, hrun, hended, _, _, rfl, ?_, ⟨_, rfl⟩, hW, hsame.mono (by decide) (by decide)⟩
   ·
    refine st133 _ ?_
    refine st141 _ ?_
    refine st150 _ ?_
    refine st151 _ ?_
    refine yin X151 hx hby d2_110 rfl ?_
    show Steps p.tables e below (T151.setTop (mkF m 111 (l345_10 o1 o2) [(.int 1), (.ref b142)])) _
    refine st153 _ ?_
    refine XS.imul X153.here hx rfl (hb hby d2_115) rfl ?_
    refine st154 _ ?_
    refine yin X154 hx hby d2_120 rfl ?_
    refine yil X154 hx hby d2_121 rfl ?_
    refine yad X154 hx hby d2_123 ?_
    refine st155 _ ?_
    refine XS.imul X155.here hx rfl (hb hby d2_128) rfl ?_
    refine st157 _ ?_
    refine yin X157 hx hby d2_133 rfl ?_
    refine ysu X157 hx hby d2_134 ?_
    refine st158 _ ?_
    refine XS.imul X158.here hx rfl (hb hby d2_139) rfl ?_
    refine st162 _ ?_
    refine yan X162 hx hby d2_143 rfl rfl ?_
    refine XS.dup X162.here hx rfl (hb hby d2_144) rfl rfl ?_
    refine st164 _ ?_
    refine yil X164 hx hby d2_148 rfl ?_
    refine yad X164 hx hby d2_150 ?_
    refine st166 _ ?_
    refine XS.iconst X166.here hx rfl (hb hby d2_154) ?_
    refine yis X166 hx hby d2_155 (l' := (l345_2 o1 o2)) rfl ?_
    refine yil X166 hx hby d2_157 rfl ?_
    refine yil X166 hx hby d2_159 rfl ?_
    refine yno X166 hx hby d2_161 (tlt (by decide : (0 : Int32) < (1 : Int32))).2.1 ?_
    refine yan X166 hx hby d2_164 rfl rfl ?_
    refine yin X166 hx hby d2_165 rfl ?_
    refine yil X166 hx hby d2_166 rfl ?_
    refine yad X166 hx hby d2_168 ?_
    refine yan X166 hx hby d2_169 rfl rfl ?_
    refine yin X166 hx hby d2_170 rfl ?_
    refine yil X166 hx hby d2_171 rfl ?_
    refine yad X166 hx hby d2_173 ?_
    refine X166.iaload hx (j := (2 : Int32)) (v := (.int p7)) (by rw [e166]; exact Ar173.1) (State.isArrayOf_alike hZ.alike Ar173.2.1) Ar173.2.2 hin173 hat173 (g := (mkF m 174 (l345_2 o1 o2) [(.int 2), (.ref o2), (.int 1), (.ref o1)])) rfl rfl (hb hby d2_174) _ ?_
    refine st178 _ ?_
    refine XS.iinc X178.here hx rfl (hb hby d2_178) rfl (l' := (l345_3 o1 o2)) rfl ?_
    show Steps p.tables e below (T178.setTop (mkF m 181 (l345_3 o1 o2) [])) _
    refine ygo X178 hx hby 181 157 rfl d2_181 (by decide) ?_
    refine yil X178 hx hby d2_157 rfl ?_
    refine yil X178 hx hby d2_159 rfl ?_
    refine yye X178 hx hby 161 184 rfl d2_161 (flt (by decide : ¬ ((1 : Int32) < (1 : Int32)))).2.1 (by decide) ?_
    show Steps p.tables e below (T178.setTop (mkF m 184 (l345_3 o1 o2) [])) _
    exact X178.returnOut hx hret (hb hby d2_184) hr
   ·
    show Q49 Z w1 kw1 o1 o2 o3 kc4 p5 p6 p7 kc8 p9 p10 h0 n0 _ T178.heap _
    exact (Or.inr (Or.inl ⟨b142, k143, hc46, rfl, N178, KL, (Nat.le_trans M113 sz_b142), f183, f184, f185, f186, f181, f182⟩))
 ·
  obtain ⟨T187, X187, e187, st187⟩ := yag X47 hx hZ hown hby (w_20 hw) e47 P3 40 (l345_8 o1 o2) [(.int 3)] d2_40 d2_41 rfl
  obtain ⟨_, T188, L188, X188, hQ188, st188⟩ := own_pb X187 hx hZ hown (y := yn7) (own_w hw 65 rfl) (own_w hw 66 rfl) (own_selp (mvT hZ (w_25 hw)) rfl (Cond.privateMethod_at (mvP hZ (own_w hw 67 rfl) (args := #[]))) (mvT hZ (own_w hw 66 rfl)) (by decide)) (own_w hw 67 rfl) (own_w hw 68 rfl) (w_9 hw) e187 P0 (argsL := [(.int 3)]) (rest := []) (rm25 l Z a0 hw w1 kw1 G [] o1 o3 kc8 p9 p10 h0 n0 O0 g_o1 g_o3 P0 P1 P2 P3 P6 P7) (g := (mkF m 50 (l345_8 o1 o2) [(.int 3), (.ref o1)])) rfl (by rw [hml]; rfl) rfl (hb hby d2_50) (lenOf pd5 rfl) (W := 0) (c1 := 2) (s1 := 9)
  obtain ⟨b189, k190, rfl, Nq191, K192, sz_b189, f193, f194, f195, f196, f197, f198⟩ := hQ188
  have N188 := Fr.app N47 Nq191
  have g_b189 : n0 ≤ b189 := Nat.le_trans (own_oz O0) sz_b189
  have M188 : h0.size ≤ T188.heap.size := Nat.le_trans (Nat.le_refl _) K192.1
  have O188 := Old.keep O0 K192 (allS g_o1 all0)
  obtain ⟨T199, X199, e199, st199⟩ := yag X188 hx hZ hown hby (w_34 hw) rfl f195 53 (l345_8 o1 o2) [] d2_53 d2_54 rfl
  obtain ⟨T200, X200, e200, st200⟩ := yag X199 hx hZ hown hby (w_20 hw) e199 f196 60 (l345_8 o1 o2) [(.int 3)] d2_60 d2_61 rfl
  obtain ⟨T201, X201, e201, st201⟩ := yag X200 hx hZ hown hby (w_18 hw) e200 f194 69 (l345_11 o1 o2) [(.int 9)] d2_69 d2_70 rfl
  obtain ⟨cl202, Ar202, qa202, Sa202, Na202, Ha202, Ga202⟩ := id (f197)
  obtain ⟨T203, X203, e203, st203⟩ := yag X201 hx hZ hown hby (w_18 hw) e201 f194 78 (l345_11 o1 o2) [(.ref o1)] d2_78 d2_79 rfl
  obtain ⟨T204, X204, e204, st204⟩ := yag X203 hx hZ hown hby (w_18 hw) e203 f194 84 (l345_11 o1 o2) [(.int 9), (.ref b189), (.ref o1)] d2_84 d2_85 rfl
  obtain ⟨cl205, Ar205, qa205, Sa205, Na205, Ha205, Ga205⟩ := id (f197)
  obtain ⟨T206, X206, e206, st206⟩ := yag X204 hx hZ hown hby (w_18 hw) e204 f194 89 (l345_11 o1 o2) [(.int 6), (.int 9), (.ref b189), (.ref o1)] d2_89 d2_90 rfl
  obtain ⟨cl207, Ar207, qa207, Sa207, Na207, Ha207, Ga207⟩ := id (f197)
  obtain ⟨_, T208, L208, X208, hQ208, st208⟩ := own_cs X206 hx hZ hown (y := yn3) (w_30 hw) (w_31 hw) (w_33 hw) (w_32 hw) e206 (argsL := [(.int 9), (.int 9)]) (rest := [(.ref b189), (.ref o1)]) (rm4 l Z a0 hw [] ((9 : Int32)) ((9 : Int32)) T188.heap n0 O188 ) (g := (mkF m 97 (l345_11 o1 o2) [(.int 9), (.int 9), (.ref b189), (.ref o1)])) rfl (by rw [hml]; rfl) rfl (hb hby d2_97) (lenOf pd0 rfl) (W := 2) (c1 := 2) (s1 := 9)
  have pre209 : Go p e below T206 (mkF m 97 (l345_11 o1 o2) [(.int 9), (.int 9), (.ref b189), (.ref o1)]) E0 := fun t k => by
   refine pre47 _ ?_
   refine yil X47 hx hby d2_38 rfl ?_
   refine st187 _ ?_
   refine yno X187 hx hby d2_44 (tlt (by decide : (1 : Int32) < (3 : Int32))).2.2.2 ?_
   refine yan X187 hx hby d2_47 rfl rfl ?_
   refine yil X187 hx hby d2_48 rfl ?_
   refine st188 _ ?_
   refine st199 _ ?_
   refine yil X199 hx hby d2_57 rfl ?_
   refine yad X199 hx hby d2_59 ?_
   refine st200 _ ?_
   refine XS.imul X200.here hx rfl (hb hby d2_64) rfl ?_
   refine yis X200 hx hby d2_65 (l' := (l345_11 o1 o2)) rfl ?_
   refine yil X200 hx hby d2_67 rfl ?_
   refine st201 _ ?_
   refine X201.arraylength hx (by rw [e201]; exact Ar202.1) (State.isArrayOf_alike hZ.alike Ar202.2.1) (g := (mkF m 73 (l345_11 o1 o2) [(.ref b189), (.int 9)])) rfl rfl (hb hby d2_73) _ ?_
   rw [len_of Sa202 Na202]
   refine yno X201 hx hby d2_74 (tlt (by decide : (6 : Int32) < (9 : Int32))).2.2.2 ?_
   refine yan X201 hx hby d2_77 rfl rfl ?_
   refine st203 _ ?_
   refine yil X203 hx hby d2_82 rfl ?_
   refine st204 _ ?_
   refine X204.arraylength hx (by rw [e204]; exact Ar205.1) (State.isArrayOf_alike hZ.alike Ar205.2.1) (g := (mkF m 88 (l345_11 o1 o2) [(.ref b189), (.int 9), (.ref b189), (.ref o1)])) rfl rfl (hb hby d2_88) _ ?_
   rw [len_of Sa205 Na205]
   refine st206 _ ?_
   refine X206.arraylength hx (by rw [e206]; exact Ar207.1) (State.isArrayOf_alike hZ.alike Ar207.2.1) (g := (mkF m 93 (l345_11 o1 o2) [(.ref b189), (.int 6), (.int 9), (.ref b189), (.ref o1)])) rfl rfl (hb hby d2_93) _ ?_
   rw [len_of Sa207 Na207]
   refine XS.iconst X206.here hx rfl (hb hby d2_94) ?_
   refine XS.idiv X206.here hx rfl (hb hby d2_95) rfl (by decide : ¬ ((2 : Int32) = (0 : Int32))) ?_
   refine yad X206 hx hby d2_96 ?_
   exact k
  rcases hQ208 with ⟨hc210, rfl, Nq211, e212⟩ | ⟨hc213, rfl, Nq214, e215⟩
  ·
   exact absurd hc210 (by decide : ¬ ((9 : Int32) < (9 : Int32)))
  ·
   have N208 := Fr.app N188 Nq214
   obtain ⟨_, T216, L216, X216, hQ216, st216⟩ := own_cs X208 hx hZ hown (y := yn5) (own_w hw 36 rfl) (w_37 hw) (own_w hw 39 rfl) (w_38 hw) e215 (argsL := [(.ref b189), (.int 9)]) (rest := [(.ref o1)]) (rm26 l Z a0 hw [] b189 k190 (((((((p9 &&& (255 : Int32)).toUInt32 >>> ((8 : Int32) &&& 31).toUInt32).toInt32).toUInt32 >>> ((8 : Int32) &&& 31).toUInt32).toInt32).toInt8.toInt32)) (((((p9 &&& (255 : Int32)).toUInt32 >>> ((8 : Int32) &&& 31).toUInt32).toInt32).toInt8.toInt32)) (((p9 &&& (255 : Int32)).toInt8.toInt32)) (((((((p10 &&& (255 : Int32)).toUInt32 >>> ((8 : Int32) &&& 31).toUInt32).toInt32).toUInt32 >>> ((8 : Int32) &&& 31).toUInt32).toInt32).toInt8.toInt32)) (((((p10 &&& (255 : Int32)).toUInt32 >>> ((8 : Int32) &&& 31).toUInt32).toInt32).toInt8.toInt32)) (((p10 &&& (255 : Int32)).toInt8.toInt32)) T188.heap n0 O188 g_b189 f197) (g := (mkF m 100 (l345_11 o1 o2) [(.int 9), (.ref b189), (.ref o1)])) rfl (by rw [hml]; rfl) rfl (hb hby d2_100) (lenOf pd3 rfl) (W := 1) (c1 := 3) (s1 := 18)
   obtain ⟨b217, k218, rfl, Nq219, K220, sz_b217, f221, f222⟩ := hQ216
   have N216 := Fr.app N208 Nq219
   have g_b217 : n0 ≤ b217 := Nat.le_trans (own_oz O188) sz_b217
   have O216 := Old.keep O188 K220 all0
   have f223 := (f194.keep K220 nin0)
   have f224 := (f193.keep K220)
   obtain ⟨T225, h225, X225, e225, W225, st225⟩ := putF X216 hx hZ hown (host := "") (Or.inl (w_18 hw)) Via.refl rfl f223 f224 (Or.inl (w_19 hw)) (w_8 hw) (ty := (.array .byte)) (by decide) rfl rfl (g := (mkF m 103 (l345_11 o1 o2) [(.ref b217), (.ref o1)])) rfl rfl (hb hby d2_103)
   have N225 := Fr.snoc X225 N216 g_o1
   have Fw225 := f223.same W225
   have O225 := Old.wr O216 W225 g_o1
   obtain ⟨T226, X226, e226, st226⟩ := yag X225 hx hZ hown hby (w_18 hw) e225 Fw225 106 (l345_11 o1 o2) [] d2_106 d2_107 rfl
   have f227 := ((f196.keep K220 nin0).other W225 (Or.inr (slot_ne (Or.inl (w_21 hw)) (Or.inl (w_19 hw)) (by decide) (t := .int) (t' := (.array .byte)) (by decide) (by decide))))
   obtain ⟨T228, X228, e228, st228⟩ := yag X226 hx hZ hown hby (w_20 hw) e226 f227 111 (l345_11 o1 o2) [(.int 1), (.ref b217)] d2_111 d2_112 rfl
   obtain ⟨T229, X229, e229, st229⟩ := yag X228 hx hZ hown hby (w_18 hw) e228 Fw225 116 (l345_11 o1 o2) [(.int 3), (.ref b217)] d2_116 d2_117 rfl
   obtain ⟨T230, X230, e230, st230⟩ := yag X229 hx hZ hown hby (w_20 hw) e229 f227 124 (l345_11 o1 o2) [(.int 2), (.ref b217), (.int 3), (.ref b217)] d2_124 d2_125 rfl
   have f231 := ((f195.keep K220 nin0).other W225 (Or.inr (slot_ne (Or.inl (w_35 hw)) (Or.inl (w_19 hw)) (by decide) (t := .int) (t' := (.array .byte)) (by decide) (by decide))))
   obtain ⟨T232, X232, e232, st232⟩ := yag X230 hx hZ hown hby (w_34 hw) e230 f231 129 (l345_11 o1 o2) [(.int 6), (.ref b217), (.int 3), (.ref b217)] d2_129 d2_130 rfl
   obtain ⟨T233, X233, e233, st233⟩ := yag X232 hx hZ hown hby (w_20 hw) e232 f227 135 (l345_11 o1 o2) [(.int 1), (.int 6), (.ref b217), (.int 3), (.ref b217)] d2_135 d2_136 rfl
   have lt234 : o1 < T188.heap.size := (Nat.lt_of_lt_of_le P0.lt K192.1)
   have ne235 : o1 ≠ b217 := Nat.ne_of_lt (Nat.lt_of_lt_of_le lt234 sz_b217)
   have f236 := (f221.other W225 (Ne.symm ne235))
   obtain ⟨T237, h237, L237, X237, e237, N237, K237, VV237, st237⟩ := cpA X233 hx hZ hown (own_w hw 48 rfl) (w_47 hw) (w_45 hw) (w_46 hw) e233 (us := [(.int ((((((p10 &&& (255 : Int32)).toUInt32 >>> ((8 : Int32) &&& 31).toUInt32).toInt32).toUInt32 >>> ((8 : Int32) &&& 31).toUInt32).toInt32).toInt8.toInt32)), (.int ((((p10 &&& (255 : Int32)).toUInt32 >>> ((8 : Int32) &&& 31).toUInt32).toInt32).toInt8.toInt32)), (.int ((p10 &&& (255 : Int32)).toInt8.toInt32))]) f236 f236 (Or.inl ⟨rfl, rfl⟩) (by decide) (by decide) (by decide) (by decide) (by decide) rfl (by first | decide | exact (by decide : 6 + 3 ≤ 9)) N225 g_b217 (g := (mkF m 140 (l345_11 o1 o2) [(.int 3), (.int 6), (.ref b217), (.int 3), (.ref b217)])) rfl (by rw [hml]; rfl) rfl (hb hby d2_140) (by decide) (W := 0) (by show 2 * 0 + _ ≤ _; exact Nat.le_of_eq rfl) (by decide)
   have V237 : Arv Z h237 b217 k218 .byte (9 : Int32) [(.int ((((((p9 &&& (255 : Int32)).toUInt32 >>> ((8 : Int32) &&& 31).toUInt32).toInt32).toUInt32 >>> ((8 : Int32) &&& 31).toUInt32).toInt32).toInt8.toInt32)), (.int ((((p9 &&& (255 : Int32)).toUInt32 >>> ((8 : Int32) &&& 31).toUInt32).toInt32).toInt8.toInt32)), (.int ((p9 &&& (255 : Int32)).toInt8.toInt32)), (.int ((((((p10 &&& (255 : Int32)).toUInt32 >>> ((8 : Int32) &&& 31).toUInt32).toInt32).toUInt32 >>> ((8 : Int32) &&& 31).toUInt32).toInt32).toInt8.toInt32)), (.int ((((p10 &&& (255 : Int32)).toUInt32 >>> ((8 : Int32) &&& 31).toUInt32).toInt32).toInt8.toInt32)), (.int ((p10 &&& (255 : Int32)).toInt8.toInt32)), (.int ((((((p10 &&& (255 : Int32)).toUInt32 >>> ((8 : Int32) &&& 31).toUInt32).toInt32).toUInt32 >>> ((8 : Int32) &&& 31).toUInt32).toInt32).toInt8.toInt32)), (.int ((((p10 &&& (255 : Int32)).toUInt32 >>> ((8 : Int32) &&& 31).toUInt32).toInt32).toInt8.toInt32)), (.int ((p10 &&& (255 : Int32)).toInt8.toInt32))] (.int 0) := VV237
   have O237 := Old.keep O225 K237 (allS g_b217 all0)
   have f238 := (f231.keep K237 (ninS ne235 nin0))
   obtain ⟨T239, X239, e239, st239⟩ := yg X237 hx hZ hown hby (w_34 hw) e237 f238 145 (l345_11 o1 o2) [(.ref o1)] d2_145
   have f240 := ((f224.wr W225).keep K237)
   obtain ⟨T241, h241, X241, e241, W241, st241⟩ := putF X239 hx hZ hown (host := "") (Or.inl (w_34 hw)) Via.refl e239 f238 f240 (Or.inl (w_35 hw)) (w_8 hw) (ty := .int) (by decide) rfl rfl (g := (mkF m 151 (l345_11 o1 o2) [(.int 3), (.ref o1)])) rfl rfl (hb hby d2_151)
   have N241 := Fr.snoc X241 N237 g_o1
   have Fw241 := f238.same W241
   have O241 := Old.wr O237 W241 g_o1
   have f242 := (((((P5.keep K192).keep K220).wr W225).keep K237).wr W241)
   have f243 := (f240.wr W241)
   have ne244 : o2 ≠ o1 := ne_exa f242 f243 (by decide)
   have lt245 : o2 < T188.heap.size := (Nat.lt_of_lt_of_le P4.lt K192.1)
   have ne246 : o2 ≠ b217 := Nat.ne_of_lt (Nat.lt_of_lt_of_le lt245 sz_b217)
   have f247 := (((((P4.keep K192 (ninS ne244 nin0)).keep K220 nin0).other W225 ne244).keep K237 (ninS ne246 nin0)).other W241 ne244)
   obtain ⟨cl248, Ar248, qa248, Sa248, Na248, Ha248, Ga248⟩ := id (f247)
   have hin248 := inb_of (j := (2 : Int32)) Sa248 ⟨by decide, by decide⟩
   have hat248 : cl248.slots[((2 : Int32)).toNatClampNeg]? = some (.int p7) := Has.at Ha248 hin248 rfl
   have f249 := ((Fw225.keep K237 (ninS ne235 nin0)).other W241 (Or.inr (slot_ne (Or.inl (w_19 hw)) (Or.inl (w_35 hw)) (by decide) (t := (.array .byte)) (t' := .int) (by decide) (by decide))))
   have f250 := ((f227.keep K237 (ninS ne235 nin0)).other W241 (Or.inr (slot_ne (Or.inl (w_21 hw)) (Or.inl (w_35 hw)) (by decide) (t := .int) (t' := .int) (by decide) (by decide))))
   have f251 := (V237.other W241 (Ne.symm ne235))
   have f252 := (((f222.wr W225).keep K237).wr W241)
   obtain ⟨_, T253, L253, X253, hQ253, st253⟩ := own_pb X241 hx hZ hown (y := yn6) (w_49 hw) (w_50 hw) (own_selp (mvT hZ (w_25 hw)) rfl (Cond.privateMethod_at (mvP hZ (w_51 hw) (args := #[]))) (mvT hZ (w_50 hw)) (by decide)) (w_51 hw) (own_w hw 52 rfl) (w_9 hw) e241 f243 (argsL := [(.int 1), (.int p7)]) (rest := []) (rm48 l Z a0 hw [] o1 b217 k218 (((((((p9 &&& (255 : Int32)).toUInt32 >>> ((8 : Int32) &&& 31).toUInt32).toInt32).toUInt32 >>> ((8 : Int32) &&& 31).toUInt32).toInt32).toInt8.toInt32)) (((((p9 &&& (255 : Int32)).toUInt32 >>> ((8 : Int32) &&& 31).toUInt32).toInt32).toInt8.toInt32)) (((p9 &&& (255 : Int32)).toInt8.toInt32)) (((((((p10 &&& (255 : Int32)).toUInt32 >>> ((8 : Int32) &&& 31).toUInt32).toInt32).toUInt32 >>> ((8 : Int32) &&& 31).toUInt32).toInt32).toInt8.toInt32)) (((((p10 &&& (255 : Int32)).toUInt32 >>> ((8 : Int32) &&& 31).toUInt32).toInt32).toInt8.toInt32)) (((p10 &&& (255 : Int32)).toInt8.toInt32)) (((((((p10 &&& (255 : Int32)).toUInt32 >>> ((8 : Int32) &&& 31).toUInt32).toInt32).toUInt32 >>> ((8 : Int32) &&& 31).toUInt32).toInt32).toInt8.toInt32)) (((((p10 &&& (255 : Int32)).toUInt32 >>> ((8 : Int32) &&& 31).toUInt32).toInt32).toInt8.toInt32)) (((p10 &&& (255 : Int32)).toInt8.toInt32)) p7 h241 n0 O241 g_o1 g_b217 f243 f249 f250 f251 f252) (g := (mkF m 175 (l345_4 o1 o2) [(.int p7), (.int 1), (.ref o1)])) rfl (by rw [hml]; rfl) rfl (hb hby d2_175) (lenOf pd4 rfl) (W := 0) (c1 := 3) (s1 := 18)
   obtain ⟨rfl, Nq254, K255, f256, f257⟩ := hQ253
   have N253 := Fr.app N241 Nq254
   obtain ⟨fs, hr, hrun, hended, hW, hsame⟩ := X253.leave (v := none) (fun _ => rfl)
   have KL : Keep h0 T253.heap [o1] := (((((((Keep.refl h0 [o1]).trans K192 (allS (Or.inl (List.mem_of_getElem? (i := 0) rfl)) all0)).trans K220 all0).wr W225 (Or.inl (List.mem_of_getElem? (i := 0) rfl))).trans K237 (allS (Or.inr (Nat.le_trans M188 sz_b217)) all0)).wr W241 (Or.inl (List.mem_of_getElem? (i := 0) rfl))).trans K255 (allS (Or.inr (Nat.le_trans M188 sz_b217)) all0))
   have f258 := (f243.keep K255)
   have f259 := (f249.keep K255 (ninS ne235 nin0))
   have f260 := (Fw241.keep K255 (ninS ne235 nin0))
   have f261 := (f250.keep K255 (ninS ne235 nin0))
   refine ⟨_, _, pre209 _ ?_, hrun, hended, _, _, rfl, ?_, ⟨_, rfl⟩, hW, hsame.mono (by decide) (by decide)⟩
   ·
    refine st208 _ ?_
    refine st216 _ ?_
    refine st225 _ ?_
    refine st226 _ ?_
    refine yin X226 hx hby d2_110 rfl ?_
    show Steps p.tables e below (T226.setTop (mkF m 111 (l345_11 o1 o2) [(.int 1), (.ref b217)])) _
    refine st228 _ ?_
    refine XS.imul X228.here hx rfl (hb hby d2_115) rfl ?_
    refine st229 _ ?_
    refine yin X229 hx hby d2_120 rfl ?_
    refine yil X229 hx hby d2_121 rfl ?_
    refine yad X229 hx hby d2_123 ?_
    refine st230 _ ?_
    refine XS.imul X230.here hx rfl (hb hby d2_128) rfl ?_
    refine st232 _ ?_
    refine yin X232 hx hby d2_133 rfl ?_
    refine ysu X232 hx hby d2_134 ?_
    refine st233 _ ?_
    refine XS.imul X233.here hx rfl (hb hby d2_139) rfl ?_
    refine st237 _ ?_
    refine yan X237 hx hby d2_143 rfl rfl ?_
    refine XS.dup X237.here hx rfl (hb hby d2_144) rfl rfl ?_
    refine st239 _ ?_
    refine yil X239 hx hby d2_148 rfl ?_
    refine yad X239 hx hby d2_150 ?_
    refine st241 _ ?_
    refine XS.iconst X241.here hx rfl (hb hby d2_154) ?_
    refine yis X241 hx hby d2_155 (l' := (l345_4 o1 o2)) rfl ?_
    refine yil X241 hx hby d2_157 rfl ?_
    refine yil X241 hx hby d2_159 rfl ?_
    refine yno X241 hx hby d2_161 (tlt (by decide : (0 : Int32) < (1 : Int32))).2.1 ?_
    refine yan X241 hx hby d2_164 rfl rfl ?_
    refine yin X241 hx hby d2_165 rfl ?_
    refine yil X241 hx hby d2_166 rfl ?_
    refine yad X241 hx hby d2_168 ?_
    refine yan X241 hx hby d2_169 rfl rfl ?_
    refine yin X241 hx hby d2_170 rfl ?_
    refine yil X241 hx hby d2_171 rfl ?_
    refine yad X241 hx hby d2_173 ?_
    refine X241.iaload hx (j := (2 : Int32)) (v := (.int p7)) (by rw [e241]; exact Ar248.1) (State.isArrayOf_alike hZ.alike Ar248.2.1) Ar248.2.2 hin248 hat248 (g := (mkF m 174 (l345_4 o1 o2) [(.int 2), (.ref o2), (.int 1), (.ref o1)])) rfl rfl (hb hby d2_174) _ ?_
    refine st253 _ ?_
    refine XS.iinc X253.here hx rfl (hb hby d2_178) rfl (l' := (l345_5 o1 o2)) rfl ?_
    show Steps p.tables e below (T253.setTop (mkF m 181 (l345_5 o1 o2) [])) _
    refine ygo X253 hx hby 181 157 rfl d2_181 (by decide) ?_
    refine yil X253 hx hby d2_157 rfl ?_
    refine yil X253 hx hby d2_159 rfl ?_
    refine yye X253 hx hby 161 184 rfl d2_161 (flt (by decide : ¬ ((1 : Int32) < (1 : Int32)))).2.1 (by decide) ?_
    show Steps p.tables e below (T253.setTop (mkF m 184 (l345_5 o1 o2) [])) _
    exact X253.returnOut hx hret (hb hby d2_184) hr
   ·
    show Q49 Z w1 kw1 o1 o2 o3 kc4 p5 p6 p7 kc8 p9 p10 h0 n0 _ T253.heap _
    exact (Or.inr (Or.inr ⟨b217, k218, rfl, N253, KL, (Nat.le_trans M188 sz_b217), f258, f259, f260, f261, f256, f257⟩))
def l346_0 (o1 o2 : Addr) : Array Slot := #[.val (.ref o1), .val (.int 1), .val (.ref o2), .val (.int 2), .val (.int 1), .val (.int 2), .val (.int 6), .val (.int 0)]
def l346_1 (o1 o2 : Addr) : Array Slot := #[.val (.ref o1), .val (.int 1), .val (.ref o2), .val (.int 2), .val (.int 1), .val (.int 2), .val (.int 6), .val (.int 1)]
def l346_2 (o1 o2 : Addr) : Array Slot := #[.val (.ref o1), .val (.int 1), .val (.ref o2), .val (.int 2), .val (.int 1), .val (.int 3), .val (.int 9), .val (.int 0)]
def l346_3 (o1 o2 : Addr) : Array Slot := #[.val (.ref o1), .val (.int 1), .val (.ref o2), .val (.int 2), .val (.int 1), .val (.int 3), .val (.int 9), .val (.int 1)]
def l346_4 (o1 o2 : Addr) : Array Slot := #[.val (.ref o1), .val (.int 1), .val (.ref o2), .val (.int 2), .val (.int 1), .val (.int 2), .val (.int 3), .unset]
def l346_5 (o1 o2 : Addr) : Array Slot := #[.val (.ref o1), .val (.int 1), .val (.ref o2), .val (.int 2), .val (.int 1), .val (.int 3), .val (.int 3), .unset]
def l346_6 (o1 o2 : Addr) : Array Slot := #[.val (.ref o1), .val (.int 1), .val (.ref o2), .val (.int 2), .val (.int 1), .val (.int 2), .val (.int 2), .unset]
def l346_7 (o1 o2 : Addr) : Array Slot := #[.val (.ref o1), .val (.int 1), .val (.ref o2), .val (.int 2), .val (.int 1), .val (.int 2), .val (.int 6), .unset]
def l346_8 (o1 o2 : Addr) : Array Slot := #[.val (.ref o1), .val (.int 1), .val (.ref o2), .val (.int 2), .val (.int 1), .val (.int 3), .val (.int 9), .unset]
theorem ef50 (m : MethodId) (x0 : Addr) (x1 : Int32) (x2 : Addr) (x3 x4 : Int32) : entryFrame m #[(.ref x0), (.int x1), (.ref x2), (.int x3), (.int x4)] 8 = mkF m 0 #[.val (.ref x0), .val (.int x1), .val (.ref x2), .val (.int x3), .val (.int x4), .unset, .unset, .unset] [] := by first | (simp [entryFrame, mkF, argsToLocals, Value.category]; done) | rfl
def Q50 (Z : State) (w1 : Addr) (kw1 : ClassId) (o1 o2 o3 : Addr) (kc4 : ClassId) (p5 p6 p7 : Int32) (kc8 : ClassId) (p9 p10 : Int32) (p11 p12 : Int32) (h0 : Heap) (n0 : Nat) (v : Option Value) (h : Heap) (L : List Loc) : Prop :=
  (∃ b65 : Addr, ∃ k66 : ClassId, (p7 < (65536 : Int32)) ∧ v = none ∧ Fr n0 L ∧ Keep h0 h [o1] ∧ h0.size ≤ b65 ∧ (Exa Z h o1 "com/example/driftless/driftless/CodePoints") ∧ (Fld Z h o1 "com/example/driftless/driftless/CodePoints" "bytes" "[B" (.ref b65)) ∧ (Fld Z h o1 "com/example/driftless/driftless/CodePoints" "length" "I" (.int 3)) ∧ (Fld Z h o1 "com/example/driftless/driftless/CodePoints" "width" "I" (.int 2)) ∧ (Arv Z h b65 k66 .byte (6 : Int32) [(.int p9), (.int p10), (.int (((p7.toUInt32 >>> ((8 : Int32) &&& 31).toUInt32).toInt32).toInt8.toInt32)), (.int (p7.toInt8.toInt32)), (.int p11), (.int p12)] (.int 0)) ∧ (Exa Z h b65 "[B"))
  ∨ (∃ b140 : Addr, ∃ k141 : ClassId, v = none ∧ Fr n0 L ∧ Keep h0 h [o1] ∧ h0.size ≤ b140 ∧ (Exa Z h o1 "com/example/driftless/driftless/CodePoints") ∧ (Fld Z h o1 "com/example/driftless/driftless/CodePoints" "bytes" "[B" (.ref b140)) ∧ (Fld Z h o1 "com/example/driftless/driftless/CodePoints" "length" "I" (.int 3)) ∧ (Fld Z h o1 "com/example/driftless/driftless/CodePoints" "width" "I" (.int 3)) ∧ (Arv Z h b140 k141 .byte (9 : Int32) [(.int ((((((((p9 &&& (255 : Int32)) <<< ((8 : Int32) &&& 31)) ||| (p10 &&& (255 : Int32))).toUInt32 >>> ((8 : Int32) &&& 31).toUInt32).toInt32).toUInt32 >>> ((8 : Int32) &&& 31).toUInt32).toInt32).toInt8.toInt32)), (.int ((((((p9 &&& (255 : Int32)) <<< ((8 : Int32) &&& 31)) ||| (p10 &&& (255 : Int32))).toUInt32 >>> ((8 : Int32) &&& 31).toUInt32).toInt32).toInt8.toInt32)), (.int ((((p9 &&& (255 : Int32)) <<< ((8 : Int32) &&& 31)) ||| (p10 &&& (255 : Int32))).toInt8.toInt32)), (.int (((((p7.toUInt32 >>> ((8 : Int32) &&& 31).toUInt32).toInt32).toUInt32 >>> ((8 : Int32) &&& 31).toUInt32).toInt32).toInt8.toInt32)), (.int (((p7.toUInt32 >>> ((8 : Int32) &&& 31).toUInt32).toInt32).toInt8.toInt32)), (.int (p7.toInt8.toInt32)), (.int ((((((((p11 &&& (255 : Int32)) <<< ((8 : Int32) &&& 31)) ||| (p12 &&& (255 : Int32))).toUInt32 >>> ((8 : Int32) &&& 31).toUInt32).toInt32).toUInt32 >>> ((8 : Int32) &&& 31).toUInt32).toInt32).toInt8.toInt32)), (.int ((((((p11 &&& (255 : Int32)) <<< ((8 : Int32) &&& 31)) ||| (p12 &&& (255 : Int32))).toUInt32 >>> ((8 : Int32) &&& 31).toUInt32).toInt32).toInt8.toInt32)), (.int ((((p11 &&& (255 : Int32)) <<< ((8 : Int32) &&& 31)) ||| (p12 &&& (255 : Int32))).toInt8.toInt32))] (.int 0)) ∧ (Exa Z h b140 "[B"))
set_option maxRecDepth 65536 in
set_option maxHeartbeats 40000000 in
theorem rm50 (l : Launch) (Z : State) (a0 : Array Value) (hw : HW a0 Z) (w1 : Addr) (kw1 : ClassId) (G : GW Z w1 kw1) (ws : List Jvm.Cond) (o1 o2 o3 : Addr) (kc4 : ClassId) (p5 p6 p7 : Int32) (kc8 : ClassId) (p9 p10 : Int32) (p11 p12 : Int32) (h0 : Heap) (n0 : Nat) (O0 : Old Z n0 h0) (g_o1 : n0 ≤ o1) (g_o2 : n0 ≤ o2) (g_o3 : n0 ≤ o3) (P0 : Exa Z h0 o1 "com/example/driftless/driftless/CodePoints") (P1 : Fld Z h0 o1 "com/example/driftless/driftless/CodePoints" "bytes" "[B" (.ref o3)) (P2 : Fld Z h0 o1 "com/example/driftless/driftless/CodePoints" "length" "I" (.int 2)) (P3 : Fld Z h0 o1 "com/example/driftless/driftless/CodePoints" "width" "I" (.int 2)) (P4 : Arv Z h0 o2 kc4 .int (3 : Int32) [(.int p5), (.int p6), (.int p7)] (.int 0)) (P5 : Exa Z h0 o2 "[I") (P6 : Arv Z h0 o3 kc8 .byte (4 : Int32) [(.int p9), (.int p10), (.int p11), (.int p12)] (.int 0)) (P7 : Exa Z h0 o3 "[B") :
    MF l yn8 prog_6_method_5_code 8 none ws ({ frames := 3, cells := 3, slots := 18, locals := 40 } : Room) #[(.ref o1), (.int 1), (.ref o2), (.int 2), (.int 1)] Z h0 (Q50 Z w1 kw1 o1 o2 o3 kc4 p5 p6 p7 kc8 p9 p10 p11 p12 h0 n0) := by
 obtain ⟨S_w1, E_w1, A_w1⟩ := id G
 refine MetFree.of_bodySF (plainFor_of_name pn1) hisR ?_
 intro p e s m args below meth c s₁ Bd hml hP hK
 obtain ⟨rfl, hZ, hh⟩ := hP
 obtain ⟨hx, hby, hown, hret, hlk, X0, e0, N0⟩ := own_bd Bd hh n0
 have pre0 := own_ct s₁ (p := p) (e := e) (below := below) (ef50 m o1 (1 : Int32) o2 (2 : Int32) (1 : Int32))
 revert pre0
 generalize s₁.setTop (entryFrame m #[(.ref o1), (.int 1), (.ref o2), (.int 2), (.int 1)] 8) = E0
 intro pre0
 have J0 : (∃ (T : State) (locs : List Loc), Stand p l e ({ frames := 3, cells := 3, slots := 18, locals := 40 } : Room) s m #[(.ref o1), (.int 1), (.ref o2), (.int 2), (.int 1)] below meth c T locs 0 0 ∧ T.heap = h0 ∧ Fr n0 locs ∧ (Go p e below T (mkF m 38 (l346_4 o1 o2) []) E0) ∧ (p7 < (65536 : Int32))) ∨ (∃ (T : State) (locs : List Loc), Stand p l e ({ frames := 3, cells := 3, slots := 18, locals := 40 } : Room) s m #[(.ref o1), (.int 1), (.ref o2), (.int 2), (.int 1)] below meth c T locs 0 0 ∧ T.heap = h0 ∧ Fr n0 locs ∧ (Go p e below T (mkF m 38 (l346_5 o1 o2) []) E0)) := by
  obtain ⟨T1, X1, e1, st1⟩ := yag X0 hx hZ hown hby (w_20 hw) e0 P3 0 #[.val (.ref o1), .val (.int 1), .val (.ref o2), .val (.int 2), .val (.int 1), .unset, .unset, .unset] [] d2_0 d2_1 rfl
  obtain ⟨cl2, Ar2, qa2, Sa2, Na2, Ha2, Ga2⟩ := id (P4)
  have hin2 := inb_of (j := (2 : Int32)) Sa2 ⟨by decide, by decide⟩
  have hat2 : cl2.slots[((2 : Int32)).toNatClampNeg]? = some (.int p7) := Has.at Ha2 hin2 rfl
  obtain ⟨_, T3, L3, X3, hQ3, st3⟩ := own_cs X1 hx hZ hown (y := yn2) (own_w hw 27 rfl) (own_w hw 28 rfl) (own_w hw 29 rfl) (w_9 hw) e1 (argsL := [(.int p7)]) (rest := [(.int 2)]) (rm3 l Z a0 hw [] p7 h0 n0 O0 ) (g := (mkF m 24 (l346_6 o1 o2) [(.int p7), (.int 2)])) rfl (by rw [hml]; rfl) rfl (hb hby d2_24) (lenOf pd2 rfl) (W := 1) (c1 := 0) (s1 := 0)
  have pre4 : Go p e below T1 (mkF m 24 (l346_6 o1 o2) [(.int p7), (.int 2)]) E0 := fun t k => by
   refine pre0 _ ?_
   refine st1 _ ?_
   refine yis X1 hx hby d2_4 (l' := #[.val (.ref o1), .val (.int 1), .val (.ref o2), .val (.int 2), .val (.int 1), .val (.int 2), .unset, .unset]) rfl ?_
   refine yin X1 hx hby d2_6 rfl ?_
   refine yis X1 hx hby d2_7 (l' := (l346_6 o1 o2)) rfl ?_
   refine yil X1 hx hby d2_9 rfl ?_
   refine yin X1 hx hby d2_11 rfl ?_
   refine yil X1 hx hby d2_12 rfl ?_
   refine yad X1 hx hby d2_14 ?_
   refine yno X1 hx hby d2_15 (tlt (by decide : (2 : Int32) < (3 : Int32))).2.1 ?_
   refine yil X1 hx hby d2_18 rfl ?_
   refine yan X1 hx hby d2_20 rfl rfl ?_
   refine yil X1 hx hby d2_21 rfl ?_
   refine X1.iaload hx (j := (2 : Int32)) (v := (.int p7)) (by rw [e1]; exact Ar2.1) (State.isArrayOf_alike hZ.alike Ar2.2.1) Ar2.2.2 hin2 hat2 (g := (mkF m 23 (l346_6 o1 o2) [(.int 2), (.ref o2), (.int 2)])) rfl rfl (hb hby d2_23) _ ?_
   exact k
  rcases hQ3 with ⟨hc5, rfl, Nq6, e7⟩ | ⟨hc8, hc9, rfl, Nq10, e11⟩ | ⟨hc12, hc13, rfl, Nq14, e15⟩
  ·
   have N3 := Fr.app N0 Nq6
   obtain ⟨_, T16, L16, X16, hQ16, st16⟩ := own_cs X3 hx hZ hown (y := yn3) (w_30 hw) (w_31 hw) (w_33 hw) (w_32 hw) e7 (argsL := [(.int 2), (.int 1)]) (rest := []) (rm4 l Z a0 hw [] ((2 : Int32)) ((1 : Int32)) h0 n0 O0 ) (g := (mkF m 27 (l346_6 o1 o2) [(.int 1), (.int 2)])) rfl (by rw [hml]; rfl) rfl (hb hby d2_27) (lenOf pd0 rfl) (W := 0) (c1 := 0) (s1 := 0)
   have pre17 : Go p e below T3 (mkF m 27 (l346_6 o1 o2) [(.int 1), (.int 2)]) E0 := fun t k => by
    refine pre4 _ ?_
    refine st3 _ ?_
    exact k
   rcases hQ16 with ⟨hc18, rfl, Nq19, e20⟩ | ⟨hc21, rfl, Nq22, e23⟩
   ·
    exact absurd hc18 (by decide : ¬ ((2 : Int32) < (1 : Int32)))
   ·
    have N16 := Fr.app N3 Nq22
    have pre24 : Go p e below T16 (mkF m 38 (l346_4 o1 o2) []) E0 := fun t k => by
     refine pre17 _ ?_
     refine st16 _ ?_
     refine yis X16 hx hby d2_30 (l' := (l346_6 o1 o2)) rfl ?_
     refine XS.iinc X16.here hx rfl (hb hby d2_32) rfl (l' := (l346_4 o1 o2)) rfl ?_
     refine ygo X16 hx hby 35 9 rfl d2_35 (by decide) ?_
     refine yil X16 hx hby d2_9 rfl ?_
     refine yin X16 hx hby d2_11 rfl ?_
     refine yil X16 hx hby d2_12 rfl ?_
     refine yad X16 hx hby d2_14 ?_
     refine yye X16 hx hby 15 38 rfl d2_15 (flt (by decide : ¬ ((3 : Int32) < (3 : Int32)))).2.1 (by decide) ?_
     exact k
    exact (Or.inl ⟨_, _, X16.more (by decide) (by decide), e23, N16, pre24, (own_glt1 (n := 65536) (k := (65536 : Int32)) (by decide) (by have q0 := rng32 p7; have q1 := own_lt1 (n := 256) (k := (256 : Int32)) (by decide) hc5; omega))⟩)
  ·
   have N3 := Fr.app N0 Nq10
   obtain ⟨_, T25, L25, X25, hQ25, st25⟩ := own_cs X3 hx hZ hown (y := yn3) (w_30 hw) (w_31 hw) (w_33 hw) (w_32 hw) e11 (argsL := [(.int 2), (.int 2)]) (rest := []) (rm4 l Z a0 hw [] ((2 : Int32)) ((2 : Int32)) h0 n0 O0 ) (g := (mkF m 27 (l346_6 o1 o2) [(.int 2), (.int 2)])) rfl (by rw [hml]; rfl) rfl (hb hby d2_27) (lenOf pd0 rfl) (W := 0) (c1 := 0) (s1 := 0)
   have pre26 : Go p e below T3 (mkF m 27 (l346_6 o1 o2) [(.int 2), (.int 2)]) E0 := fun t k => by
    refine pre4 _ ?_
    refine st3 _ ?_
    exact k
   rcases hQ25 with ⟨hc27, rfl, Nq28, e29⟩ | ⟨hc30, rfl, Nq31, e32⟩
   ·
    exact absurd hc27 (by decide : ¬ ((2 : Int32) < (2 : Int32)))
   ·
    have N25 := Fr.app N3 Nq31
    have pre33 : Go p e below T25 (mkF m 38 (l346_4 o1 o2) []) E0 := fun t k => by
     refine pre26 _ ?_
     refine st25 _ ?_
     refine yis X25 hx hby d2_30 (l' := (l346_6 o1 o2)) rfl ?_
     refine XS.iinc X25.here hx rfl (hb hby d2_32) rfl (l' := (l346_4 o1 o2)) rfl ?_
     refine ygo X25 hx hby 35 9 rfl d2_35 (by decide) ?_
     refine yil X25 hx hby d2_9 rfl ?_
     refine yin X25 hx hby d2_11 rfl ?_
     refine yil X25 hx hby d2_12 rfl ?_
     refine yad X25 hx hby d2_14 ?_
     refine yye X25 hx hby 15 38 rfl d2_15 (flt (by decide : ¬ ((3 : Int32) < (3 : Int32)))).2.1 (by decide) ?_
     exact k
    exact (Or.inl ⟨_, _, X25.more (by decide) (by decide), e32, N25, pre33, hc9⟩)
  ·
   have N3 := Fr.app N0 Nq14
   obtain ⟨_, T34, L34, X34, hQ34, st34⟩ := own_cs X3 hx hZ hown (y := yn3) (w_30 hw) (w_31 hw) (w_33 hw) (w_32 hw) e15 (argsL := [(.int 2), (.int 3)]) (rest := []) (rm4 l Z a0 hw [] ((2 : Int32)) ((3 : Int32)) h0 n0 O0 ) (g := (mkF m 27 (l346_6 o1 o2) [(.int 3), (.int 2)])) rfl (by rw [hml]; rfl) rfl (hb hby d2_27) (lenOf pd0 rfl) (W := 0) (c1 := 0) (s1 := 0)
   have pre35 : Go p e below T3 (mkF m 27 (l346_6 o1 o2) [(.int 3), (.int 2)]) E0 := fun t k => by
    refine pre4 _ ?_
    refine st3 _ ?_
    exact k
   rcases hQ34 with ⟨hc36, rfl, Nq37, e38⟩ | ⟨hc39, rfl, Nq40, e41⟩
   ·
    have N34 := Fr.app N3 Nq37
    have pre42 : Go p e below T34 (mkF m 38 (l346_5 o1 o2) []) E0 := fun t k => by
     refine pre35 _ ?_
     refine st34 _ ?_
     refine yis X34 hx hby d2_30 (l' := #[.val (.ref o1), .val (.int 1), .val (.ref o2), .val (.int 2), .val (.int 1), .val (.int 3), .val (.int 2), .unset]) rfl ?_
     refine XS.iinc X34.here hx rfl (hb hby d2_32) rfl (l' := (l346_5 o1 o2)) rfl ?_
     refine ygo X34 hx hby 35 9 rfl d2_35 (by decide) ?_
     refine yil X34 hx hby d2_9 rfl ?_
     refine yin X34 hx hby d2_11 rfl ?_
     refine yil X34 hx hby d2_12 rfl ?_
     refine yad X34 hx hby d2_14 ?_
     refine yye X34 hx hby 15 38 rfl d2_15 (flt (by decide : ¬ ((3 : Int32) < (3 : Int32)))).2.1 (by decide) ?_
     exact k
    exact (Or.inr ⟨_, _, X34.more (by decide) (by decide), e38, N34, pre42⟩)
   ·
    exact absurd (by decide : (2 : Int32) < (3 : Int32)) hc39
 rcases J0 with ⟨T43, lc43, X43, e43, N43, pre43, hc44⟩ | ⟨T45, lc45, X45, e45, N45, pre45⟩
 ·
  obtain ⟨T46, X46, e46, st46⟩ := yag X43 hx hZ hown hby (w_20 hw) e43 P3 40 (l346_4 o1 o2) [(.int 2)] d2_40 d2_41 rfl
  obtain ⟨T47, X47, e47, st47⟩ := yag X46 hx hZ hown hby (w_34 hw) e46 P2 53 (l346_4 o1 o2) [] d2_53 d2_54 rfl
  obtain ⟨T48, X48, e48, st48⟩ := yag X47 hx hZ hown hby (w_20 hw) e47 P3 60 (l346_4 o1 o2) [(.int 3)] d2_60 d2_61 rfl
  obtain ⟨T49, X49, e49, st49⟩ := yag X48 hx hZ hown hby (w_18 hw) e48 P1 69 (l346_7 o1 o2) [(.int 6)] d2_69 d2_70 rfl
  obtain ⟨cl50, Ar50, qa50, Sa50, Na50, Ha50, Ga50⟩ := id (P6)
  obtain ⟨T51, X51, e51, st51⟩ := yag X49 hx hZ hown hby (w_18 hw) e49 P1 78 (l346_7 o1 o2) [(.ref o1)] d2_78 d2_79 rfl
  obtain ⟨T52, X52, e52, st52⟩ := yag X51 hx hZ hown hby (w_18 hw) e51 P1 84 (l346_7 o1 o2) [(.int 6), (.ref o3), (.ref o1)] d2_84 d2_85 rfl
  obtain ⟨cl53, Ar53, qa53, Sa53, Na53, Ha53, Ga53⟩ := id (P6)
  obtain ⟨T54, X54, e54, st54⟩ := yag X52 hx hZ hown hby (w_18 hw) e52 P1 89 (l346_7 o1 o2) [(.int 4), (.int 6), (.ref o3), (.ref o1)] d2_89 d2_90 rfl
  obtain ⟨cl55, Ar55, qa55, Sa55, Na55, Ha55, Ga55⟩ := id (P6)
  obtain ⟨_, T56, L56, X56, hQ56, st56⟩ := own_cs X54 hx hZ hown (y := yn3) (w_30 hw) (w_31 hw) (w_33 hw) (w_32 hw) e54 (argsL := [(.int 6), (.int 6)]) (rest := [(.ref o3), (.ref o1)]) (rm4 l Z a0 hw [] ((6 : Int32)) ((6 : Int32)) h0 n0 O0 ) (g := (mkF m 97 (l346_7 o1 o2) [(.int 6), (.int 6), (.ref o3), (.ref o1)])) rfl (by rw [hml]; rfl) rfl (hb hby d2_97) (lenOf pd0 rfl) (W := 2) (c1 := 0) (s1 := 0)
  have pre57 : Go p e below T54 (mkF m 97 (l346_7 o1 o2) [(.int 6), (.int 6), (.ref o3), (.ref o1)]) E0 := fun t k => by
   refine pre43 _ ?_
   refine yil X43 hx hby d2_38 rfl ?_
   refine st46 _ ?_
   refine yye X46 hx hby 44 53 rfl d2_44 (flt (by decide : ¬ ((2 : Int32) < (2 : Int32)))).2.2.2 (by decide) ?_
   refine st47 _ ?_
   refine yil X47 hx hby d2_57 rfl ?_
   refine yad X47 hx hby d2_59 ?_
   refine st48 _ ?_
   refine XS.imul X48.here hx rfl (hb hby d2_64) rfl ?_
   refine yis X48 hx hby d2_65 (l' := (l346_7 o1 o2)) rfl ?_
   refine yil X48 hx hby d2_67 rfl ?_
   refine st49 _ ?_
   refine X49.arraylength hx (by rw [e49]; exact Ar50.1) (State.isArrayOf_alike hZ.alike Ar50.2.1) (g := (mkF m 73 (l346_7 o1 o2) [(.ref o3), (.int 6)])) rfl rfl (hb hby d2_73) _ ?_
   rw [len_of Sa50 Na50]
   refine yno X49 hx hby d2_74 (tlt (by decide : (4 : Int32) < (6 : Int32))).2.2.2 ?_
   refine yan X49 hx hby d2_77 rfl rfl ?_
   refine st51 _ ?_
   refine yil X51 hx hby d2_82 rfl ?_
   refine st52 _ ?_
   refine X52.arraylength hx (by rw [e52]; exact Ar53.1) (State.isArrayOf_alike hZ.alike Ar53.2.1) (g := (mkF m 88 (l346_7 o1 o2) [(.ref o3), (.int 6), (.ref o3), (.ref o1)])) rfl rfl (hb hby d2_88) _ ?_
   rw [len_of Sa53 Na53]
   refine st54 _ ?_
   refine X54.arraylength hx (by rw [e54]; exact Ar55.1) (State.isArrayOf_alike hZ.alike Ar55.2.1) (g := (mkF m 93 (l346_7 o1 o2) [(.ref o3), (.int 4), (.int 6), (.ref o3), (.ref o1)])) rfl rfl (hb hby d2_93) _ ?_
   rw [len_of Sa55 Na55]
   refine XS.iconst X54.here hx rfl (hb hby d2_94) ?_
   refine XS.idiv X54.here hx rfl (hb hby d2_95) rfl (by decide : ¬ ((2 : Int32) = (0 : Int32))) ?_
   refine yad X54 hx hby d2_96 ?_
   exact k
  rcases hQ56 with ⟨hc58, rfl, Nq59, e60⟩ | ⟨hc61, rfl, Nq62, e63⟩
  ·
   exact absurd hc58 (by decide : ¬ ((6 : Int32) < (6 : Int32)))
  ·
   have N56 := Fr.app N43 Nq62
   obtain ⟨_, T64, L64, X64, hQ64, st64⟩ := own_cs X56 hx hZ hown (y := yn5) (own_w hw 36 rfl) (w_37 hw) (own_w hw 39 rfl) (w_38 hw) e63 (argsL := [(.ref o3), (.int 6)]) (rest := [(.ref o1)]) (rm23 l Z a0 hw [] o3 kc8 p9 p10 p11 p12 h0 n0 O0 g_o3 P6) (g := (mkF m 100 (l346_7 o1 o2) [(.int 6), (.ref o3), (.ref o1)])) rfl (by rw [hml]; rfl) rfl (hb hby d2_100) (lenOf pd3 rfl) (W := 1) (c1 := 1) (s1 := 6)
   obtain ⟨b65, k66, rfl, Nq67, K68, sz_b65, f69, f70⟩ := hQ64
   have N64 := Fr.app N56 Nq67
   have g_b65 : n0 ≤ b65 := Nat.le_trans (own_oz O0) sz_b65
   have O64 := Old.keep O0 K68 all0
   have f71 := (P1.keep K68 nin0)
   have f72 := (P0.keep K68)
   obtain ⟨T73, h73, X73, e73, W73, st73⟩ := putF X64 hx hZ hown (host := "") (Or.inl (w_18 hw)) Via.refl rfl f71 f72 (Or.inl (w_19 hw)) (w_8 hw) (ty := (.array .byte)) (by decide) rfl rfl (g := (mkF m 103 (l346_7 o1 o2) [(.ref b65), (.ref o1)])) rfl rfl (hb hby d2_103)
   have N73 := Fr.snoc X73 N64 g_o1
   have Fw73 := f71.same W73
   have O73 := Old.wr O64 W73 g_o1
   obtain ⟨T74, X74, e74, st74⟩ := yag X73 hx hZ hown hby (w_18 hw) e73 Fw73 106 (l346_7 o1 o2) [] d2_106 d2_107 rfl
   have f75 := ((P3.keep K68 nin0).other W73 (Or.inr (slot_ne (Or.inl (w_21 hw)) (Or.inl (w_19 hw)) (by decide) (t := .int) (t' := (.array .byte)) (by decide) (by decide))))
   obtain ⟨T76, X76, e76, st76⟩ := yag X74 hx hZ hown hby (w_20 hw) e74 f75 111 (l346_7 o1 o2) [(.int 1), (.ref b65)] d2_111 d2_112 rfl
   obtain ⟨T77, X77, e77, st77⟩ := yag X76 hx hZ hown hby (w_18 hw) e76 Fw73 116 (l346_7 o1 o2) [(.int 2), (.ref b65)] d2_116 d2_117 rfl
   obtain ⟨T78, X78, e78, st78⟩ := yag X77 hx hZ hown hby (w_20 hw) e77 f75 124 (l346_7 o1 o2) [(.int 2), (.ref b65), (.int 2), (.ref b65)] d2_124 d2_125 rfl
   have f79 := ((P2.keep K68 nin0).other W73 (Or.inr (slot_ne (Or.inl (w_35 hw)) (Or.inl (w_19 hw)) (by decide) (t := .int) (t' := (.array .byte)) (by decide) (by decide))))
   obtain ⟨T80, X80, e80, st80⟩ := yag X78 hx hZ hown hby (w_34 hw) e78 f79 129 (l346_7 o1 o2) [(.int 4), (.ref b65), (.int 2), (.ref b65)] d2_129 d2_130 rfl
   obtain ⟨T81, X81, e81, st81⟩ := yag X80 hx hZ hown hby (w_20 hw) e80 f75 135 (l346_7 o1 o2) [(.int 1), (.int 4), (.ref b65), (.int 2), (.ref b65)] d2_135 d2_136 rfl
   have lt82 : o1 < h0.size := P0.lt
   have ne83 : o1 ≠ b65 := Nat.ne_of_lt (Nat.lt_of_lt_of_le lt82 sz_b65)
   have f84 := (f69.other W73 (Ne.symm ne83))
   obtain ⟨T85, h85, L85, X85, e85, N85, K85, VV85, st85⟩ := cpA X81 hx hZ hown (own_w hw 48 rfl) (w_47 hw) (w_45 hw) (w_46 hw) e81 (us := [(.int p11), (.int p12)]) f84 f84 (Or.inl ⟨rfl, rfl⟩) (by decide) (by decide) (by decide) (by decide) (by decide) rfl (by first | decide | exact (by decide : 4 + 2 ≤ 6)) N73 g_b65 (g := (mkF m 140 (l346_7 o1 o2) [(.int 2), (.int 4), (.ref b65), (.int 2), (.ref b65)])) rfl (by rw [hml]; rfl) rfl (hb hby d2_140) (by decide) (W := 0) (by show 2 * 0 + _ ≤ _; exact Nat.le_of_eq rfl) (by decide)
   have V85 : Arv Z h85 b65 k66 .byte (6 : Int32) [(.int p9), (.int p10), (.int p11), (.int p12), (.int p11), (.int p12)] (.int 0) := VV85
   have O85 := Old.keep O73 K85 (allS g_b65 all0)
   have f86 := (f79.keep K85 (ninS ne83 nin0))
   obtain ⟨T87, X87, e87, st87⟩ := yg X85 hx hZ hown hby (w_34 hw) e85 f86 145 (l346_7 o1 o2) [(.ref o1)] d2_145
   have f88 := ((f72.wr W73).keep K85)
   obtain ⟨T89, h89, X89, e89, W89, st89⟩ := putF X87 hx hZ hown (host := "") (Or.inl (w_34 hw)) Via.refl e87 f86 f88 (Or.inl (w_35 hw)) (w_8 hw) (ty := .int) (by decide) rfl rfl (g := (mkF m 151 (l346_7 o1 o2) [(.int 3), (.ref o1)])) rfl rfl (hb hby d2_151)
   have N89 := Fr.snoc X89 N85 g_o1
   have Fw89 := f86.same W89
   have O89 := Old.wr O85 W89 g_o1
   have f90 := ((((P5.keep K68).wr W73).keep K85).wr W89)
   have f91 := (f88.wr W89)
   have ne92 : o2 ≠ o1 := ne_exa f90 f91 (by decide)
   have lt93 : o2 < h0.size := P4.lt
   have ne94 : o2 ≠ b65 := Nat.ne_of_lt (Nat.lt_of_lt_of_le lt93 sz_b65)
   have f95 := ((((P4.keep K68 nin0).other W73 ne92).keep K85 (ninS ne94 nin0)).other W89 ne92)
   obtain ⟨cl96, Ar96, qa96, Sa96, Na96, Ha96, Ga96⟩ := id (f95)
   have hin96 := inb_of (j := (2 : Int32)) Sa96 ⟨by decide, by decide⟩
   have hat96 : cl96.slots[((2 : Int32)).toNatClampNeg]? = some (.int p7) := Has.at Ha96 hin96 rfl
   have f97 := ((Fw73.keep K85 (ninS ne83 nin0)).other W89 (Or.inr (slot_ne (Or.inl (w_19 hw)) (Or.inl (w_35 hw)) (by decide) (t := (.array .byte)) (t' := .int) (by decide) (by decide))))
   have f98 := ((f75.keep K85 (ninS ne83 nin0)).other W89 (Or.inr (slot_ne (Or.inl (w_21 hw)) (Or.inl (w_35 hw)) (by decide) (t := .int) (t' := .int) (by decide) (by decide))))
   have f99 := (V85.other W89 (Ne.symm ne83))
   have f100 := (((f70.wr W73).keep K85).wr W89)
   obtain ⟨_, T101, L101, X101, hQ101, st101⟩ := own_pb X89 hx hZ hown (y := yn6) (w_49 hw) (w_50 hw) (own_selp (mvT hZ (w_25 hw)) rfl (Cond.privateMethod_at (mvP hZ (w_51 hw) (args := #[]))) (mvT hZ (w_50 hw)) (by decide)) (w_51 hw) (own_w hw 52 rfl) (w_9 hw) e89 f91 (argsL := [(.int 1), (.int p7)]) (rest := []) (rm47 l Z a0 hw [] o1 b65 k66 p9 p10 p11 p12 p11 p12 p7 h89 n0 O89 g_o1 g_b65 f91 f97 f98 f99 f100) (g := (mkF m 175 (l346_0 o1 o2) [(.int p7), (.int 1), (.ref o1)])) rfl (by rw [hml]; rfl) rfl (hb hby d2_175) (lenOf pd4 rfl) (W := 0) (c1 := 1) (s1 := 6)
   obtain ⟨rfl, Nq102, K103, f104, f105⟩ := hQ101
   have N101 := Fr.app N89 Nq102
   obtain ⟨fs, hr, hrun, hended, hW, hsame⟩ := X101.leave (v := none) (fun _ => rfl)
   have KL : Keep h0 T101.heap [o1] := ((((((Keep.refl h0 [o1]).trans K68 all0).wr W73 (Or.inl (List.mem_of_getElem? (i := 0) rfl))).trans K85 (allS (Or.inr (Nat.le_trans (Nat.le_refl _) sz_b65)) all0)).wr W89 (Or.inl (List.mem_of_getElem? (i := 0) rfl))).trans K103 (allS (Or.inr (Nat.le_trans (Nat.le_refl _) sz_b65)) all0))
   have f106 := (f91.keep K103)
   have f107 := (f97.keep K103 (ninS ne83 nin0))
   have f108 := (Fw89.keep K103 (ninS ne83 nin0))
   have f109 := (f98.keep K103 (ninS ne83 nin0))
   refine ⟨_, _, pre57 _ ?_, hrun, hended, _, _, rfl, ?_, ⟨_, rfl⟩, hW, hsame.mono (by decide) (by decide)⟩
   ·
    refine st56 _ ?_
    refine st64 _ ?_
    refine st73 _ ?_
    refine st74 _ ?_
    refine yin X74 hx hby d2_110 rfl ?_
    refine st76 _ ?_
    refine XS.imul X76.here hx rfl (hb hby d2_115) rfl ?_
    show Steps p.tables e below (T76.setTop (mkF m 116 (l346_7 o1 o2) [(.int 2), (.ref b65)])) _
    refine st77 _ ?_
    refine yin X77 hx hby d2_120 rfl ?_
    refine yil X77 hx hby d2_121 rfl ?_
    refine yad X77 hx hby d2_123 ?_
    refine st78 _ ?_
    refine XS.imul X78.here hx rfl (hb hby d2_128) rfl ?_
    refine st80 _ ?_
    refine yin X80 hx hby d2_133 rfl ?_
    refine ysu X80 hx hby d2_134 ?_
    refine st81 _ ?_
    refine XS.imul X81.here hx rfl (hb hby d2_139) rfl ?_
    refine st85 _ ?_
    refine yan X85 hx hby d2_143 rfl rfl ?_
    refine XS.dup X85.here hx rfl (hb hby d2_144) rfl rfl ?_
    refine st87 _ ?_
    refine yil X87 hx hby d2_148 rfl ?_
    refine yad X87 hx hby d2_150 ?_
    refine st89 _ ?_
    refine XS.iconst X89.here hx rfl (hb hby d2_154) ?_
    refine yis X89 hx hby d2_155 (l' := (l346_0 o1 o2)) rfl ?_
    refine yil X89 hx hby d2_157 rfl ?_
    refine yil X89 hx hby d2_159 rfl ?_
    refine yno X89 hx hby d2_161 (tlt (by decide : (0 : Int32) < (1 : Int32))).2.1 ?_
    refine yan X89 hx hby d2_164 rfl rfl ?_
    refine yin X89 hx hby d2_165 rfl ?_
    refine yil X89 hx hby d2_166 rfl ?_
    refine yad X89 hx hby d2_168 ?_
    refine yan X89 hx hby d2_169 rfl rfl ?_
    refine yin X89 hx hby d2_170 rfl ?_
    refine yil X89 hx hby d2_171 rfl ?_
    refine yad X89 hx hby d2_173 ?_
    refine X89.iaload hx (j := (2 : Int32)) (v := (.int p7)) (by rw [e89]; exact Ar96.1) (State.isArrayOf_alike hZ.alike Ar96.2.1) Ar96.2.2 hin96 hat96 (g := (mkF m 174 (l346_0 o1 o2) [(.int 2), (.ref o2), (.int 1), (.ref o1)])) rfl rfl (hb hby d2_174) _ ?_
    refine st101 _ ?_
    refine XS.iinc X101.here hx rfl (hb hby d2_178) rfl (l' := (l346_1 o1 o2)) rfl ?_
    refine ygo X101 hx hby 181 157 rfl d2_181 (by decide) ?_
    refine yil X101 hx hby d2_157 rfl ?_
    refine yil X101 hx hby d2_159 rfl ?_
    show Steps p.tables e below (T101.setTop (mkF m 161 (l346_1 o1 o2) [(.int 1), (.int 1)])) _
    refine yye X101 hx hby 161 184 rfl d2_161 (flt (by decide : ¬ ((1 : Int32) < (1 : Int32)))).2.1 (by decide) ?_
    show Steps p.tables e below (T101.setTop (mkF m 184 (l346_1 o1 o2) [])) _
    exact X101.returnOut hx hret (hb hby d2_184) hr
   ·
    show Q50 Z w1 kw1 o1 o2 o3 kc4 p5 p6 p7 kc8 p9 p10 p11 p12 h0 n0 _ T101.heap _
    exact (Or.inl ⟨b65, k66, hc44, rfl, N101, KL, (Nat.le_trans (Nat.le_refl _) sz_b65), f106, f107, f108, f109, f104, f105⟩)
 ·
  obtain ⟨T110, X110, e110, st110⟩ := yag X45 hx hZ hown hby (w_20 hw) e45 P3 40 (l346_5 o1 o2) [(.int 3)] d2_40 d2_41 rfl
  obtain ⟨_, T111, L111, X111, hQ111, st111⟩ := own_pb X110 hx hZ hown (y := yn7) (own_w hw 65 rfl) (own_w hw 66 rfl) (own_selp (mvT hZ (w_25 hw)) rfl (Cond.privateMethod_at (mvP hZ (own_w hw 67 rfl) (args := #[]))) (mvT hZ (own_w hw 66 rfl)) (by decide)) (own_w hw 67 rfl) (own_w hw 68 rfl) (w_9 hw) e110 P0 (argsL := [(.int 3)]) (rest := []) (rm43 l Z a0 hw w1 kw1 G [] o1 o3 kc8 p9 p10 p11 p12 h0 n0 O0 g_o1 g_o3 P0 P1 P2 P3 P6 P7) (g := (mkF m 50 (l346_5 o1 o2) [(.int 3), (.ref o1)])) rfl (by rw [hml]; rfl) rfl (hb hby d2_50) (lenOf pd5 rfl) (W := 0) (c1 := 2) (s1 := 9)
  obtain ⟨b112, k113, rfl, Nq114, K115, sz_b112, f116, f117, f118, f119, f120, f121⟩ := hQ111
  have N111 := Fr.app N45 Nq114
  have g_b112 : n0 ≤ b112 := Nat.le_trans (own_oz O0) sz_b112
  have M111 : h0.size ≤ T111.heap.size := Nat.le_trans (Nat.le_refl _) K115.1
  have O111 := Old.keep O0 K115 (allS g_o1 all0)
  obtain ⟨T122, X122, e122, st122⟩ := yag X111 hx hZ hown hby (w_34 hw) rfl f118 53 (l346_5 o1 o2) [] d2_53 d2_54 rfl
  obtain ⟨T123, X123, e123, st123⟩ := yag X122 hx hZ hown hby (w_20 hw) e122 f119 60 (l346_5 o1 o2) [(.int 3)] d2_60 d2_61 rfl
  obtain ⟨T124, X124, e124, st124⟩ := yag X123 hx hZ hown hby (w_18 hw) e123 f117 69 (l346_8 o1 o2) [(.int 9)] d2_69 d2_70 rfl
  obtain ⟨cl125, Ar125, qa125, Sa125, Na125, Ha125, Ga125⟩ := id (f120)
  obtain ⟨T126, X126, e126, st126⟩ := yag X124 hx hZ hown hby (w_18 hw) e124 f117 78 (l346_8 o1 o2) [(.ref o1)] d2_78 d2_79 rfl
  obtain ⟨T127, X127, e127, st127⟩ := yag X126 hx hZ hown hby (w_18 hw) e126 f117 84 (l346_8 o1 o2) [(.int 9), (.ref b112), (.ref o1)] d2_84 d2_85 rfl
  obtain ⟨cl128, Ar128, qa128, Sa128, Na128, Ha128, Ga128⟩ := id (f120)
  obtain ⟨T129, X129, e129, st129⟩ := yag X127 hx hZ hown hby (w_18 hw) e127 f117 89 (l346_8 o1 o2) [(.int 6), (.int 9), (.ref b112), (.ref o1)] d2_89 d2_90 rfl
  obtain ⟨cl130, Ar130, qa130, Sa130, Na130, Ha130, Ga130⟩ := id (f120)
  obtain ⟨_, T131, L131, X131, hQ131, st131⟩ := own_cs X129 hx hZ hown (y := yn3) (w_30 hw) (w_31 hw) (w_33 hw) (w_32 hw) e129 (argsL := [(.int 9), (.int 9)]) (rest := [(.ref b112), (.ref o1)]) (rm4 l Z a0 hw [] ((9 : Int32)) ((9 : Int32)) T111.heap n0 O111 ) (g := (mkF m 97 (l346_8 o1 o2) [(.int 9), (.int 9), (.ref b112), (.ref o1)])) rfl (by rw [hml]; rfl) rfl (hb hby d2_97) (lenOf pd0 rfl) (W := 2) (c1 := 2) (s1 := 9)
  have pre132 : Go p e below T129 (mkF m 97 (l346_8 o1 o2) [(.int 9), (.int 9), (.ref b112), (.ref o1)]) E0 := fun t k => by
   refine pre45 _ ?_
   refine yil X45 hx hby d2_38 rfl ?_
   refine st110 _ ?_
   refine yno X110 hx hby d2_44 (tlt (by decide : (2 : Int32) < (3 : Int32))).2.2.2 ?_
   refine yan X110 hx hby d2_47 rfl rfl ?_
   refine yil X110 hx hby d2_48 rfl ?_
   refine st111 _ ?_
   refine st122 _ ?_
   refine yil X122 hx hby d2_57 rfl ?_
   refine yad X122 hx hby d2_59 ?_
   refine st123 _ ?_
   refine XS.imul X123.here hx rfl (hb hby d2_64) rfl ?_
   refine yis X123 hx hby d2_65 (l' := (l346_8 o1 o2)) rfl ?_
   refine yil X123 hx hby d2_67 rfl ?_
   refine st124 _ ?_
   refine X124.arraylength hx (by rw [e124]; exact Ar125.1) (State.isArrayOf_alike hZ.alike Ar125.2.1) (g := (mkF m 73 (l346_8 o1 o2) [(.ref b112), (.int 9)])) rfl rfl (hb hby d2_73) _ ?_
   rw [len_of Sa125 Na125]
   refine yno X124 hx hby d2_74 (tlt (by decide : (6 : Int32) < (9 : Int32))).2.2.2 ?_
   refine yan X124 hx hby d2_77 rfl rfl ?_
   refine st126 _ ?_
   refine yil X126 hx hby d2_82 rfl ?_
   refine st127 _ ?_
   refine X127.arraylength hx (by rw [e127]; exact Ar128.1) (State.isArrayOf_alike hZ.alike Ar128.2.1) (g := (mkF m 88 (l346_8 o1 o2) [(.ref b112), (.int 9), (.ref b112), (.ref o1)])) rfl rfl (hb hby d2_88) _ ?_
   rw [len_of Sa128 Na128]
   refine st129 _ ?_
   refine X129.arraylength hx (by rw [e129]; exact Ar130.1) (State.isArrayOf_alike hZ.alike Ar130.2.1) (g := (mkF m 93 (l346_8 o1 o2) [(.ref b112), (.int 6), (.int 9), (.ref b112), (.ref o1)])) rfl rfl (hb hby d2_93) _ ?_
   rw [len_of Sa130 Na130]
   refine XS.iconst X129.here hx rfl (hb hby d2_94) ?_
   refine XS.idiv X129.here hx rfl (hb hby d2_95) rfl (by decide : ¬ ((2 : Int32) = (0 : Int32))) ?_
   refine yad X129 hx hby d2_96 ?_
   exact k
  rcases hQ131 with ⟨hc133, rfl, Nq134, e135⟩ | ⟨hc136, rfl, Nq137, e138⟩
  ·
   exact absurd hc133 (by decide : ¬ ((9 : Int32) < (9 : Int32)))
  ·
   have N131 := Fr.app N111 Nq137
   obtain ⟨_, T139, L139, X139, hQ139, st139⟩ := own_cs X131 hx hZ hown (y := yn5) (own_w hw 36 rfl) (w_37 hw) (own_w hw 39 rfl) (w_38 hw) e138 (argsL := [(.ref b112), (.int 9)]) (rest := [(.ref o1)]) (rm26 l Z a0 hw [] b112 k113 (((((((((p9 &&& (255 : Int32)) <<< ((8 : Int32) &&& 31)) ||| (p10 &&& (255 : Int32))).toUInt32 >>> ((8 : Int32) &&& 31).toUInt32).toInt32).toUInt32 >>> ((8 : Int32) &&& 31).toUInt32).toInt32).toInt8.toInt32)) (((((((p9 &&& (255 : Int32)) <<< ((8 : Int32) &&& 31)) ||| (p10 &&& (255 : Int32))).toUInt32 >>> ((8 : Int32) &&& 31).toUInt32).toInt32).toInt8.toInt32)) (((((p9 &&& (255 : Int32)) <<< ((8 : Int32) &&& 31)) ||| (p10 &&& (255 : Int32))).toInt8.toInt32)) (((((((((p11 &&& (255 : Int32)) <<< ((8 : Int32) &&& 31)) ||| (p12 &&& (255 : Int32))).toUInt32 >>> ((8 : Int32) &&& 31).toUInt32).toInt32).toUInt32 >>> ((8 : Int32) &&& 31).toUInt32).toInt32).toInt8.toInt32)) (((((((p11 &&& (255 : Int32)) <<< ((8 : Int32) &&& 31)) ||| (p12 &&& (255 : Int32))).toUInt32 >>> ((8 : Int32) &&& 31).toUInt32).toInt32).toInt8.toInt32)) (((((p11 &&& (255 : Int32)) <<< ((8 : Int32) &&& 31)) ||| (p12 &&& (255 : Int32))).toInt8.toInt32)) T111.heap n0 O111 g_b112 f120) (g := (mkF m 100 (l346_8 o1 o2) [(.int 9), (.ref b112), (.ref o1)])) rfl (by rw [hml]; rfl) rfl (hb hby d2_100) (lenOf pd3 rfl) (W := 1) (c1 := 3) (s1 := 18)
   obtain ⟨b140, k141, rfl, Nq142, K143, sz_b140, f144, f145⟩ := hQ139
   have N139 := Fr.app N131 Nq142
   have g_b140 : n0 ≤ b140 := Nat.le_trans (own_oz O111) sz_b140
   have O139 := Old.keep O111 K143 all0
   have f146 := (f117.keep K143 nin0)
   have f147 := (f116.keep K143)
   obtain ⟨T148, h148, X148, e148, W148, st148⟩ := putF X139 hx hZ hown (host := "") (Or.inl (w_18 hw)) Via.refl rfl f146 f147 (Or.inl (w_19 hw)) (w_8 hw) (ty := (.array .byte)) (by decide) rfl rfl (g := (mkF m 103 (l346_8 o1 o2) [(.ref b140), (.ref o1)])) rfl rfl (hb hby d2_103)
   have N148 := Fr.snoc X148 N139 g_o1
   have Fw148 := f146.same W148
   have O148 := Old.wr O139 W148 g_o1
   obtain ⟨T149, X149, e149, st149⟩ := yag X148 hx hZ hown hby (w_18 hw) e148 Fw148 106 (l346_8 o1 o2) [] d2_106 d2_107 rfl
   have f150 := ((f119.keep K143 nin0).other W148 (Or.inr (slot_ne (Or.inl (w_21 hw)) (Or.inl (w_19 hw)) (by decide) (t := .int) (t' := (.array .byte)) (by decide) (by decide))))
   obtain ⟨T151, X151, e151, st151⟩ := yag X149 hx hZ hown hby (w_20 hw) e149 f150 111 (l346_8 o1 o2) [(.int 1), (.ref b140)] d2_111 d2_112 rfl
   obtain ⟨T152, X152, e152, st152⟩ := yag X151 hx hZ hown hby (w_18 hw) e151 Fw148 116 (l346_8 o1 o2) [(.int 3), (.ref b140)] d2_116 d2_117 rfl
   obtain ⟨T153, X153, e153, st153⟩ := yag X152 hx hZ hown hby (w_20 hw) e152 f150 124 (l346_8 o1 o2) [(.int 2), (.ref b140), (.int 3), (.ref b140)] d2_124 d2_125 rfl
   have f154 := ((f118.keep K143 nin0).other W148 (Or.inr (slot_ne (Or.inl (w_35 hw)) (Or.inl (w_19 hw)) (by decide) (t := .int) (t' := (.array .byte)) (by decide) (by decide))))
   obtain ⟨T155, X155, e155, st155⟩ := yag X153 hx hZ hown hby (w_34 hw) e153 f154 129 (l346_8 o1 o2) [(.int 6), (.ref b140), (.int 3), (.ref b140)] d2_129 d2_130 rfl
   obtain ⟨T156, X156, e156, st156⟩ := yag X155 hx hZ hown hby (w_20 hw) e155 f150 135 (l346_8 o1 o2) [(.int 1), (.int 6), (.ref b140), (.int 3), (.ref b140)] d2_135 d2_136 rfl
   have lt157 : o1 < T111.heap.size := (Nat.lt_of_lt_of_le P0.lt K115.1)
   have ne158 : o1 ≠ b140 := Nat.ne_of_lt (Nat.lt_of_lt_of_le lt157 sz_b140)
   have f159 := (f144.other W148 (Ne.symm ne158))
   obtain ⟨T160, h160, L160, X160, e160, N160, K160, VV160, st160⟩ := cpA X156 hx hZ hown (own_w hw 48 rfl) (w_47 hw) (w_45 hw) (w_46 hw) e156 (us := [(.int ((((((((p11 &&& (255 : Int32)) <<< ((8 : Int32) &&& 31)) ||| (p12 &&& (255 : Int32))).toUInt32 >>> ((8 : Int32) &&& 31).toUInt32).toInt32).toUInt32 >>> ((8 : Int32) &&& 31).toUInt32).toInt32).toInt8.toInt32)), (.int ((((((p11 &&& (255 : Int32)) <<< ((8 : Int32) &&& 31)) ||| (p12 &&& (255 : Int32))).toUInt32 >>> ((8 : Int32) &&& 31).toUInt32).toInt32).toInt8.toInt32)), (.int ((((p11 &&& (255 : Int32)) <<< ((8 : Int32) &&& 31)) ||| (p12 &&& (255 : Int32))).toInt8.toInt32))]) f159 f159 (Or.inl ⟨rfl, rfl⟩) (by decide) (by decide) (by decide) (by decide) (by decide) rfl (by first | decide | exact (by decide : 6 + 3 ≤ 9)) N148 g_b140 (g := (mkF m 140 (l346_8 o1 o2) [(.int 3), (.int 6), (.ref b140), (.int 3), (.ref b140)])) rfl (by rw [hml]; rfl) rfl (hb hby d2_140) (by decide) (W := 0) (by show 2 * 0 + _ ≤ _; exact Nat.le_of_eq rfl) (by decide)
   have V160 : Arv Z h160 b140 k141 .byte (9 : Int32) [(.int ((((((((p9 &&& (255 : Int32)) <<< ((8 : Int32) &&& 31)) ||| (p10 &&& (255 : Int32))).toUInt32 >>> ((8 : Int32) &&& 31).toUInt32).toInt32).toUInt32 >>> ((8 : Int32) &&& 31).toUInt32).toInt32).toInt8.toInt32)), (.int ((((((p9 &&& (255 : Int32)) <<< ((8 : Int32) &&& 31)) ||| (p10 &&& (255 : Int32))).toUInt32 >>> ((8 : Int32) &&& 31).toUInt32).toInt32).toInt8.toInt32)), (.int ((((p9 &&& (255 : Int32)) <<< ((8 : Int32) &&& 31)) ||| (p10 &&& (255 : Int32))).toInt8.toInt32)), (.int ((((((((p11 &&& (255 : Int32)) <<< ((8 : Int32) &&& 31)) ||| (p12 &&& (255 : Int32))).toUInt32 >>> ((8 : Int32) &&& 31).toUInt32).toInt32).toUInt32 >>> ((8 : Int32) &&& 31).toUInt32).toInt32).toInt8.toInt32)), (.int ((((((p11 &&& (255 : Int32)) <<< ((8 : Int32) &&& 31)) ||| (p12 &&& (255 : Int32))).toUInt32 >>> ((8 : Int32) &&& 31).toUInt32).toInt32).toInt8.toInt32)), (.int ((((p11 &&& (255 : Int32)) <<< ((8 : Int32) &&& 31)) ||| (p12 &&& (255 : Int32))).toInt8.toInt32)), (.int ((((((((p11 &&& (255 : Int32)) <<< ((8 : Int32) &&& 31)) ||| (p12 &&& (255 : Int32))).toUInt32 >>> ((8 : Int32) &&& 31).toUInt32).toInt32).toUInt32 >>> ((8 : Int32) &&& 31).toUInt32).toInt32).toInt8.toInt32)), (.int ((((((p11 &&& (255 : Int32)) <<< ((8 : Int32) &&& 31)) ||| (p12 &&& (255 : Int32))).toUInt32 >>> ((8 : Int32) &&& 31).toUInt32).toInt32).toInt8.toInt32)), (.int ((((p11 &&& (255 : Int32)) <<< ((8 : Int32) &&& 31)) ||| (p12 &&& (255 : Int32))).toInt8.toInt32))] (.int 0) := VV160
   have O160 := Old.keep O148 K160 (allS g_b140 all0)
   have f161 := (f154.keep K160 (ninS ne158 nin0))
   obtain ⟨T162, X162, e162, st162⟩ := yg X160 hx hZ hown hby (w_34 hw) e160 f161 145 (l346_8 o1 o2) [(.ref o1)] d2_145
   have f163 := ((f147.wr W148).keep K160)
   obtain ⟨T164, h164, X164, e164, W164, st164⟩ := putF X162 hx hZ hown (host := "") (Or.inl (w_34 hw)) Via.refl e162 f161 f163 (Or.inl (w_35 hw)) (w_8 hw) (ty := .int) (by decide) rfl rfl (g := (mkF m 151 (l346_8 o1 o2) [(.int 3), (.ref o1)])) rfl rfl (hb hby d2_151)
   have N164 := Fr.snoc X164 N160 g_o1
   have Fw164 := f161.same W164
   have O164 := Old.wr O160 W164 g_o1
   have f165 := (((((P5.keep K115).keep K143).wr W148).keep K160).wr W164)
   have f166 := (f163.wr W164)
   have ne167 : o2 ≠ o1 := ne_exa f165 f166 (by decide)
   have lt168 : o2 < T111.heap.size := (Nat.lt_of_lt_of_le P4.lt K115.1)
   have ne169 : o2 ≠ b140 := Nat.ne_of_lt (Nat.lt_of_lt_of_le lt168 sz_b140)
   have f170 := (((((P4.keep K115 (ninS ne167 nin0)).keep K143 nin0).other W148 ne167).keep K160 (ninS ne169 nin0)).other W164 ne167)
   obtain ⟨cl171, Ar171, qa171, Sa171, Na171, Ha171, Ga171⟩ := id (f170)
   have hin171 := inb_of (j := (2 : Int32)) Sa171 ⟨by decide, by decide⟩
   have hat171 : cl171.slots[((2 : Int32)).toNatClampNeg]? = some (.int p7) := Has.at Ha171 hin171 rfl
   have f172 := ((Fw148.keep K160 (ninS ne158 nin0)).other W164 (Or.inr (slot_ne (Or.inl (w_19 hw)) (Or.inl (w_35 hw)) (by decide) (t := (.array .byte)) (t' := .int) (by decide) (by decide))))
   have f173 := ((f150.keep K160 (ninS ne158 nin0)).other W164 (Or.inr (slot_ne (Or.inl (w_21 hw)) (Or.inl (w_35 hw)) (by decide) (t := .int) (t' := .int) (by decide) (by decide))))
   have f174 := (V160.other W164 (Ne.symm ne158))
   have f175 := (((f145.wr W148).keep K160).wr W164)
   obtain ⟨_, T176, L176, X176, hQ176, st176⟩ := own_pb X164 hx hZ hown (y := yn6) (w_49 hw) (w_50 hw) (own_selp (mvT hZ (w_25 hw)) rfl (Cond.privateMethod_at (mvP hZ (w_51 hw) (args := #[]))) (mvT hZ (w_50 hw)) (by decide)) (w_51 hw) (own_w hw 52 rfl) (w_9 hw) e164 f166 (argsL := [(.int 1), (.int p7)]) (rest := []) (rm48 l Z a0 hw [] o1 b140 k141 (((((((((p9 &&& (255 : Int32)) <<< ((8 : Int32) &&& 31)) ||| (p10 &&& (255 : Int32))).toUInt32 >>> ((8 : Int32) &&& 31).toUInt32).toInt32).toUInt32 >>> ((8 : Int32) &&& 31).toUInt32).toInt32).toInt8.toInt32)) (((((((p9 &&& (255 : Int32)) <<< ((8 : Int32) &&& 31)) ||| (p10 &&& (255 : Int32))).toUInt32 >>> ((8 : Int32) &&& 31).toUInt32).toInt32).toInt8.toInt32)) (((((p9 &&& (255 : Int32)) <<< ((8 : Int32) &&& 31)) ||| (p10 &&& (255 : Int32))).toInt8.toInt32)) (((((((((p11 &&& (255 : Int32)) <<< ((8 : Int32) &&& 31)) ||| (p12 &&& (255 : Int32))).toUInt32 >>> ((8 : Int32) &&& 31).toUInt32).toInt32).toUInt32 >>> ((8 : Int32) &&& 31).toUInt32).toInt32).toInt8.toInt32)) (((((((p11 &&& (255 : Int32)) <<< ((8 : Int32) &&& 31)) ||| (p12 &&& (255 : Int32))).toUInt32 >>> ((8 : Int32) &&& 31).toUInt32).toInt32).toInt8.toInt32)) (((((p11 &&& (255 : Int32)) <<< ((8 : Int32) &&& 31)) ||| (p12 &&& (255 : Int32))).toInt8.toInt32)) (((((((((p11 &&& (255 : Int32)) <<< ((8 : Int32) &&& 31)) ||| (p12 &&& (255 : Int32))).toUInt32 >>> ((8 : Int32) &&& 31).toUInt32).toInt32).toUInt32 >>> ((8 : Int32) &&& 31).toUInt32).toInt32).toInt8.toInt32)) (((((((p11 &&& (255 : Int32)) <<< ((8 : Int32) &&& 31)) ||| (p12 &&& (255 : Int32))).toUInt32 >>> ((8 : Int32) &&& 31).toUInt32).toInt32).toInt8.toInt32)) (((((p11 &&& (255 : Int32)) <<< ((8 : Int32) &&& 31)) ||| (p12 &&& (255 : Int32))).toInt8.toInt32)) p7 h164 n0 O164 g_o1 g_b140 f166 f172 f173 f174 f175) (g := (mkF m 175 (l346_2 o1 o2) [(.int p7), (.int 1), (.ref o1)])) rfl (by rw [hml]; rfl) rfl (hb hby d2_175) (lenOf pd4 rfl) (W := 0) (c1 := 3) (s1 := 18)
   obtain ⟨rfl, Nq177, K178, f179, f180⟩ := hQ176
   have N176 := Fr.app N164 Nq177
   obtain ⟨fs, hr, hrun, hended, hW, hsame⟩ := X176.leave (v := none) (fun _ => rfl)
   have KL : Keep h0 T176.heap [o1] := (((((((Keep.refl h0 [o1]).trans K115 (allS (Or.inl (List.mem_of_getElem? (i := 0) rfl)) all0)).trans K143 all0).wr W148 (Or.inl (List.mem_of_getElem? (i := 0) rfl))).trans K160 (allS (Or.inr (Nat.le_trans M111 sz_b140)) all0)).wr W164 (Or.inl (List.mem_of_getElem? (i := 0) rfl))).trans K178 (allS (Or.inr (Nat.le_trans M111 sz_b140)) all0))
   have f181 := (f166.keep K178)
   have f182 := (f172.keep K178 (ninS ne158 nin0))
   have f183 := (Fw164.keep K178 (ninS ne158 nin0))
   have f184 := (f173.keep K178 (ninS ne158 nin0))
   refine ⟨_, _, pre132 _ ?_, hrun, hended, _, _, rfl, ?_, ⟨_, rfl⟩, hW, hsame.mono (by decide) (by decide)⟩
   ·
    refine st131 _ ?_
    refine st139 _ ?_
    refine st148 _ ?_
    refine st149 _ ?_
    refine yin X149 hx hby d2_110 rfl ?_
    show Steps p.tables e below (T149.setTop (mkF m 111 (l346_8 o1 o2) [(.int 1), (.ref b140)])) _
    refine st151 _ ?_
    refine XS.imul X151.here hx rfl (hb hby d2_115) rfl ?_
    refine st152 _ ?_
    refine yin X152 hx hby d2_120 rfl ?_
    refine yil X152 hx hby d2_121 rfl ?_
    refine yad X152 hx hby d2_123 ?_
    refine st153 _ ?_
    refine XS.imul X153.here hx rfl (hb hby d2_128) rfl ?_
    refine st155 _ ?_
    refine yin X155 hx hby d2_133 rfl ?_
    refine ysu X155 hx hby d2_134 ?_
    refine st156 _ ?_
    refine XS.imul X156.here hx rfl (hb hby d2_139) rfl ?_
    refine st160 _ ?_
    refine yan X160 hx hby d2_143 rfl rfl ?_
    refine XS.dup X160.here hx rfl (hb hby d2_144) rfl rfl ?_
    refine st162 _ ?_
    refine yil X162 hx hby d2_148 rfl ?_
    refine yad X162 hx hby d2_150 ?_
    refine st164 _ ?_
    refine XS.iconst X164.here hx rfl (hb hby d2_154) ?_
    refine yis X164 hx hby d2_155 (l' := (l346_2 o1 o2)) rfl ?_
    refine yil X164 hx hby d2_157 rfl ?_
    refine yil X164 hx hby d2_159 rfl ?_
    refine yno X164 hx hby d2_161 (tlt (by decide : (0 : Int32) < (1 : Int32))).2.1 ?_
    refine yan X164 hx hby d2_164 rfl rfl ?_
    refine yin X164 hx hby d2_165 rfl ?_
    refine yil X164 hx hby d2_166 rfl ?_
    refine yad X164 hx hby d2_168 ?_
    refine yan X164 hx hby d2_169 rfl rfl ?_
    refine yin X164 hx hby d2_170 rfl ?_
    refine yil X164 hx hby d2_171 rfl ?_
    refine yad X164 hx hby d2_173 ?_
    refine X164.iaload hx (j := (2 : Int32)) (v := (.int p7)) (by rw [e164]; exact Ar171.1) (State.isArrayOf_alike hZ.alike Ar171.2.1) Ar171.2.2 hin171 hat171 (g := (mkF m 174 (l346_2 o1 o2) [(.int 2), (.ref o2), (.int 1), (.ref o1)])) rfl rfl (hb hby d2_174) _ ?_
    refine st176 _ ?_
    refine XS.iinc X176.here hx rfl (hb hby d2_178) rfl (l' := (l346_3 o1 o2)) rfl ?_
    show Steps p.tables e below (T176.setTop (mkF m 181 (l346_3 o1 o2) [])) _
    refine ygo X176 hx hby 181 157 rfl d2_181 (by decide) ?_
    refine yil X176 hx hby d2_157 rfl ?_
    refine yil X176 hx hby d2_159 rfl ?_
    refine yye X176 hx hby 161 184 rfl d2_161 (flt (by decide : ¬ ((1 : Int32) < (1 : Int32)))).2.1 (by decide) ?_
    show Steps p.tables e below (T176.setTop (mkF m 184 (l346_3 o1 o2) [])) _
    exact X176.returnOut hx hret (hb hby d2_184) hr
   ·
    show Q50 Z w1 kw1 o1 o2 o3 kc4 p5 p6 p7 kc8 p9 p10 p11 p12 h0 n0 _ T176.heap _
    exact (Or.inr ⟨b140, k141, rfl, N176, KL, (Nat.le_trans M111 sz_b140), f181, f182, f183, f184, f179, f180⟩)
def l347_0 (o1 o2 : Addr) : Array Slot := #[.val (.ref o1), .val (.int 1), .val (.ref o2), .val (.int 2), .val (.int 1), .val (.int 3), .val (.int 9), .val (.int 0)]
def l347_1 (o1 o2 : Addr) : Array Slot := #[.val (.ref o1), .val (.int 1), .val (.ref o2), .val (.int 2), .val (.int 1), .val (.int 3), .val (.int 9), .val (.int 1)]
def l347_2 (o1 o2 : Addr) : Array Slot := #[.val (.ref o1), .val (.int 1), .val (.ref o2), .val (.int 2), .val (.int 1), .val (.int 3), .val (.int 3), .unset]
def l347_3 (o1 o2 : Addr) : Array Slot := #[.val (.ref o1), .val (.int 1), .val (.ref o2), .val (.int 2), .val (.int 1), .val (.int 3), .val (.int 2), .unset]
def l347_4 (o1 o2 : Addr) : Array Slot := #[.val (.ref o1), .val (.int 1), .val (.ref o2), .val (.int 2), .val (.int 1), .val (.int 3), .val (.int 9), .unset]
theorem ef51 (m : MethodId) (x0 : Addr) (x1 : Int32) (x2 : Addr) (x3 x4 : Int32) : entryFrame m #[(.ref x0), (.int x1), (.ref x2), (.int x3), (.int x4)] 8 = mkF m 0 #[.val (.ref x0), .val (.int x1), .val (.ref x2), .val (.int x3), .val (.int x4), .unset, .unset, .unset] [] := by first | (simp [entryFrame, mkF, argsToLocals, Value.category]; done) | rfl
def Q51 (Z : State) (o1 o2 o3 : Addr) (kc4 : ClassId) (p5 p6 p7 : Int32) (kc8 : ClassId) (p9 p10 : Int32) (p11 p12 : Int32) (p13 p14 : Int32) (h0 : Heap) (n0 : Nat) (v : Option Value) (h : Heap) (L : List Loc) : Prop :=
  (∃ b63 : Addr, ∃ k64 : ClassId, v = none ∧ Fr n0 L ∧ Keep h0 h [o1] ∧ h0.size ≤ b63 ∧ (Exa Z h o1 "com/example/driftless/driftless/CodePoints") ∧ (Fld Z h o1 "com/example/driftless/driftless/CodePoints" "bytes" "[B" (.ref b63)) ∧ (Fld Z h o1 "com/example/driftless/driftless/CodePoints" "length" "I" (.int 3)) ∧ (Fld Z h o1 "com/example/driftless/driftless/CodePoints" "width" "I" (.int 3)) ∧ (Arv Z h b63 k64 .byte (9 : Int32) [(.int p9), (.int p10), (.int p11), (.int (((((p7.toUInt32 >>> ((8 : Int32) &&& 31).toUInt32).toInt32).toUInt32 >>> ((8 : Int32) &&& 31).toUInt32).toInt32).toInt8.toInt32)), (.int (((p7.toUInt32 >>> ((8 : Int32) &&& 31).toUInt32).toInt32).toInt8.toInt32)), (.int (p7.toInt8.toInt32)), (.int p12), (.int p13), (.int p14)] (.int 0)) ∧ (Exa Z h b63 "[B"))
set_option maxRecDepth 65536 in
set_option maxHeartbeats 40000000 in
theorem rm51 (l : Launch) (Z : State) (a0 : Array Value) (hw : HW a0 Z) (ws : List Jvm.Cond) (o1 o2 o3 : Addr) (kc4 : ClassId) (p5 p6 p7 : Int32) (kc8 : ClassId) (p9 p10 : Int32) (p11 p12 : Int32) (p13 p14 : Int32) (h0 : Heap) (n0 : Nat) (O0 : Old Z n0 h0) (g_o1 : n0 ≤ o1) (g_o2 : n0 ≤ o2) (g_o3 : n0 ≤ o3) (P0 : Exa Z h0 o1 "com/example/driftless/driftless/CodePoints") (P1 : Fld Z h0 o1 "com/example/driftless/driftless/CodePoints" "bytes" "[B" (.ref o3)) (P2 : Fld Z h0 o1 "com/example/driftless/driftless/CodePoints" "length" "I" (.int 2)) (P3 : Fld Z h0 o1 "com/example/driftless/driftless/CodePoints" "width" "I" (.int 3)) (P4 : Arv Z h0 o2 kc4 .int (3 : Int32) [(.int p5), (.int p6), (.int p7)] (.int 0)) (P5 : Exa Z h0 o2 "[I") (P6 : Arv Z h0 o3 kc8 .byte (6 : Int32) [(.int p9), (.int p10), (.int p11), (.int p12), (.int p13), (.int p14)] (.int 0)) :
    MF l yn8 prog_6_method_5_code 8 none ws ({ frames := 2, cells := 1, slots := 9, locals := 36 } : Room) #[(.ref o1), (.int 1), (.ref o2), (.int 2), (.int 1)] Z h0 (Q51 Z o1 o2 o3 kc4 p5 p6 p7 kc8 p9 p10 p11 p12 p13 p14 h0 n0) := by
 refine MetFree.of_bodySF (plainFor_of_name pn1) hisR ?_
 intro p e s m args below meth c s₁ Bd hml hP hK
 obtain ⟨rfl, hZ, hh⟩ := hP
 obtain ⟨hx, hby, hown, hret, hlk, X0, e0, N0⟩ := own_bd Bd hh n0
 have pre0 := own_ct s₁ (p := p) (e := e) (below := below) (ef51 m o1 (1 : Int32) o2 (2 : Int32) (1 : Int32))
 revert pre0
 generalize s₁.setTop (entryFrame m #[(.ref o1), (.int 1), (.ref o2), (.int 2), (.int 1)] 8) = E0
 intro pre0
 have J0 : (∃ (T : State) (locs : List Loc), Stand p l e ({ frames := 2, cells := 1, slots := 9, locals := 36 } : Room) s m #[(.ref o1), (.int 1), (.ref o2), (.int 2), (.int 1)] below meth c T locs 0 0 ∧ T.heap = h0 ∧ Fr n0 locs ∧ (Go p e below T (mkF m 38 (l347_2 o1 o2) []) E0)) := by
  obtain ⟨T1, X1, e1, st1⟩ := yag X0 hx hZ hown hby (w_20 hw) e0 P3 0 #[.val (.ref o1), .val (.int 1), .val (.ref o2), .val (.int 2), .val (.int 1), .unset, .unset, .unset] [] d2_0 d2_1 rfl
  obtain ⟨cl2, Ar2, qa2, Sa2, Na2, Ha2, Ga2⟩ := id (P4)
  have hin2 := inb_of (j := (2 : Int32)) Sa2 ⟨by decide, by decide⟩
  have hat2 : cl2.slots[((2 : Int32)).toNatClampNeg]? = some (.int p7) := Has.at Ha2 hin2 rfl
  obtain ⟨_, T3, L3, X3, hQ3, st3⟩ := own_cs X1 hx hZ hown (y := yn2) (own_w hw 27 rfl) (own_w hw 28 rfl) (own_w hw 29 rfl) (w_9 hw) e1 (argsL := [(.int p7)]) (rest := [(.int 3)]) (rm3 l Z a0 hw [] p7 h0 n0 O0 ) (g := (mkF m 24 (l347_3 o1 o2) [(.int p7), (.int 3)])) rfl (by rw [hml]; rfl) rfl (hb hby d2_24) (lenOf pd2 rfl) (W := 1) (c1 := 0) (s1 := 0)
  have pre4 : Go p e below T1 (mkF m 24 (l347_3 o1 o2) [(.int p7), (.int 3)]) E0 := fun t k => by
   refine pre0 _ ?_
   refine st1 _ ?_
   refine yis X1 hx hby d2_4 (l' := #[.val (.ref o1), .val (.int 1), .val (.ref o2), .val (.int 2), .val (.int 1), .val (.int 3), .unset, .unset]) rfl ?_
   refine yin X1 hx hby d2_6 rfl ?_
   refine yis X1 hx hby d2_7 (l' := (l347_3 o1 o2)) rfl ?_
   refine yil X1 hx hby d2_9 rfl ?_
   refine yin X1 hx hby d2_11 rfl ?_
   refine yil X1 hx hby d2_12 rfl ?_
   refine yad X1 hx hby d2_14 ?_
   refine yno X1 hx hby d2_15 (tlt (by decide : (2 : Int32) < (3 : Int32))).2.1 ?_
   refine yil X1 hx hby d2_18 rfl ?_
   refine yan X1 hx hby d2_20 rfl rfl ?_
   refine yil X1 hx hby d2_21 rfl ?_
   refine X1.iaload hx (j := (2 : Int32)) (v := (.int p7)) (by rw [e1]; exact Ar2.1) (State.isArrayOf_alike hZ.alike Ar2.2.1) Ar2.2.2 hin2 hat2 (g := (mkF m 23 (l347_3 o1 o2) [(.int 2), (.ref o2), (.int 3)])) rfl rfl (hb hby d2_23) _ ?_
   exact k
  rcases hQ3 with ⟨hc5, rfl, Nq6, e7⟩ | ⟨hc8, hc9, rfl, Nq10, e11⟩ | ⟨hc12, hc13, rfl, Nq14, e15⟩
  ·
   have N3 := Fr.app N0 Nq6
   obtain ⟨_, T16, L16, X16, hQ16, st16⟩ := own_cs X3 hx hZ hown (y := yn3) (w_30 hw) (w_31 hw) (w_33 hw) (w_32 hw) e7 (argsL := [(.int 3), (.int 1)]) (rest := []) (rm4 l Z a0 hw [] ((3 : Int32)) ((1 : Int32)) h0 n0 O0 ) (g := (mkF m 27 (l347_3 o1 o2) [(.int 1), (.int 3)])) rfl (by rw [hml]; rfl) rfl (hb hby d2_27) (lenOf pd0 rfl) (W := 0) (c1 := 0) (s1 := 0)
   have pre17 : Go p e below T3 (mkF m 27 (l347_3 o1 o2) [(.int 1), (.int 3)]) E0 := fun t k => by
    refine pre4 _ ?_
    refine st3 _ ?_
    exact k
   rcases hQ16 with ⟨hc18, rfl, Nq19, e20⟩ | ⟨hc21, rfl, Nq22, e23⟩
   ·
    exact absurd hc18 (by decide : ¬ ((3 : Int32) < (1 : Int32)))
   ·
    have N16 := Fr.app N3 Nq22
    have pre24 : Go p e below T16 (mkF m 38 (l347_2 o1 o2) []) E0 := fun t k => by
     refine pre17 _ ?_
     refine st16 _ ?_
     refine yis X16 hx hby d2_30 (l' := (l347_3 o1 o2)) rfl ?_
     refine XS.iinc X16.here hx rfl (hb hby d2_32) rfl (l' := (l347_2 o1 o2)) rfl ?_
     refine ygo X16 hx hby 35 9 rfl d2_35 (by decide) ?_
     refine yil X16 hx hby d2_9 rfl ?_
     refine yin X16 hx hby d2_11 rfl ?_
     refine yil X16 hx hby d2_12 rfl ?_
     refine yad X16 hx hby d2_14 ?_
     refine yye X16 hx hby 15 38 rfl d2_15 (flt (by decide : ¬ ((3 : Int32) < (3 : Int32)))).2.1 (by decide) ?_
     exact k
    exact ⟨_, _, X16.more (by decide) (by decide), e23, N16, pre24⟩
  ·
   have N3 := Fr.app N0 Nq10
   obtain ⟨_, T25, L25, X25, hQ25, st25⟩ := own_cs X3 hx hZ hown (y := yn3) (w_30 hw) (w_31 hw) (w_33 hw) (w_32 hw) e11 (argsL := [(.int 3), (.int 2)]) (rest := []) (rm4 l Z a0 hw [] ((3 : Int32)) ((2 : Int32)) h0 n0 O0 ) (g := (mkF m 27 (l347_3 o1 o2) [(.int 2), (.int 3)])) rfl (by rw [hml]; rfl) rfl (hb hby d2_27) (lenOf pd0 rfl) (W := 0) (c1 := 0) (s1 := 0)
   have pre26 : Go p e below T3 (mkF m 27 (l347_3 o1 o2) [(.int 2), (.int 3)]) E0 := fun t k => by
    refine pre4 _ ?_
    refine st3 _ ?_
    exact k
   rcases hQ25 with ⟨hc27, rfl, Nq28, e29⟩ | ⟨hc30, rfl, Nq31, e32⟩
   ·
    exact absurd hc27 (by decide : ¬ ((3 : Int32) < (2 : Int32)))
   ·
    have N25 := Fr.app N3 Nq31
    have pre33 : Go p e below T25 (mkF m 38 (l347_2 o1 o2) []) E0 := fun t k => by
     refine pre26 _ ?_
     refine st25 _ ?_
     refine yis X25 hx hby d2_30 (l' := (l347_3 o1 o2)) rfl ?_
     refine XS.iinc X25.here hx rfl (hb hby d2_32) rfl (l' := (l347_2 o1 o2)) rfl ?_
     refine ygo X25 hx hby 35 9 rfl d2_35 (by decide) ?_
     refine yil X25 hx hby d2_9 rfl ?_
     refine yin X25 hx hby d2_11 rfl ?_
     refine yil X25 hx hby d2_12 rfl ?_
     refine yad X25 hx hby d2_14 ?_
     refine yye X25 hx hby 15 38 rfl d2_15 (flt (by decide : ¬ ((3 : Int32) < (3 : Int32)))).2.1 (by decide) ?_
     exact k
    exact ⟨_, _, X25.more (by decide) (by decide), e32, N25, pre33⟩
  ·
   have N3 := Fr.app N0 Nq14
   obtain ⟨_, T34, L34, X34, hQ34, st34⟩ := own_cs X3 hx hZ hown (y := yn3) (w_30 hw) (w_31 hw) (w_33 hw) (w_32 hw) e15 (argsL := [(.int 3), (.int 3)]) (rest := []) (rm4 l Z a0 hw [] ((3 : Int32)) ((3 : Int32)) h0 n0 O0 ) (g := (mkF m 27 (l347_3 o1 o2) [(.int 3), (.int 3)])) rfl (by rw [hml]; rfl) rfl (hb hby d2_27) (lenOf pd0 rfl) (W := 0) (c1 := 0) (s1 := 0)
   have pre35 : Go p e below T3 (mkF m 27 (l347_3 o1 o2) [(.int 3), (.int 3)]) E0 := fun t k => by
    refine pre4 _ ?_
    refine st3 _ ?_
    exact k
   rcases hQ34 with ⟨hc36, rfl, Nq37, e38⟩ | ⟨hc39, rfl, Nq40, e41⟩
   ·
    exact absurd hc36 (by decide : ¬ ((3 : Int32) < (3 : Int32)))
   ·
    have N34 := Fr.app N3 Nq40
    have pre42 : Go p e below T34 (mkF m 38 (l347_2 o1 o2) []) E0 := fun t k => by
     refine pre35 _ ?_
     refine st34 _ ?_
     refine yis X34 hx hby d2_30 (l' := (l347_3 o1 o2)) rfl ?_
     refine XS.iinc X34.here hx rfl (hb hby d2_32) rfl (l' := (l347_2 o1 o2)) rfl ?_
     refine ygo X34 hx hby 35 9 rfl d2_35 (by decide) ?_
     refine yil X34 hx hby d2_9 rfl ?_
     refine yin X34 hx hby d2_11 rfl ?_
     refine yil X34 hx hby d2_12 rfl ?_
     refine yad X34 hx hby d2_14 ?_
     refine yye X34 hx hby 15 38 rfl d2_15 (flt (by decide : ¬ ((3 : Int32) < (3 : Int32)))).2.1 (by decide) ?_
     exact k
    exact ⟨_, _, X34.more (by decide) (by decide), e41, N34, pre42⟩
 obtain ⟨T43, lc43, X43, e43, N43, pre43⟩ := J0
 obtain ⟨T44, X44, e44, st44⟩ := yag X43 hx hZ hown hby (w_20 hw) e43 P3 40 (l347_2 o1 o2) [(.int 3)] d2_40 d2_41 rfl
 obtain ⟨T45, X45, e45, st45⟩ := yag X44 hx hZ hown hby (w_34 hw) e44 P2 53 (l347_2 o1 o2) [] d2_53 d2_54 rfl
 obtain ⟨T46, X46, e46, st46⟩ := yag X45 hx hZ hown hby (w_20 hw) e45 P3 60 (l347_2 o1 o2) [(.int 3)] d2_60 d2_61 rfl
 obtain ⟨T47, X47, e47, st47⟩ := yag X46 hx hZ hown hby (w_18 hw) e46 P1 69 (l347_4 o1 o2) [(.int 9)] d2_69 d2_70 rfl
 obtain ⟨cl48, Ar48, qa48, Sa48, Na48, Ha48, Ga48⟩ := id (P6)
 obtain ⟨T49, X49, e49, st49⟩ := yag X47 hx hZ hown hby (w_18 hw) e47 P1 78 (l347_4 o1 o2) [(.ref o1)] d2_78 d2_79 rfl
 obtain ⟨T50, X50, e50, st50⟩ := yag X49 hx hZ hown hby (w_18 hw) e49 P1 84 (l347_4 o1 o2) [(.int 9), (.ref o3), (.ref o1)] d2_84 d2_85 rfl
 obtain ⟨cl51, Ar51, qa51, Sa51, Na51, Ha51, Ga51⟩ := id (P6)
 obtain ⟨T52, X52, e52, st52⟩ := yag X50 hx hZ hown hby (w_18 hw) e50 P1 89 (l347_4 o1 o2) [(.int 6), (.int 9), (.ref o3), (.ref o1)] d2_89 d2_90 rfl
 obtain ⟨cl53, Ar53, qa53, Sa53, Na53, Ha53, Ga53⟩ := id (P6)
 obtain ⟨_, T54, L54, X54, hQ54, st54⟩ := own_cs X52 hx hZ hown (y := yn3) (w_30 hw) (w_31 hw) (w_33 hw) (w_32 hw) e52 (argsL := [(.int 9), (.int 9)]) (rest := [(.ref o3), (.ref o1)]) (rm4 l Z a0 hw [] ((9 : Int32)) ((9 : Int32)) h0 n0 O0 ) (g := (mkF m 97 (l347_4 o1 o2) [(.int 9), (.int 9), (.ref o3), (.ref o1)])) rfl (by rw [hml]; rfl) rfl (hb hby d2_97) (lenOf pd0 rfl) (W := 2) (c1 := 0) (s1 := 0)
 have pre55 : Go p e below T52 (mkF m 97 (l347_4 o1 o2) [(.int 9), (.int 9), (.ref o3), (.ref o1)]) E0 := fun t k => by
  refine pre43 _ ?_
  refine yil X43 hx hby d2_38 rfl ?_
  refine st44 _ ?_
  refine yye X44 hx hby 44 53 rfl d2_44 (flt (by decide : ¬ ((3 : Int32) < (3 : Int32)))).2.2.2 (by decide) ?_
  refine st45 _ ?_
  refine yil X45 hx hby d2_57 rfl ?_
  refine yad X45 hx hby d2_59 ?_
  refine st46 _ ?_
  refine XS.imul X46.here hx rfl (hb hby d2_64) rfl ?_
  refine yis X46 hx hby d2_65 (l' := (l347_4 o1 o2)) rfl ?_
  refine yil X46 hx hby d2_67 rfl ?_
  refine st47 _ ?_
  refine X47.arraylength hx (by rw [e47]; exact Ar48.1) (State.isArrayOf_alike hZ.alike Ar48.2.1) (g := (mkF m 73 (l347_4 o1 o2) [(.ref o3), (.int 9)])) rfl rfl (hb hby d2_73) _ ?_
  rw [len_of Sa48 Na48]
  refine yno X47 hx hby d2_74 (tlt (by decide : (6 : Int32) < (9 : Int32))).2.2.2 ?_
  refine yan X47 hx hby d2_77 rfl rfl ?_
  refine st49 _ ?_
  refine yil X49 hx hby d2_82 rfl ?_
  refine st50 _ ?_
  refine X50.arraylength hx (by rw [e50]; exact Ar51.1) (State.isArrayOf_alike hZ.alike Ar51.2.1) (g := (mkF m 88 (l347_4 o1 o2) [(.ref o3), (.int 9), (.ref o3), (.ref o1)])) rfl rfl (hb hby d2_88) _ ?_
  rw [len_of Sa51 Na51]
  refine st52 _ ?_
  refine X52.arraylength hx (by rw [e52]; exact Ar53.1) (State.isArrayOf_alike hZ.alike Ar53.2.1) (g := (mkF m 93 (l347_4 o1 o2) [(.ref o3), (.int 6), (.int 9), (.ref o3), (.ref o1)])) rfl rfl (hb hby d2_93) _ ?_
  rw [len_of Sa53 Na53]
  refine XS.iconst X52.here hx rfl (hb hby d2_94) ?_
  refine XS.idiv X52.here hx rfl (hb hby d2_95) rfl (by decide : ¬ ((2 : Int32) = (0 : Int32))) ?_
  refine yad X52 hx hby d2_96 ?_
  exact k
 rcases hQ54 with ⟨hc56, rfl, Nq57, e58⟩ | ⟨hc59, rfl, Nq60, e61⟩
 ·
  exact absurd hc56 (by decide : ¬ ((9 : Int32) < (9 : Int32)))
 ·
  have N54 := Fr.app N43 Nq60
  obtain ⟨_, T62, L62, X62, hQ62, st62⟩ := own_cs X54 hx hZ hown (y := yn5) (own_w hw 36 rfl) (w_37 hw) (own_w hw 39 rfl) (w_38 hw) e61 (argsL := [(.ref o3), (.int 9)]) (rest := [(.ref o1)]) (rm26 l Z a0 hw [] o3 kc8 p9 p10 p11 p12 p13 p14 h0 n0 O0 g_o3 P6) (g := (mkF m 100 (l347_4 o1 o2) [(.int 9), (.ref o3), (.ref o1)])) rfl (by rw [hml]; rfl) rfl (hb hby d2_100) (lenOf pd3 rfl) (W := 1) (c1 := 1) (s1 := 9)
  obtain ⟨b63, k64, rfl, Nq65, K66, sz_b63, f67, f68⟩ := hQ62
  have N62 := Fr.app N54 Nq65
  have g_b63 : n0 ≤ b63 := Nat.le_trans (own_oz O0) sz_b63
  have O62 := Old.keep O0 K66 all0
  have f69 := (P1.keep K66 nin0)
  have f70 := (P0.keep K66)
  obtain ⟨T71, h71, X71, e71, W71, st71⟩ := putF X62 hx hZ hown (host := "") (Or.inl (w_18 hw)) Via.refl rfl f69 f70 (Or.inl (w_19 hw)) (w_8 hw) (ty := (.array .byte)) (by decide) rfl rfl (g := (mkF m 103 (l347_4 o1 o2) [(.ref b63), (.ref o1)])) rfl rfl (hb hby d2_103)
  have N71 := Fr.snoc X71 N62 g_o1
  have Fw71 := f69.same W71
  have O71 := Old.wr O62 W71 g_o1
  obtain ⟨T72, X72, e72, st72⟩ := yag X71 hx hZ hown hby (w_18 hw) e71 Fw71 106 (l347_4 o1 o2) [] d2_106 d2_107 rfl
  have f73 := ((P3.keep K66 nin0).other W71 (Or.inr (slot_ne (Or.inl (w_21 hw)) (Or.inl (w_19 hw)) (by decide) (t := .int) (t' := (.array .byte)) (by decide) (by decide))))
  obtain ⟨T74, X74, e74, st74⟩ := yag X72 hx hZ hown hby (w_20 hw) e72 f73 111 (l347_4 o1 o2) [(.int 1), (.ref b63)] d2_111 d2_112 rfl
  obtain ⟨T75, X75, e75, st75⟩ := yag X74 hx hZ hown hby (w_18 hw) e74 Fw71 116 (l347_4 o1 o2) [(.int 3), (.ref b63)] d2_116 d2_117 rfl
  obtain ⟨T76, X76, e76, st76⟩ := yag X75 hx hZ hown hby (w_20 hw) e75 f73 124 (l347_4 o1 o2) [(.int 2), (.ref b63), (.int 3), (.ref b63)] d2_124 d2_125 rfl
  have f77 := ((P2.keep K66 nin0).other W71 (Or.inr (slot_ne (Or.inl (w_35 hw)) (Or.inl (w_19 hw)) (by decide) (t := .int) (t' := (.array .byte)) (by decide) (by decide))))
  obtain ⟨T78, X78, e78, st78⟩ := yag X76 hx hZ hown hby (w_34 hw) e76 f77 129 (l347_4 o1 o2) [(.int 6), (.ref b63), (.int 3), (.ref b63)] d2_129 d2_130 rfl
  obtain ⟨T79, X79, e79, st79⟩ := yag X78 hx hZ hown hby (w_20 hw) e78 f73 135 (l347_4 o1 o2) [(.int 1), (.int 6), (.ref b63), (.int 3), (.ref b63)] d2_135 d2_136 rfl
  have lt80 : o1 < h0.size := P0.lt
  have ne81 : o1 ≠ b63 := Nat.ne_of_lt (Nat.lt_of_lt_of_le lt80 sz_b63)
  have f82 := (f67.other W71 (Ne.symm ne81))
  obtain ⟨T83, h83, L83, X83, e83, N83, K83, VV83, st83⟩ := cpA X79 hx hZ hown (own_w hw 48 rfl) (w_47 hw) (w_45 hw) (w_46 hw) e79 (us := [(.int p12), (.int p13), (.int p14)]) f82 f82 (Or.inl ⟨rfl, rfl⟩) (by decide) (by decide) (by decide) (by decide) (by decide) rfl (by first | decide | exact (by decide : 6 + 3 ≤ 9)) N71 g_b63 (g := (mkF m 140 (l347_4 o1 o2) [(.int 3), (.int 6), (.ref b63), (.int 3), (.ref b63)])) rfl (by rw [hml]; rfl) rfl (hb hby d2_140) (by decide) (W := 0) (by show 2 * 0 + _ ≤ _; exact Nat.le_of_eq rfl) (by decide)
  have V83 : Arv Z h83 b63 k64 .byte (9 : Int32) [(.int p9), (.int p10), (.int p11), (.int p12), (.int p13), (.int p14), (.int p12), (.int p13), (.int p14)] (.int 0) := VV83
  have O83 := Old.keep O71 K83 (allS g_b63 all0)
  have f84 := (f77.keep K83 (ninS ne81 nin0))
  obtain ⟨T85, X85, e85, st85⟩ := yg X83 hx hZ hown hby (w_34 hw) e83 f84 145 (l347_4 o1 o2) [(.ref o1)] d2_145
  have f86 := ((f70.wr W71).keep K83)
  obtain ⟨T87, h87, X87, e87, W87, st87⟩ := putF X85 hx hZ hown (host := "") (Or.inl (w_34 hw)) Via.refl e85 f84 f86 (Or.inl (w_35 hw)) (w_8 hw) (ty := .int) (by decide) rfl rfl (g := (mkF m 151 (l347_4 o1 o2) [(.int 3), (.ref o1)])) rfl rfl (hb hby d2_151)
  have N87 := Fr.snoc X87 N83 g_o1
  have Fw87 := f84.same W87
  have O87 := Old.wr O83 W87 g_o1
  have f88 := ((((P5.keep K66).wr W71).keep K83).wr W87)
  have f89 := (f86.wr W87)
  have ne90 : o2 ≠ o1 := ne_exa f88 f89 (by decide)
  have lt91 : o2 < h0.size := P4.lt
  have ne92 : o2 ≠ b63 := Nat.ne_of_lt (Nat.lt_of_lt_of_le lt91 sz_b63)
  have f93 := ((((P4.keep K66 nin0).other W71 ne90).keep K83 (ninS ne92 nin0)).other W87 ne90)
  obtain ⟨cl94, Ar94, qa94, Sa94, Na94, Ha94, Ga94⟩ := id (f93)
  have hin94 := inb_of (j := (2 : Int32)) Sa94 ⟨by decide, by decide⟩
  have hat94 : cl94.slots[((2 : Int32)).toNatClampNeg]? = some (.int p7) := Has.at Ha94 hin94 rfl
  have f95 := ((Fw71.keep K83 (ninS ne81 nin0)).other W87 (Or.inr (slot_ne (Or.inl (w_19 hw)) (Or.inl (w_35 hw)) (by decide) (t := (.array .byte)) (t' := .int) (by decide) (by decide))))
  have f96 := ((f73.keep K83 (ninS ne81 nin0)).other W87 (Or.inr (slot_ne (Or.inl (w_21 hw)) (Or.inl (w_35 hw)) (by decide) (t := .int) (t' := .int) (by decide) (by decide))))
  have f97 := (V83.other W87 (Ne.symm ne81))
  have f98 := (((f68.wr W71).keep K83).wr W87)
  obtain ⟨_, T99, L99, X99, hQ99, st99⟩ := own_pb X87 hx hZ hown (y := yn6) (w_49 hw) (w_50 hw) (own_selp (mvT hZ (w_25 hw)) rfl (Cond.privateMethod_at (mvP hZ (w_51 hw) (args := #[]))) (mvT hZ (w_50 hw)) (by decide)) (w_51 hw) (own_w hw 52 rfl) (w_9 hw) e87 f89 (argsL := [(.int 1), (.int p7)]) (rest := []) (rm48 l Z a0 hw [] o1 b63 k64 p9 p10 p11 p12 p13 p14 p12 p13 p14 p7 h87 n0 O87 g_o1 g_b63 f89 f95 f96 f97 f98) (g := (mkF m 175 (l347_0 o1 o2) [(.int p7), (.int 1), (.ref o1)])) rfl (by rw [hml]; rfl) rfl (hb hby d2_175) (lenOf pd4 rfl) (W := 0) (c1 := 1) (s1 := 9)
  obtain ⟨rfl, Nq100, K101, f102, f103⟩ := hQ99
  have N99 := Fr.app N87 Nq100
  obtain ⟨fs, hr, hrun, hended, hW, hsame⟩ := X99.leave (v := none) (fun _ => rfl)
  have KL : Keep h0 T99.heap [o1] := ((((((Keep.refl h0 [o1]).trans K66 all0).wr W71 (Or.inl (List.mem_of_getElem? (i := 0) rfl))).trans K83 (allS (Or.inr (Nat.le_trans (Nat.le_refl _) sz_b63)) all0)).wr W87 (Or.inl (List.mem_of_getElem? (i := 0) rfl))).trans K101 (allS (Or.inr (Nat.le_trans (Nat.le_refl _) sz_b63)) all0))
  have f104 := (f89.keep K101)
  have f105 := (f95.keep K101 (ninS ne81 nin0))
  have f106 := (Fw87.keep K101 (ninS ne81 nin0))
  have f107 := (f96.keep K101 (ninS ne81 nin0))
  refine ⟨_, _, pre55 _ ?_, hrun, hended, _, _, rfl, ?_, ⟨_, rfl⟩, hW, hsame.mono (by decide) (by decide)⟩
  ·
   refine st54 _ ?_
   refine st62 _ ?_
   refine st71 _ ?_
   refine st72 _ ?_
   refine yin X72 hx hby d2_110 rfl ?_
   refine st74 _ ?_
   refine XS.imul X74.here hx rfl (hb hby d2_115) rfl ?_
   show Steps p.tables e below (T74.setTop (mkF m 116 (l347_4 o1 o2) [(.int 3), (.ref b63)])) _
   refine st75 _ ?_
   refine yin X75 hx hby d2_120 rfl ?_
   refine yil X75 hx hby d2_121 rfl ?_
   refine yad X75 hx hby d2_123 ?_
   refine st76 _ ?_
   refine XS.imul X76.here hx rfl (hb hby d2_128) rfl ?_
   refine st78 _ ?_
   refine yin X78 hx hby d2_133 rfl ?_
   refine ysu X78 hx hby d2_134 ?_
   refine st79 _ ?_
   refine XS.imul X79.here hx rfl (hb hby d2_139) rfl ?_
   refine st83 _ ?_
   refine yan X83 hx hby d2_143 rfl rfl ?_
   refine XS.dup X83.here hx rfl (hb hby d2_144) rfl rfl ?_
   refine st85 _ ?_
   refine yil X85 hx hby d2_148 rfl ?_
   refine yad X85 hx hby d2_150 ?_
   refine st87 _ ?_
   refine XS.iconst X87.here hx rfl (hb hby d2_154) ?_
   refine yis X87 hx hby d2_155 (l' := (l347_0 o1 o2)) rfl ?_
   refine yil X87 hx hby d2_157 rfl ?_
   refine yil X87 hx hby d2_159 rfl ?_
   refine yno X87 hx hby d2_161 (tlt (by decide : (0 : Int32) < (1 : Int32))).2.1 ?_
   refine yan X87 hx hby d2_164 rfl rfl ?_
   refine yin X87 hx hby d2_165 rfl ?_
   refine yil X87 hx hby d2_166 rfl ?_
   refine yad X87 hx hby d2_168 ?_
   refine yan X87 hx hby d2_169 rfl rfl ?_
   refine yin X87 hx hby d2_170 rfl ?_
   refine yil X87 hx hby d2_171 rfl ?_
   refine yad X87 hx hby d2_173 ?_
   refine X87.iaload hx (j := (2 : Int32)) (v := (.int p7)) (by rw [e87]; exact Ar94.1) (State.isArrayOf_alike hZ.alike Ar94.2.1) Ar94.2.2 hin94 hat94 (g := (mkF m 174 (l347_0 o1 o2) [(.int 2), (.ref o2), (.int 1), (.ref o1)])) rfl rfl (hb hby d2_174) _ ?_
   refine st99 _ ?_
   refine XS.iinc X99.here hx rfl (hb hby d2_178) rfl (l' := (l347_1 o1 o2)) rfl ?_
   refine ygo X99 hx hby 181 157 rfl d2_181 (by decide) ?_
   refine yil X99 hx hby d2_157 rfl ?_
   refine yil X99 hx hby d2_159 rfl ?_
   show Steps p.tables e below (T99.setTop (mkF m 161 (l347_1 o1 o2) [(.int 1), (.int 1)])) _
   refine yye X99 hx hby 161 184 rfl d2_161 (flt (by decide : ¬ ((1 : Int32) < (1 : Int32)))).2.1 (by decide) ?_
   show Steps p.tables e below (T99.setTop (mkF m 184 (l347_1 o1 o2) [])) _
   exact X99.returnOut hx hret (hb hby d2_184) hr
  ·
   show Q51 Z o1 o2 o3 kc4 p5 p6 p7 kc8 p9 p10 p11 p12 p13 p14 h0 n0 _ T99.heap _
   exact ⟨b63, k64, rfl, N99, KL, (Nat.le_trans (Nat.le_refl _) sz_b63), f104, f105, f106, f107, f102, f103⟩
def l348_0 (o1 : Addr) (p2 : Int32) : Array Slot := #[.val (.ref o1), .val (.int 2), .val (.int ((p2.toUInt32 >>> ((8 : Int32) &&& 31).toUInt32).toInt32)), .val (.int 2), .val (.int (-1))]
def l348_1 (o1 : Addr) (p2 : Int32) : Array Slot := #[.val (.ref o1), .val (.int 2), .val (.int p2), .val (.int 2), .val (.int 0)]
theorem ef52 (m : MethodId) (x0 : Addr) (x1 x2 : Int32) : entryFrame m #[(.ref x0), (.int x1), (.int x2)] 5 = mkF m 0 #[.val (.ref x0), .val (.int x1), .val (.int x2), .unset, .unset] [] := by first | (simp [entryFrame, mkF, argsToLocals, Value.category]; done) | rfl
def Q52 (Z : State) (o1 o3 : Addr) (kc4 : ClassId) (p5 p6 p2 : Int32) (h0 : Heap) (n0 : Nat) (v : Option Value) (h : Heap) (L : List Loc) : Prop :=
  (v = none ∧ Fr n0 L ∧ Keep h0 h [o3] ∧ (Arv Z h o3 kc4 .byte (3 : Int32) [(.int p5), (.int p6), (.int (p2.toInt8.toInt32))] (.int 0)) ∧ (Exa Z h o3 "[B"))
set_option maxRecDepth 65536 in
set_option maxHeartbeats 40000000 in
theorem rm52 (l : Launch) (Z : State) (a0 : Array Value) (hw : HW a0 Z) (ws : List Jvm.Cond) (o1 o3 : Addr) (kc4 : ClassId) (p5 p6 p2 : Int32) (h0 : Heap) (n0 : Nat) (O0 : Old Z n0 h0) (g_o1 : n0 ≤ o1) (g_o3 : n0 ≤ o3) (P1 : Fld Z h0 o1 "com/example/driftless/driftless/CodePoints" "bytes" "[B" (.ref o3)) (P3 : Fld Z h0 o1 "com/example/driftless/driftless/CodePoints" "width" "I" (.int 1)) (P4 : Arv Z h0 o3 kc4 .byte (3 : Int32) [(.int p5), (.int p6), (.int 0)] (.int 0)) (P5 : Exa Z h0 o3 "[B") :
    MF l yn6 prog_6_method_9_code 5 none ws ({ frames := 0, cells := 0, slots := 0, locals := 0 } : Room) #[(.ref o1), (.int 2), (.int p2)] Z h0 (Q52 Z o1 o3 kc4 p5 p6 p2 h0 n0) := by
 refine MetFree.of_bodySF (plainFor_of_name pn1) hisR ?_
 intro p e s m args below meth c s₁ Bd hml hP hK
 obtain ⟨rfl, hZ, hh⟩ := hP
 obtain ⟨hx, hby, hown, hret, hlk, X0, e0, N0⟩ := own_bd Bd hh n0
 have pre0 := own_ct s₁ (p := p) (e := e) (below := below) (ef52 m o1 (2 : Int32) p2)
 obtain ⟨T1, X1, e1, st1⟩ := yag X0 hx hZ hown hby (w_20 hw) e0 P3 1 #[.val (.ref o1), .val (.int 2), .val (.int p2), .unset, .unset] [(.int 2)] d7_1 d7_2 rfl
 obtain ⟨T2, X2, e2, st2⟩ := yag X1 hx hZ hown hby (w_20 hw) e1 P3 7 #[.val (.ref o1), .val (.int 2), .val (.int p2), .val (.int 2), .unset] [] d7_7 d7_8 rfl
 obtain ⟨T3, X3, e3, st3⟩ := yag X2 hx hZ hown hby (w_18 hw) e2 P1 20 (l348_1 o1 p2) [] d7_20 d7_21 rfl
 obtain ⟨cl4, Ar4, qa4, Sa4, Na4, Ha4, Ga4⟩ := id (P4)
 have hin4 := inb_of (j := (2 : Int32)) Sa4 ⟨by decide, by decide⟩
 obtain ⟨T5, h5, X5, e5, W5, st5⟩ := stB X3 hx hZ e3 Ar4 (j := (2 : Int32)) hin4 (g := (mkF m 30 (l348_1 o1 p2) [(.int (p2.toInt8.toInt32)), (.int 2), (.ref o3)])) rfl rfl (hb hby d7_30)
 rw [own_nb8] at W5
 have V5 : Arv Z h5 o3 kc4 .byte (3 : Int32) [(.int p5), (.int p6), (.int (p2.toInt8.toInt32))] (.int 0) := Arv.set Ar4 qa4 Sa4 Na4 Ha4 Ga4 (fits_nar_byte _) W5 2 rfl (Nat.le_of_ble_eq_true rfl)
 have N5 := Fr.snoc X5 N0 g_o3
 obtain ⟨fs, hr, hrun, hended, hW, hsame⟩ := X5.leave (v := none) (fun _ => rfl)
 have KL : Keep h0 h5 [o3] := ((Keep.refl h0 [o3]).wr W5 (Or.inl (List.mem_of_getElem? (i := 0) rfl)))
 have f6 := (P5.wr W5)
 refine ⟨_, _, pre0 _ ?_, hrun, hended, _, _, rfl, ?_, ⟨_, rfl⟩, hW, hsame.mono (by decide) (by decide)⟩
 ·
  refine yin X0 hx hby d7_0 rfl ?_
  refine st1 _ ?_
  refine XS.imul X1.here hx rfl (hb hby d7_5) rfl ?_
  refine yit X1 hx hby d7_6 (l' := #[.val (.ref o1), .val (.int 2), .val (.int p2), .val (.int 2), .unset]) rfl ?_
  refine st2 _ ?_
  refine XS.iconst X2.here hx rfl (hb hby d7_11) ?_
  refine ysu X2 hx hby d7_12 ?_
  refine yis X2 hx hby d7_13 (l' := (l348_1 o1 p2)) rfl ?_
  refine yil X2 hx hby d7_15 rfl ?_
  refine XS.ifNo X2.here hx rfl (hb hby d7_17) rfl ((if0 _ _).trans (flt (by decide : ¬ ((0 : Int32) < (0 : Int32)))).1) ?_
  refine st3 _ ?_
  refine yin X3 hx hby d7_24 rfl ?_
  refine yil X3 hx hby d7_25 rfl ?_
  refine yad X3 hx hby d7_27 ?_
  refine yin X3 hx hby d7_28 rfl ?_
  refine XS.i2b X3.here hx rfl (hb hby d7_29) rfl ?_
  refine st5 _ ?_
  refine yin X5 hx hby d7_31 rfl ?_
  refine XS.bipush X5.here hx rfl (hb hby d7_32) ?_
  refine XS.iushr X5.here hx rfl (hb hby d7_34) rfl ?_
  refine yit X5 hx hby d7_35 (l' := #[.val (.ref o1), .val (.int 2), .val (.int ((p2.toUInt32 >>> ((8 : Int32) &&& 31).toUInt32).toInt32)), .val (.int 2), .val (.int 0)]) rfl ?_
  refine XS.iinc X5.here hx rfl (hb hby d7_36) rfl (l' := (l348_0 o1 p2)) rfl ?_
  refine ygo X5 hx hby 39 15 rfl d7_39 (by decide) ?_
  refine yil X5 hx hby d7_15 rfl ?_
  refine XS.ifYes X5.here hx rfl (pc0 := 17) (pc' := 42) rfl (hb hby d7_17) rfl ((if0 _ _).trans (tlt (by decide : (-1 : Int32) < (0 : Int32))).1) (by decide) (by decide) ?_
  show Steps p.tables e below (T5.setTop (mkF m 42 (l348_0 o1 p2) [])) _
  exact X5.returnOut hx hret (hb hby d7_42) hr
 ·
  show Q52 Z o1 o3 kc4 p5 p6 p2 h0 n0 _ T5.heap _
  rw [e5]
  exact ⟨rfl, N5, KL, V5, f6⟩
def l349_0 (o1 : Addr) (p2 : Int32) : Array Slot := #[.val (.ref o1), .val (.int 2), .val (.int ((((p2.toUInt32 >>> ((8 : Int32) &&& 31).toUInt32).toInt32).toUInt32 >>> ((8 : Int32) &&& 31).toUInt32).toInt32)), .val (.int 4), .val (.int (-1))]
def l349_1 (o1 : Addr) (p2 : Int32) : Array Slot := #[.val (.ref o1), .val (.int 2), .val (.int ((((p2.toUInt32 >>> ((8 : Int32) &&& 31).toUInt32).toInt32).toUInt32 >>> ((8 : Int32) &&& 31).toUInt32).toInt32)), .val (.int 4), .val (.int 0)]
def l349_2 (o1 : Addr) (p2 : Int32) : Array Slot := #[.val (.ref o1), .val (.int 2), .val (.int ((p2.toUInt32 >>> ((8 : Int32) &&& 31).toUInt32).toInt32)), .val (.int 4), .val (.int 0)]
def l349_3 (o1 : Addr) (p2 : Int32) : Array Slot := #[.val (.ref o1), .val (.int 2), .val (.int p2), .val (.int 4), .val (.int 1)]
theorem ef53 (m : MethodId) (x0 : Addr) (x1 x2 : Int32) : entryFrame m #[(.ref x0), (.int x1), (.int x2)] 5 = mkF m 0 #[.val (.ref x0), .val (.int x1), .val (.int x2), .unset, .unset] [] := by first | (simp [entryFrame, mkF, argsToLocals, Value.category]; done) | rfl
def Q53 (Z : State) (o1 o3 : Addr) (kc4 : ClassId) (p5 p6 : Int32) (p7 p8 p2 : Int32) (h0 : Heap) (n0 : Nat) (v : Option Value) (h : Heap) (L : List Loc) : Prop :=
  (v = none ∧ Fr n0 L ∧ Keep h0 h [o3] ∧ (Arv Z h o3 kc4 .byte (6 : Int32) [(.int p5), (.int p6), (.int p7), (.int p8), (.int (((p2.toUInt32 >>> ((8 : Int32) &&& 31).toUInt32).toInt32).toInt8.toInt32)), (.int (p2.toInt8.toInt32))] (.int 0)) ∧ (Exa Z h o3 "[B"))
set_option maxRecDepth 65536 in
set_option maxHeartbeats 40000000 in
theorem rm53 (l : Launch) (Z : State) (a0 : Array Value) (hw : HW a0 Z) (ws : List Jvm.Cond) (o1 o3 : Addr) (kc4 : ClassId) (p5 p6 : Int32) (p7 p8 p2 : Int32) (h0 : Heap) (n0 : Nat) (O0 : Old Z n0 h0) (g_o1 : n0 ≤ o1) (g_o3 : n0 ≤ o3) (P0 : Exa Z h0 o1 "com/example/driftless/driftless/CodePoints") (P1 : Fld Z h0 o1 "com/example/driftless/driftless/CodePoints" "bytes" "[B" (.ref o3)) (P3 : Fld Z h0 o1 "com/example/driftless/driftless/CodePoints" "width" "I" (.int 2)) (P4 : Arv Z h0 o3 kc4 .byte (6 : Int32) [(.int p5), (.int p6), (.int p7), (.int p8), (.int 0), (.int 0)] (.int 0)) (P5 : Exa Z h0 o3 "[B") :
    MF l yn6 prog_6_method_9_code 5 none ws ({ frames := 0, cells := 0, slots := 0, locals := 0 } : Room) #[(.ref o1), (.int 2), (.int p2)] Z h0 (Q53 Z o1 o3 kc4 p5 p6 p7 p8 p2 h0 n0) := by
 refine MetFree.of_bodySF (plainFor_of_name pn1) hisR ?_
 intro p e s m args below meth c s₁ Bd hml hP hK
 obtain ⟨rfl, hZ, hh⟩ := hP
 obtain ⟨hx, hby, hown, hret, hlk, X0, e0, N0⟩ := own_bd Bd hh n0
 have pre0 := own_ct s₁ (p := p) (e := e) (below := below) (ef53 m o1 (2 : Int32) p2)
 obtain ⟨T1, X1, e1, st1⟩ := yag X0 hx hZ hown hby (w_20 hw) e0 P3 1 #[.val (.ref o1), .val (.int 2), .val (.int p2), .unset, .unset] [(.int 2)] d7_1 d7_2 rfl
 obtain ⟨T2, X2, e2, st2⟩ := yag X1 hx hZ hown hby (w_20 hw) e1 P3 7 #[.val (.ref o1), .val (.int 2), .val (.int p2), .val (.int 4), .unset] [] d7_7 d7_8 rfl
 obtain ⟨T3, X3, e3, st3⟩ := yag X2 hx hZ hown hby (w_18 hw) e2 P1 20 (l349_3 o1 p2) [] d7_20 d7_21 rfl
 obtain ⟨cl4, Ar4, qa4, Sa4, Na4, Ha4, Ga4⟩ := id (P4)
 have hin4 := inb_of (j := (5 : Int32)) Sa4 ⟨by decide, by decide⟩
 obtain ⟨T5, h5, X5, e5, W5, st5⟩ := stB X3 hx hZ e3 Ar4 (j := (5 : Int32)) hin4 (g := (mkF m 30 (l349_3 o1 p2) [(.int (p2.toInt8.toInt32)), (.int 5), (.ref o3)])) rfl rfl (hb hby d7_30)
 rw [own_nb8] at W5
 have V5 : Arv Z h5 o3 kc4 .byte (6 : Int32) [(.int p5), (.int p6), (.int p7), (.int p8), (.int 0), (.int (p2.toInt8.toInt32))] (.int 0) := Arv.set Ar4 qa4 Sa4 Na4 Ha4 Ga4 (fits_nar_byte _) W5 5 rfl (Nat.le_of_ble_eq_true rfl)
 have N5 := Fr.snoc X5 N0 g_o3
 have f6 := (P0.wr W5)
 have f7 := (P5.wr W5)
 have ne8 : o1 ≠ o3 := ne_exa f6 f7 (by decide)
 have f9 := (P1.other W5 (Or.inl ne8))
 obtain ⟨T10, X10, e10, st10⟩ := yag X5 hx hZ hown hby (w_18 hw) e5 f9 20 (l349_2 o1 p2) [] d7_20 d7_21 rfl
 obtain ⟨cl11, Ar11, qa11, Sa11, Na11, Ha11, Ga11⟩ := id (V5)
 have hin11 := inb_of (j := (4 : Int32)) Sa11 ⟨by decide, by decide⟩
 obtain ⟨T12, h12, X12, e12, W12, st12⟩ := stB X10 hx hZ e10 Ar11 (j := (4 : Int32)) hin11 (g := (mkF m 30 (l349_2 o1 p2) [(.int (((p2.toUInt32 >>> ((8 : Int32) &&& 31).toUInt32).toInt32).toInt8.toInt32)), (.int 4), (.ref o3)])) rfl rfl (hb hby d7_30)
 rw [own_nb8] at W12
 have V12 : Arv Z h12 o3 kc4 .byte (6 : Int32) [(.int p5), (.int p6), (.int p7), (.int p8), (.int (((p2.toUInt32 >>> ((8 : Int32) &&& 31).toUInt32).toInt32).toInt8.toInt32)), (.int (p2.toInt8.toInt32))] (.int 0) := Arv.set Ar11 qa11 Sa11 Na11 Ha11 Ga11 (fits_nar_byte _) W12 4 rfl (Nat.le_of_ble_eq_true rfl)
 have N12 := Fr.snoc X12 N5 g_o3
 obtain ⟨fs, hr, hrun, hended, hW, hsame⟩ := X12.leave (v := none) (fun _ => rfl)
 have KL : Keep h0 h12 [o3] := (((Keep.refl h0 [o3]).wr W5 (Or.inl (List.mem_of_getElem? (i := 0) rfl))).wr W12 (Or.inl (List.mem_of_getElem? (i := 0) rfl)))
 have f13 := (f7.wr W12)
 refine ⟨_, _, pre0 _ ?_, hrun, hended, _, _, rfl, ?_, ⟨_, rfl⟩, hW, hsame.mono (by decide) (by decide)⟩
 ·
  refine yin X0 hx hby d7_0 rfl ?_
  refine st1 _ ?_
  refine XS.imul X1.here hx rfl (hb hby d7_5) rfl ?_
  refine yit X1 hx hby d7_6 (l' := #[.val (.ref o1), .val (.int 2), .val (.int p2), .val (.int 4), .unset]) rfl ?_
  refine st2 _ ?_
  refine XS.iconst X2.here hx rfl (hb hby d7_11) ?_
  refine ysu X2 hx hby d7_12 ?_
  refine yis X2 hx hby d7_13 (l' := (l349_3 o1 p2)) rfl ?_
  refine yil X2 hx hby d7_15 rfl ?_
  refine XS.ifNo X2.here hx rfl (hb hby d7_17) rfl ((if0 _ _).trans (flt (by decide : ¬ ((1 : Int32) < (0 : Int32)))).1) ?_
  refine st3 _ ?_
  refine yin X3 hx hby d7_24 rfl ?_
  refine yil X3 hx hby d7_25 rfl ?_
  refine yad X3 hx hby d7_27 ?_
  refine yin X3 hx hby d7_28 rfl ?_
  refine XS.i2b X3.here hx rfl (hb hby d7_29) rfl ?_
  refine st5 _ ?_
  refine yin X5 hx hby d7_31 rfl ?_
  refine XS.bipush X5.here hx rfl (hb hby d7_32) ?_
  refine XS.iushr X5.here hx rfl (hb hby d7_34) rfl ?_
  refine yit X5 hx hby d7_35 (l' := #[.val (.ref o1), .val (.int 2), .val (.int ((p2.toUInt32 >>> ((8 : Int32) &&& 31).toUInt32).toInt32)), .val (.int 4), .val (.int 1)]) rfl ?_
  refine XS.iinc X5.here hx rfl (hb hby d7_36) rfl (l' := (l349_2 o1 p2)) rfl ?_
  refine ygo X5 hx hby 39 15 rfl d7_39 (by decide) ?_
  refine yil X5 hx hby d7_15 rfl ?_
  refine XS.ifNo X5.here hx rfl (hb hby d7_17) rfl ((if0 _ _).trans (flt (by decide : ¬ ((0 : Int32) < (0 : Int32)))).1) ?_
  refine st10 _ ?_
  refine yin X10 hx hby d7_24 rfl ?_
  refine yil X10 hx hby d7_25 rfl ?_
  refine yad X10 hx hby d7_27 ?_
  refine yin X10 hx hby d7_28 rfl ?_
  refine XS.i2b X10.here hx rfl (hb hby d7_29) rfl ?_
  refine st12 _ ?_
  refine yin X12 hx hby d7_31 rfl ?_
  refine XS.bipush X12.here hx rfl (hb hby d7_32) ?_
  refine XS.iushr X12.here hx rfl (hb hby d7_34) rfl ?_
  refine yit X12 hx hby d7_35 (l' := (l349_1 o1 p2)) rfl ?_
  show Steps p.tables e below (T12.setTop (mkF m 36 (l349_1 o1 p2) [])) _
  refine XS.iinc X12.here hx rfl (hb hby d7_36) rfl (l' := (l349_0 o1 p2)) rfl ?_
  refine ygo X12 hx hby 39 15 rfl d7_39 (by decide) ?_
  refine yil X12 hx hby d7_15 rfl ?_
  refine XS.ifYes X12.here hx rfl (pc0 := 17) (pc' := 42) rfl (hb hby d7_17) rfl ((if0 _ _).trans (tlt (by decide : (-1 : Int32) < (0 : Int32))).1) (by decide) (by decide) ?_
  show Steps p.tables e below (T12.setTop (mkF m 42 (l349_0 o1 p2) [])) _
  exact X12.returnOut hx hret (hb hby d7_42) hr
 ·
  show Q53 Z o1 o3 kc4 p5 p6 p7 p8 p2 h0 n0 _ T12.heap _
  rw [e12]
  exact ⟨rfl, N12, KL, V12, f13⟩
def l350_0 (o1 : Addr) (p2 : Int32) : Array Slot := #[.val (.ref o1), .val (.int 2), .val (.int ((((((p2.toUInt32 >>> ((8 : Int32) &&& 31).toUInt32).toInt32).toUInt32 >>> ((8 : Int32) &&& 31).toUInt32).toInt32).toUInt32 >>> ((8 : Int32) &&& 31).toUInt32).toInt32)), .val (.int 6), .val (.int (-1))]
def l350_1 (o1 : Addr) (p2 : Int32) : Array Slot := #[.val (.ref o1), .val (.int 2), .val (.int ((((p2.toUInt32 >>> ((8 : Int32) &&& 31).toUInt32).toInt32).toUInt32 >>> ((8 : Int32) &&& 31).toUInt32).toInt32)), .val (.int 6), .val (.int 0)]
def l350_2 (o1 : Addr) (p2 : Int32) : Array Slot := #[.val (.ref o1), .val (.int 2), .val (.int ((((p2.toUInt32 >>> ((8 : Int32) &&& 31).toUInt32).toInt32).toUInt32 >>> ((8 : Int32) &&& 31).toUInt32).toInt32)), .val (.int 6), .val (.int 1)]
def l350_3 (o1 : Addr) (p2 : Int32) : Array Slot := #[.val (.ref o1), .val (.int 2), .val (.int ((p2.toUInt32 >>> ((8 : Int32) &&& 31).toUInt32).toInt32)), .val (.int 6), .val (.int 1)]
def l350_4 (o1 : Addr) (p2 : Int32) : Array Slot := #[.val (.ref o1), .val (.int 2), .val (.int p2), .val (.int 6), .val (.int 2)]
theorem ef54 (m : MethodId) (x0 : Addr) (x1 x2 : Int32) : entryFrame m #[(.ref x0), (.int x1), (.int x2)] 5 = mkF m 0 #[.val (.ref x0), .val (.int x1), .val (.int x2), .unset, .unset] [] := by first | (simp [entryFrame, mkF, argsToLocals, Value.category]; done) | rfl
def Q54 (Z : State) (o1 o3 : Addr) (kc4 : ClassId) (p5 p6 : Int32) (p7 p8 : Int32) (p9 p10 p2 : Int32) (h0 : Heap) (n0 : Nat) (v : Option Value) (h : Heap) (L : List Loc) : Prop :=
  (v = none ∧ Fr n0 L ∧ Keep h0 h [o3] ∧ (Arv Z h o3 kc4 .byte (9 : Int32) [(.int p5), (.int p6), (.int p7), (.int p8), (.int p9), (.int p10), (.int (((((p2.toUInt32 >>> ((8 : Int32) &&& 31).toUInt32).toInt32).toUInt32 >>> ((8 : Int32) &&& 31).toUInt32).toInt32).toInt8.toInt32)), (.int (((p2.toUInt32 >>> ((8 : Int32) &&& 31).toUInt32).toInt32).toInt8.toInt32)), (.int (p2.toInt8.toInt32))] (.int 0)) ∧ (Exa Z h o3 "[B"))
set_option maxRecDepth 65536 in
set_option maxHeartbeats 40000000 in
theorem rm54 (l : Launch) (Z : State) (a0 : Array Value) (hw : HW a0 Z) (ws : List Jvm.Cond) (o1 o3 : Addr) (kc4 : ClassId) (p5 p6 : Int32) (p7 p8 : Int32) (p9 p10 p2 : Int32) (h0 : Heap) (n0 : Nat) (O0 : Old Z n0 h0) (g_o1 : n0 ≤ o1) (g_o3 : n0 ≤ o3) (P0 : Exa Z h0 o1 "com/example/driftless/driftless/CodePoints") (P1 : Fld Z h0 o1 "com/example/driftless/driftless/CodePoints" "bytes" "[B" (.ref o3)) (P3 : Fld Z h0 o1 "com/example/driftless/driftless/CodePoints" "width" "I" (.int 3)) (P4 : Arv Z h0 o3 kc4 .byte (9 : Int32) [(.int p5), (.int p6), (.int p7), (.int p8), (.int p9), (.int p10), (.int 0), (.int 0), (.int 0)] (.int 0)) (P5 : Exa Z h0 o3 "[B") :
    MF l yn6 prog_6_method_9_code 5 none ws ({ frames := 0, cells := 0, slots := 0, locals := 0 } : Room) #[(.ref o1), (.int 2), (.int p2)] Z h0 (Q54 Z o1 o3 kc4 p5 p6 p7 p8 p9 p10 p2 h0 n0) := by
 refine MetFree.of_bodySF (plainFor_of_name pn1) hisR ?_
 intro p e s m args below meth c s₁ Bd hml hP hK
 obtain ⟨rfl, hZ, hh⟩ := hP
 obtain ⟨hx, hby, hown, hret, hlk, X0, e0, N0⟩ := own_bd Bd hh n0
 have pre0 := own_ct s₁ (p := p) (e := e) (below := below) (ef54 m o1 (2 : Int32) p2)
 obtain ⟨T1, X1, e1, st1⟩ := yag X0 hx hZ hown hby (w_20 hw) e0 P3 1 #[.val (.ref o1), .val (.int 2), .val (.int p2), .unset, .unset] [(.int 2)] d7_1 d7_2 rfl
 obtain ⟨T2, X2, e2, st2⟩ := yag X1 hx hZ hown hby (w_20 hw) e1 P3 7 #[.val (.ref o1), .val (.int 2), .val (.int p2), .val (.int 6), .unset] [] d7_7 d7_8 rfl
 obtain ⟨T3, X3, e3, st3⟩ := yag X2 hx hZ hown hby (w_18 hw) e2 P1 20 (l350_4 o1 p2) [] d7_20 d7_21 rfl
 obtain ⟨cl4, Ar4, qa4, Sa4, Na4, Ha4, Ga4⟩ := id (P4)
 have hin4 := inb_of (j := (8 : Int32)) Sa4 ⟨by decide, by decide⟩
 obtain ⟨T5, h5, X5, e5, W5, st5⟩ := stB X3 hx hZ e3 Ar4 (j := (8 : Int32)) hin4 (g := (mkF m 30 (l350_4 o1 p2) [(.int (p2.toInt8.toInt32)), (.int 8), (.ref o3)])) rfl rfl (hb hby d7_30)
 rw [own_nb8] at W5
 have V5 : Arv Z h5 o3 kc4 .byte (9 : Int32) [(.int p5), (.int p6), (.int p7), (.int p8), (.int p9), (.int p10), (.int 0), (.int 0), (.int (p2.toInt8.toInt32))] (.int 0) := Arv.set Ar4 qa4 Sa4 Na4 Ha4 Ga4 (fits_nar_byte _) W5 8 rfl (Nat.le_of_ble_eq_true rfl)
 have N5 := Fr.snoc X5 N0 g_o3
 have f6 := (P0.wr W5)
 have f7 := (P5.wr W5)
 have ne8 : o1 ≠ o3 := ne_exa f6 f7 (by decide)
 have f9 := (P1.other W5 (Or.inl ne8))
 obtain ⟨T10, X10, e10, st10⟩ := yag X5 hx hZ hown hby (w_18 hw) e5 f9 20 (l350_3 o1 p2) [] d7_20 d7_21 rfl
 obtain ⟨cl11, Ar11, qa11, Sa11, Na11, Ha11, Ga11⟩ := id (V5)
 have hin11 := inb_of (j := (7 : Int32)) Sa11 ⟨by decide, by decide⟩
 obtain ⟨T12, h12, X12, e12, W12, st12⟩ := stB X10 hx hZ e10 Ar11 (j := (7 : Int32)) hin11 (g := (mkF m 30 (l350_3 o1 p2) [(.int (((p2.toUInt32 >>> ((8 : Int32) &&& 31).toUInt32).toInt32).toInt8.toInt32)), (.int 7), (.ref o3)])) rfl rfl (hb hby d7_30)
 rw [own_nb8] at W12
 have V12 : Arv Z h12 o3 kc4 .byte (9 : Int32) [(.int p5), (.int p6), (.int p7), (.int p8), (.int p9), (.int p10), (.int 0), (.int (((p2.toUInt32 >>> ((8 : Int32) &&& 31).toUInt32).toInt32).toInt8.toInt32)), (.int (p2.toInt8.toInt32))] (.int 0) := Arv.set Ar11 qa11 Sa11 Na11 Ha11 Ga11 (fits_nar_byte _) W12 7 rfl (Nat.le_of_ble_eq_true rfl)
 have N12 := Fr.snoc X12 N5 g_o3
 have f13 := (f9.other W12 (Or.inl ne8))
 obtain ⟨T14, X14, e14, st14⟩ := yag X12 hx hZ hown hby (w_18 hw) e12 f13 20 (l350_1 o1 p2) [] d7_20 d7_21 rfl
 obtain ⟨cl15, Ar15, qa15, Sa15, Na15, Ha15, Ga15⟩ := id (V12)
 have hin15 := inb_of (j := (6 : Int32)) Sa15 ⟨by decide, by decide⟩
 obtain ⟨T16, h16, X16, e16, W16, st16⟩ := stB X14 hx hZ e14 Ar15 (j := (6 : Int32)) hin15 (g := (mkF m 30 (l350_1 o1 p2) [(.int (((((p2.toUInt32 >>> ((8 : Int32) &&& 31).toUInt32).toInt32).toUInt32 >>> ((8 : Int32) &&& 31).toUInt32).toInt32).toInt8.toInt32)), (.int 6), (.ref o3)])) rfl rfl (hb hby d7_30)
 rw [own_nb8] at W16
 have V16 : Arv Z h16 o3 kc4 .byte (9 : Int32) [(.int p5), (.int p6), (.int p7), (.int p8), (.int p9), (.int p10), (.int (((((p2.toUInt32 >>> ((8 : Int32) &&& 31).toUInt32).toInt32).toUInt32 >>> ((8 : Int32) &&& 31).toUInt32).toInt32).toInt8.toInt32)), (.int (((p2.toUInt32 >>> ((8 : Int32) &&& 31).toUInt32).toInt32).toInt8.toInt32)), (.int (p2.toInt8.toInt32))] (.int 0) := Arv.set Ar15 qa15 Sa15 Na15 Ha15 Ga15 (fits_nar_byte _) W16 6 rfl (Nat.le_of_ble_eq_true rfl)
 have N16 := Fr.snoc X16 N12 g_o3
 obtain ⟨fs, hr, hrun, hended, hW, hsame⟩ := X16.leave (v := none) (fun _ => rfl)
 have KL : Keep h0 h16 [o3] := ((((Keep.refl h0 [o3]).wr W5 (Or.inl (List.mem_of_getElem? (i := 0) rfl))).wr W12 (Or.inl (List.mem_of_getElem? (i := 0) rfl))).wr W16 (Or.inl (List.mem_of_getElem? (i := 0) rfl)))
 have f17 := ((f7.wr W12).wr W16)
 refine ⟨_, _, pre0 _ ?_, hrun, hended, _, _, rfl, ?_, ⟨_, rfl⟩, hW, hsame.mono (by decide) (by decide)⟩
 ·
  refine yin X0 hx hby d7_0 rfl ?_
  refine st1 _ ?_
  refine XS.imul X1.here hx rfl (hb hby d7_5) rfl ?_
  refine yit X1 hx hby d7_6 (l' := #[.val (.ref o1), .val (.int 2), .val (.int p2), .val (.int 6), .unset]) rfl ?_
  refine st2 _ ?_
  refine XS.iconst X2.here hx rfl (hb hby d7_11) ?_
  refine ysu X2 hx hby d7_12 ?_
  refine yis X2 hx hby d7_13 (l' := (l350_4 o1 p2)) rfl ?_
  refine yil X2 hx hby d7_15 rfl ?_
  refine XS.ifNo X2.here hx rfl (hb hby d7_17) rfl ((if0 _ _).trans (flt (by decide : ¬ ((2 : Int32) < (0 : Int32)))).1) ?_
  refine st3 _ ?_
  refine yin X3 hx hby d7_24 rfl ?_
  refine yil X3 hx hby d7_25 rfl ?_
  refine yad X3 hx hby d7_27 ?_
  refine yin X3 hx hby d7_28 rfl ?_
  refine XS.i2b X3.here hx rfl (hb hby d7_29) rfl ?_
  refine st5 _ ?_
  refine yin X5 hx hby d7_31 rfl ?_
  refine XS.bipush X5.here hx rfl (hb hby d7_32) ?_
  refine XS.iushr X5.here hx rfl (hb hby d7_34) rfl ?_
  refine yit X5 hx hby d7_35 (l' := #[.val (.ref o1), .val (.int 2), .val (.int ((p2.toUInt32 >>> ((8 : Int32) &&& 31).toUInt32).toInt32)), .val (.int 6), .val (.int 2)]) rfl ?_
  refine XS.iinc X5.here hx rfl (hb hby d7_36) rfl (l' := (l350_3 o1 p2)) rfl ?_
  refine ygo X5 hx hby 39 15 rfl d7_39 (by decide) ?_
  refine yil X5 hx hby d7_15 rfl ?_
  refine XS.ifNo X5.here hx rfl (hb hby d7_17) rfl ((if0 _ _).trans (flt (by decide : ¬ ((1 : Int32) < (0 : Int32)))).1) ?_
  refine st10 _ ?_
  refine yin X10 hx hby d7_24 rfl ?_
  refine yil X10 hx hby d7_25 rfl ?_
  refine yad X10 hx hby d7_27 ?_
  refine yin X10 hx hby d7_28 rfl ?_
  refine XS.i2b X10.here hx rfl (hb hby d7_29) rfl ?_
  refine st12 _ ?_
  refine yin X12 hx hby d7_31 rfl ?_
  refine XS.bipush X12.here hx rfl (hb hby d7_32) ?_
  refine XS.iushr X12.here hx rfl (hb hby d7_34) rfl ?_
  refine yit X12 hx hby d7_35 (l' := (l350_2 o1 p2)) rfl ?_
  show Steps p.tables e below (T12.setTop (mkF m 36 (l350_2 o1 p2) [])) _
  refine XS.iinc X12.here hx rfl (hb hby d7_36) rfl (l' := (l350_1 o1 p2)) rfl ?_
  refine ygo X12 hx hby 39 15 rfl d7_39 (by decide) ?_
  refine yil X12 hx hby d7_15 rfl ?_
  refine XS.ifNo X12.here hx rfl (hb hby d7_17) rfl ((if0 _ _).trans (flt (by decide : ¬ ((0 : Int32) < (0 : Int32)))).1) ?_
  refine st14 _ ?_
  refine yin X14 hx hby d7_24 rfl ?_
  refine yil X14 hx hby d7_25 rfl ?_
  refine yad X14 hx hby d7_27 ?_
  refine yin X14 hx hby d7_28 rfl ?_
  refine XS.i2b X14.here hx rfl (hb hby d7_29) rfl ?_
  refine st16 _ ?_
  refine yin X16 hx hby d7_31 rfl ?_
  refine XS.bipush X16.here hx rfl (hb hby d7_32) ?_
  refine XS.iushr X16.here hx rfl (hb hby d7_34) rfl ?_
  refine yit X16 hx hby d7_35 (l' := #[.val (.ref o1), .val (.int 2), .val (.int ((((((p2.toUInt32 >>> ((8 : Int32) &&& 31).toUInt32).toInt32).toUInt32 >>> ((8 : Int32) &&& 31).toUInt32).toInt32).toUInt32 >>> ((8 : Int32) &&& 31).toUInt32).toInt32)), .val (.int 6), .val (.int 0)]) rfl ?_
  refine XS.iinc X16.here hx rfl (hb hby d7_36) rfl (l' := (l350_0 o1 p2)) rfl ?_
  refine ygo X16 hx hby 39 15 rfl d7_39 (by decide) ?_
  refine yil X16 hx hby d7_15 rfl ?_
  refine XS.ifYes X16.here hx rfl (pc0 := 17) (pc' := 42) rfl (hb hby d7_17) rfl ((if0 _ _).trans (tlt (by decide : (-1 : Int32) < (0 : Int32))).1) (by decide) (by decide) ?_
  show Steps p.tables e below (T16.setTop (mkF m 42 (l350_0 o1 p2) [])) _
  exact X16.returnOut hx hret (hb hby d7_42) hr
 ·
  show Q54 Z o1 o3 kc4 p5 p6 p7 p8 p9 p10 p2 h0 n0 _ T16.heap _
  rw [e16]
  exact ⟨rfl, N16, KL, V16, f17⟩
def l351_0 (o1 o2 : Addr) : Array Slot := #[.val (.ref o1), .val (.int 2), .val (.ref o2), .val (.int 2), .val (.int 1), .val (.int 1), .val (.int 3), .val (.int 0)]
def l351_1 (o1 o2 : Addr) : Array Slot := #[.val (.ref o1), .val (.int 2), .val (.ref o2), .val (.int 2), .val (.int 1), .val (.int 1), .val (.int 3), .val (.int 1)]
def l351_2 (o1 o2 : Addr) : Array Slot := #[.val (.ref o1), .val (.int 2), .val (.ref o2), .val (.int 2), .val (.int 1), .val (.int 2), .val (.int 6), .val (.int 0)]
def l351_3 (o1 o2 : Addr) : Array Slot := #[.val (.ref o1), .val (.int 2), .val (.ref o2), .val (.int 2), .val (.int 1), .val (.int 2), .val (.int 6), .val (.int 1)]
def l351_4 (o1 o2 : Addr) : Array Slot := #[.val (.ref o1), .val (.int 2), .val (.ref o2), .val (.int 2), .val (.int 1), .val (.int 3), .val (.int 9), .val (.int 0)]
def l351_5 (o1 o2 : Addr) : Array Slot := #[.val (.ref o1), .val (.int 2), .val (.ref o2), .val (.int 2), .val (.int 1), .val (.int 3), .val (.int 9), .val (.int 1)]
def l351_6 (o1 o2 : Addr) : Array Slot := #[.val (.ref o1), .val (.int 2), .val (.ref o2), .val (.int 2), .val (.int 1), .val (.int 1), .val (.int 3), .unset]
def l351_7 (o1 o2 : Addr) : Array Slot := #[.val (.ref o1), .val (.int 2), .val (.ref o2), .val (.int 2), .val (.int 1), .val (.int 2), .val (.int 3), .unset]
def l351_8 (o1 o2 : Addr) : Array Slot := #[.val (.ref o1), .val (.int 2), .val (.ref o2), .val (.int 2), .val (.int 1), .val (.int 3), .val (.int 3), .unset]
def l351_9 (o1 o2 : Addr) : Array Slot := #[.val (.ref o1), .val (.int 2), .val (.ref o2), .val (.int 2), .val (.int 1), .val (.int 1), .val (.int 2), .unset]
def l351_10 (o1 o2 : Addr) : Array Slot := #[.val (.ref o1), .val (.int 2), .val (.ref o2), .val (.int 2), .val (.int 1), .val (.int 2), .val (.int 6), .unset]
def l351_11 (o1 o2 : Addr) : Array Slot := #[.val (.ref o1), .val (.int 2), .val (.ref o2), .val (.int 2), .val (.int 1), .val (.int 3), .val (.int 9), .unset]
theorem ef55 (m : MethodId) (x0 : Addr) (x1 : Int32) (x2 : Addr) (x3 x4 : Int32) : entryFrame m #[(.ref x0), (.int x1), (.ref x2), (.int x3), (.int x4)] 8 = mkF m 0 #[.val (.ref x0), .val (.int x1), .val (.ref x2), .val (.int x3), .val (.int x4), .unset, .unset, .unset] [] := by first | (simp [entryFrame, mkF, argsToLocals, Value.category]; done) | rfl
def Q55 (Z : State) (w1 : Addr) (kw1 : ClassId) (o1 o2 o3 : Addr) (kc4 : ClassId) (p5 p6 p7 : Int32) (kc8 : ClassId) (p9 p10 : Int32) (h0 : Heap) (n0 : Nat) (v : Option Value) (h : Heap) (L : List Loc) : Prop :=
  (∃ b67 : Addr, ∃ k68 : ClassId, (p7 < (256 : Int32)) ∧ v = none ∧ Fr n0 L ∧ Keep h0 h [o1] ∧ h0.size ≤ b67 ∧ (Exa Z h o1 "com/example/driftless/driftless/CodePoints") ∧ (Fld Z h o1 "com/example/driftless/driftless/CodePoints" "bytes" "[B" (.ref b67)) ∧ (Fld Z h o1 "com/example/driftless/driftless/CodePoints" "length" "I" (.int 3)) ∧ (Fld Z h o1 "com/example/driftless/driftless/CodePoints" "width" "I" (.int 1)) ∧ (Arv Z h b67 k68 .byte (3 : Int32) [(.int p9), (.int p10), (.int (p7.toInt8.toInt32))] (.int 0)) ∧ (Exa Z h b67 "[B"))
  ∨ (∃ b142 : Addr, ∃ k143 : ClassId, (p7 < (65536 : Int32)) ∧ v = none ∧ Fr n0 L ∧ Keep h0 h [o1] ∧ h0.size ≤ b142 ∧ (Exa Z h o1 "com/example/driftless/driftless/CodePoints") ∧ (Fld Z h o1 "com/example/driftless/driftless/CodePoints" "bytes" "[B" (.ref b142)) ∧ (Fld Z h o1 "com/example/driftless/driftless/CodePoints" "length" "I" (.int 3)) ∧ (Fld Z h o1 "com/example/driftless/driftless/CodePoints" "width" "I" (.int 2)) ∧ (Arv Z h b142 k143 .byte (6 : Int32) [(.int ((((p9 &&& (255 : Int32)).toUInt32 >>> ((8 : Int32) &&& 31).toUInt32).toInt32).toInt8.toInt32)), (.int ((p9 &&& (255 : Int32)).toInt8.toInt32)), (.int ((((p10 &&& (255 : Int32)).toUInt32 >>> ((8 : Int32) &&& 31).toUInt32).toInt32).toInt8.toInt32)), (.int ((p10 &&& (255 : Int32)).toInt8.toInt32)), (.int (((p7.toUInt32 >>> ((8 : Int32) &&& 31).toUInt32).toInt32).toInt8.toInt32)), (.int (p7.toInt8.toInt32))] (.int 0)) ∧ (Exa Z h b142 "[B"))
  ∨ (∃ b217 : Addr, ∃ k218 : ClassId, v = none ∧ Fr n0 L ∧ Keep h0 h [o1] ∧ h0.size ≤ b217 ∧ (Exa Z h o1 "com/example/driftless/driftless/CodePoints") ∧ (Fld Z h o1 "com/example/driftless/driftless/CodePoints" "bytes" "[B" (.ref b217)) ∧ (Fld Z h o1 "com/example/driftless/driftless/CodePoints" "length" "I" (.int 3)) ∧ (Fld Z h o1 "com/example/driftless/driftless/CodePoints" "width" "I" (.int 3)) ∧ (Arv Z h b217 k218 .byte (9 : Int32) [(.int ((((((p9 &&& (255 : Int32)).toUInt32 >>> ((8 : Int32) &&& 31).toUInt32).toInt32).toUInt32 >>> ((8 : Int32) &&& 31).toUInt32).toInt32).toInt8.toInt32)), (.int ((((p9 &&& (255 : Int32)).toUInt32 >>> ((8 : Int32) &&& 31).toUInt32).toInt32).toInt8.toInt32)), (.int ((p9 &&& (255 : Int32)).toInt8.toInt32)), (.int ((((((p10 &&& (255 : Int32)).toUInt32 >>> ((8 : Int32) &&& 31).toUInt32).toInt32).toUInt32 >>> ((8 : Int32) &&& 31).toUInt32).toInt32).toInt8.toInt32)), (.int ((((p10 &&& (255 : Int32)).toUInt32 >>> ((8 : Int32) &&& 31).toUInt32).toInt32).toInt8.toInt32)), (.int ((p10 &&& (255 : Int32)).toInt8.toInt32)), (.int (((((p7.toUInt32 >>> ((8 : Int32) &&& 31).toUInt32).toInt32).toUInt32 >>> ((8 : Int32) &&& 31).toUInt32).toInt32).toInt8.toInt32)), (.int (((p7.toUInt32 >>> ((8 : Int32) &&& 31).toUInt32).toInt32).toInt8.toInt32)), (.int (p7.toInt8.toInt32))] (.int 0)) ∧ (Exa Z h b217 "[B"))
set_option maxRecDepth 65536 in
set_option maxHeartbeats 40000000 in
theorem rm55 (l : Launch) (Z : State) (a0 : Array Value) (hw : HW a0 Z) (w1 : Addr) (kw1 : ClassId) (G : GW Z w1 kw1) (ws : List Jvm.Cond) (o1 o2 o3 : Addr) (kc4 : ClassId) (p5 p6 p7 : Int32) (kc8 : ClassId) (p9 p10 : Int32) (h0 : Heap) (n0 : Nat) (O0 : Old Z n0 h0) (g_o1 : n0 ≤ o1) (g_o2 : n0 ≤ o2) (g_o3 : n0 ≤ o3) (P0 : Exa Z h0 o1 "com/example/driftless/driftless/CodePoints") (P1 : Fld Z h0 o1 "com/example/driftless/driftless/CodePoints" "bytes" "[B" (.ref o3)) (P2 : Fld Z h0 o1 "com/example/driftless/driftless/CodePoints" "length" "I" (.int 2)) (P3 : Fld Z h0 o1 "com/example/driftless/driftless/CodePoints" "width" "I" (.int 1)) (P4 : Arv Z h0 o2 kc4 .int (3 : Int32) [(.int p5), (.int p6), (.int p7)] (.int 0)) (P5 : Exa Z h0 o2 "[I") (P6 : Arv Z h0 o3 kc8 .byte (2 : Int32) [(.int p9), (.int p10)] (.int 0)) (P7 : Exa Z h0 o3 "[B") :
    MF l yn8 prog_6_method_5_code 8 none ws ({ frames := 3, cells := 3, slots := 18, locals := 40 } : Room) #[(.ref o1), (.int 2), (.ref o2), (.int 2), (.int 1)] Z h0 (Q55 Z w1 kw1 o1 o2 o3 kc4 p5 p6 p7 kc8 p9 p10 h0 n0) := by
 obtain ⟨S_w1, E_w1, A_w1⟩ := id G
 refine MetFree.of_bodySF (plainFor_of_name pn1) hisR ?_
 intro p e s m args below meth c s₁ Bd hml hP hK
 obtain ⟨rfl, hZ, hh⟩ := hP
 obtain ⟨hx, hby, hown, hret, hlk, X0, e0, N0⟩ := own_bd Bd hh n0
 have pre0 := own_ct s₁ (p := p) (e := e) (below := below) (ef55 m o1 (2 : Int32) o2 (2 : Int32) (1 : Int32))
 revert pre0
 generalize s₁.setTop (entryFrame m #[(.ref o1), (.int 2), (.ref o2), (.int 2), (.int 1)] 8) = E0
 intro pre0
 have J0 : (∃ (T : State) (locs : List Loc), Stand p l e ({ frames := 3, cells := 3, slots := 18, locals := 40 } : Room) s m #[(.ref o1), (.int 2), (.ref o2), (.int 2), (.int 1)] below meth c T locs 0 0 ∧ T.heap = h0 ∧ Fr n0 locs ∧ (Go p e below T (mkF m 38 (l351_6 o1 o2) []) E0) ∧ (p7 < (256 : Int32))) ∨ (∃ (T : State) (locs : List Loc), Stand p l e ({ frames := 3, cells := 3, slots := 18, locals := 40 } : Room) s m #[(.ref o1), (.int 2), (.ref o2), (.int 2), (.int 1)] below meth c T locs 0 0 ∧ T.heap = h0 ∧ Fr n0 locs ∧ (Go p e below T (mkF m 38 (l351_7 o1 o2) []) E0) ∧ (p7 < (65536 : Int32))) ∨ (∃ (T : State) (locs : List Loc), Stand p l e ({ frames := 3, cells := 3, slots := 18, locals := 40 } : Room) s m #[(.ref o1), (.int 2), (.ref o2), (.int 2), (.int 1)] below meth c T locs 0 0 ∧ T.heap = h0 ∧ Fr n0 locs ∧ (Go p e below T (mkF m 38 (l351_8 o1 o2) []) E0)) := by
  obtain ⟨T1, X1, e1, st1⟩ := yag X0 hx hZ hown hby (w_20 hw) e0 P3 0 #[.val (.ref o1), .val (.int 2), .val (.ref o2), .val (.int 2), .val (.int 1), .unset, .unset, .unset] [] d2_0 d2_1 rfl
  obtain ⟨cl2, Ar2, qa2, Sa2, Na2, Ha2, Ga2⟩ := id (P4)
  have hin2 := inb_of (j := (2 : Int32)) Sa2 ⟨by decide, by decide⟩
  have hat2 : cl2.slots[((2 : Int32)).toNatClampNeg]? = some (.int p7) := Has.at Ha2 hin2 rfl
  obtain ⟨_, T3, L3, X3, hQ3, st3⟩ := own_cs X1 hx hZ hown (y := yn2) (own_w hw 27 rfl) (own_w hw 28 rfl) (own_w hw 29 rfl) (w_9 hw) e1 (argsL := [(.int p7)]) (rest := [(.int 1)]) (rm3 l Z a0 hw [] p7 h0 n0 O0 ) (g := (mkF m 24 (l351_9 o1 o2) [(.int p7), (.int 1)])) rfl (by rw [hml]; rfl) rfl (hb hby d2_24) (lenOf pd2 rfl) (W := 1) (c1 := 0) (s1 := 0)
  have pre4 : Go p e below T1 (mkF m 24 (l351_9 o1 o2) [(.int p7), (.int 1)]) E0 := fun t k => by
   refine pre0 _ ?_
   refine st1 _ ?_
   refine yis X1 hx hby d2_4 (l' := #[.val (.ref o1), .val (.int 2), .val (.ref o2), .val (.int 2), .val (.int 1), .val (.int 1), .unset, .unset]) rfl ?_
   refine yin X1 hx hby d2_6 rfl ?_
   refine yis X1 hx hby d2_7 (l' := (l351_9 o1 o2)) rfl ?_
   refine yil X1 hx hby d2_9 rfl ?_
   refine yin X1 hx hby d2_11 rfl ?_
   refine yil X1 hx hby d2_12 rfl ?_
   refine yad X1 hx hby d2_14 ?_
   refine yno X1 hx hby d2_15 (tlt (by decide : (2 : Int32) < (3 : Int32))).2.1 ?_
   refine yil X1 hx hby d2_18 rfl ?_
   refine yan X1 hx hby d2_20 rfl rfl ?_
   refine yil X1 hx hby d2_21 rfl ?_
   refine X1.iaload hx (j := (2 : Int32)) (v := (.int p7)) (by rw [e1]; exact Ar2.1) (State.isArrayOf_alike hZ.alike Ar2.2.1) Ar2.2.2 hin2 hat2 (g := (mkF m 23 (l351_9 o1 o2) [(.int 2), (.ref o2), (.int 1)])) rfl rfl (hb hby d2_23) _ ?_
   exact k
  rcases hQ3 with ⟨hc5, rfl, Nq6, e7⟩ | ⟨hc8, hc9, rfl, Nq10, e11⟩ | ⟨hc12, hc13, rfl, Nq14, e15⟩
  ·
   have N3 := Fr.app N0 Nq6
   obtain ⟨_, T16, L16, X16, hQ16, st16⟩ := own_cs X3 hx hZ hown (y := yn3) (w_30 hw) (w_31 hw) (w_33 hw) (w_32 hw) e7 (argsL := [(.int 1), (.int 1)]) (rest := []) (rm4 l Z a0 hw [] ((1 : Int32)) ((1 : Int32)) h0 n0 O0 ) (g := (mkF m 27 (l351_9 o1 o2) [(.int 1), (.int 1)])) rfl (by rw [hml]; rfl) rfl (hb hby d2_27) (lenOf pd0 rfl) (W := 0) (c1 := 0) (s1 := 0)
   have pre17 : Go p e below T3 (mkF m 27 (l351_9 o1 o2) [(.int 1), (.int 1)]) E0 := fun t k => by
    refine pre4 _ ?_
    refine st3 _ ?_
    exact k
   rcases hQ16 with ⟨hc18, rfl, Nq19, e20⟩ | ⟨hc21, rfl, Nq22, e23⟩
   ·
    exact absurd hc18 (by decide : ¬ ((1 : Int32) < (1 : Int32)))
   ·
    have N16 := Fr.app N3 Nq22
    have pre24 : Go p e below T16 (mkF m 38 (l351_6 o1 o2) []) E0 := fun t k => by
     refine pre17 _ ?_
     refine st16 _ ?_
     refine yis X16 hx hby d2_30 (l' := (l351_9 o1 o2)) rfl ?_
     refine XS.iinc X16.here hx rfl (hb hby d2_32) rfl (l' := (l351_6 o1 o2)) rfl ?_
     refine ygo X16 hx hby 35 9 rfl d2_35 (by decide) ?_
     refine yil X16 hx hby d2_9 rfl ?_
     refine yin X16 hx hby d2_11 rfl ?_
     refine yil X16 hx hby d2_12 rfl ?_
     refine yad X16 hx hby d2_14 ?_
     refine yye X16 hx hby 15 38 rfl d2_15 (flt (by decide : ¬ ((3 : Int32) < (3 : Int32)))).2.1 (by decide) ?_
     exact k
    exact (Or.inl ⟨_, _, X16.more (by decide) (by decide), e23, N16, pre24, hc5⟩)
  ·
   have N3 := Fr.app N0 Nq10
   obtain ⟨_, T25, L25, X25, hQ25, st25⟩ := own_cs X3 hx hZ hown (y := yn3) (w_30 hw) (w_31 hw) (w_33 hw) (w_32 hw) e11 (argsL := [(.int 1), (.int 2)]) (rest := []) (rm4 l Z a0 hw [] ((1 : Int32)) ((2 : Int32)) h0 n0 O0 ) (g := (mkF m 27 (l351_9 o1 o2) [(.int 2), (.int 1)])) rfl (by rw [hml]; rfl) rfl (hb hby d2_27) (lenOf pd0 rfl) (W := 0) (c1 := 0) (s1 := 0)
   have pre26 : Go p e below T3 (mkF m 27 (l351_9 o1 o2) [(.int 2), (.int 1)]) E0 := fun t k => by
    refine pre4 _ ?_
    refine st3 _ ?_
    exact k
   rcases hQ25 with ⟨hc27, rfl, Nq28, e29⟩ | ⟨hc30, rfl, Nq31, e32⟩
   ·
    have N25 := Fr.app N3 Nq28
    have pre33 : Go p e below T25 (mkF m 38 (l351_7 o1 o2) []) E0 := fun t k => by
     refine pre26 _ ?_
     refine st25 _ ?_
     refine yis X25 hx hby d2_30 (l' := #[.val (.ref o1), .val (.int 2), .val (.ref o2), .val (.int 2), .val (.int 1), .val (.int 2), .val (.int 2), .unset]) rfl ?_
     refine XS.iinc X25.here hx rfl (hb hby d2_32) rfl (l' := (l351_7 o1 o2)) rfl ?_
     refine ygo X25 hx hby 35 9 rfl d2_35 (by decide) ?_
     refine yil X25 hx hby d2_9 rfl ?_
     refine yin X25 hx hby d2_11 rfl ?_
     refine yil X25 hx hby d2_12 rfl ?_
     refine yad X25 hx hby d2_14 ?_
     refine yye X25 hx hby 15 38 rfl d2_15 (flt (by decide : ¬ ((3 : Int32) < (3 : Int32)))).2.1 (by decide) ?_
     exact k
    exact (Or.inr (Or.inl ⟨_, _, X25.more (by decide) (by decide), e29, N25, pre33, hc9⟩))
   ·
    exact absurd (by decide : (1 : Int32) < (2 : Int32)) hc30
  ·
   have N3 := Fr.app N0 Nq14
   obtain ⟨_, T34, L34, X34, hQ34, st34⟩ := own_cs X3 hx hZ hown (y := yn3) (w_30 hw) (w_31 hw) (w_33 hw) (w_32 hw) e15 (argsL := [(.int 1), (.int 3)]) (rest := []) (rm4 l Z a0 hw [] ((1 : Int32)) ((3 : Int32)) h0 n0 O0 ) (g := (mkF m 27 (l351_9 o1 o2) [(.int 3), (.int 1)])) rfl (by rw [hml]; rfl) rfl (hb hby d2_27) (lenOf pd0 rfl) (W := 0) (c1 := 0) (s1 := 0)
   have pre35 : Go p e below T3 (mkF m 27 (l351_9 o1 o2) [(.int 3), (.int 1)]) E0 := fun t k => by
    refine pre4 _ ?_
    refine st3 _ ?_
    exact k
   rcases hQ34 with ⟨hc36, rfl, Nq37, e38⟩ | ⟨hc39, rfl, Nq40, e41⟩
   ·
    have N34 := Fr.app N3 Nq37
    have pre42 : Go p e below T34 (mkF m 38 (l351_8 o1 o2) []) E0 := fun t k => by
     refine pre35 _ ?_
     refine st34 _ ?_
     refine yis X34 hx hby d2_30 (l' := #[.val (.ref o1), .val (.int 2), .val (.ref o2), .val (.int 2), .val (.int 1), .val (.int 3), .val (.int 2), .unset]) rfl ?_
     refine XS.iinc X34.here hx rfl (hb hby d2_32) rfl (l' := (l351_8 o1 o2)) rfl ?_
     refine ygo X34 hx hby 35 9 rfl d2_35 (by decide) ?_
     refine yil X34 hx hby d2_9 rfl ?_
     refine yin X34 hx hby d2_11 rfl ?_
     refine yil X34 hx hby d2_12 rfl ?_
     refine yad X34 hx hby d2_14 ?_
     refine yye X34 hx hby 15 38 rfl d2_15 (flt (by decide : ¬ ((3 : Int32) < (3 : Int32)))).2.1 (by decide) ?_
     exact k
    exact (Or.inr (Or.inr ⟨_, _, X34.more (by decide) (by decide), e38, N34, pre42⟩))
   ·
    exact absurd (by decide : (1 : Int32) < (3 : Int32)) hc39
 rcases J0 with ⟨T43, lc43, X43, e43, N43, pre43, hc44⟩ | ⟨T45, lc45, X45, e45, N45, pre45, hc46⟩ | ⟨T47, lc47, X47, e47, N47, pre47⟩
 ·
  obtain ⟨T48, X48, e48, st48⟩ := yag X43 hx hZ hown hby (w_20 hw) e43 P3 40 (l351_6 o1 o2) [(.int 1)] d2_40 d2_41 rfl
  obtain ⟨T49, X49, e49, st49⟩ := yag X48 hx hZ hown hby (w_34 hw) e48 P2 53 (l351_6 o1 o2) [] d2_53 d2_54 rfl
  obtain ⟨T50, X50, e50, st50⟩ := yag X49 hx hZ hown hby (w_20 hw) e49 P3 60 (l351_6 o1 o2) [(.int 3)] d2_60 d2_61 rfl
  obtain ⟨T51, X51, e51, st51⟩ := yag X50 hx hZ hown hby (w_18 hw) e50 P1 69 (l351_6 o1 o2) [(.int 3)] d2_69 d2_70 rfl
  obtain ⟨cl52, Ar52, qa52, Sa52, Na52, Ha52, Ga52⟩ := id (P6)
  obtain ⟨T53, X53, e53, st53⟩ := yag X51 hx hZ hown hby (w_18 hw) e51 P1 78 (l351_6 o1 o2) [(.ref o1)] d2_78 d2_79 rfl
  obtain ⟨T54, X54, e54, st54⟩ := yag X53 hx hZ hown hby (w_18 hw) e53 P1 84 (l351_6 o1 o2) [(.int 3), (.ref o3), (.ref o1)] d2_84 d2_85 rfl
  obtain ⟨cl55, Ar55, qa55, Sa55, Na55, Ha55, Ga55⟩ := id (P6)
  obtain ⟨T56, X56, e56, st56⟩ := yag X54 hx hZ hown hby (w_18 hw) e54 P1 89 (l351_6 o1 o2) [(.int 2), (.int 3), (.ref o3), (.ref o1)] d2_89 d2_90 rfl
  obtain ⟨cl57, Ar57, qa57, Sa57, Na57, Ha57, Ga57⟩ := id (P6)
  obtain ⟨_, T58, L58, X58, hQ58, st58⟩ := own_cs X56 hx hZ hown (y := yn3) (w_30 hw) (w_31 hw) (w_33 hw) (w_32 hw) e56 (argsL := [(.int 3), (.int 3)]) (rest := [(.ref o3), (.ref o1)]) (rm4 l Z a0 hw [] ((3 : Int32)) ((3 : Int32)) h0 n0 O0 ) (g := (mkF m 97 (l351_6 o1 o2) [(.int 3), (.int 3), (.ref o3), (.ref o1)])) rfl (by rw [hml]; rfl) rfl (hb hby d2_97) (lenOf pd0 rfl) (W := 2) (c1 := 0) (s1 := 0)
  have pre59 : Go p e below T56 (mkF m 97 (l351_6 o1 o2) [(.int 3), (.int 3), (.ref o3), (.ref o1)]) E0 := fun t k => by
   refine pre43 _ ?_
   refine yil X43 hx hby d2_38 rfl ?_
   refine st48 _ ?_
   refine yye X48 hx hby 44 53 rfl d2_44 (flt (by decide : ¬ ((1 : Int32) < (1 : Int32)))).2.2.2 (by decide) ?_
   refine st49 _ ?_
   refine yil X49 hx hby d2_57 rfl ?_
   refine yad X49 hx hby d2_59 ?_
   refine st50 _ ?_
   refine XS.imul X50.here hx rfl (hb hby d2_64) rfl ?_
   refine yis X50 hx hby d2_65 (l' := (l351_6 o1 o2)) rfl ?_
   refine yil X50 hx hby d2_67 rfl ?_
   refine st51 _ ?_
   refine X51.arraylength hx (by rw [e51]; exact Ar52.1) (State.isArrayOf_alike hZ.alike Ar52.2.1) (g := (mkF m 73 (l351_6 o1 o2) [(.ref o3), (.int 3)])) rfl rfl (hb hby d2_73) _ ?_
   rw [len_of Sa52 Na52]
   refine yno X51 hx hby d2_74 (tlt (by decide : (2 : Int32) < (3 : Int32))).2.2.2 ?_
   refine yan X51 hx hby d2_77 rfl rfl ?_
   refine st53 _ ?_
   refine yil X53 hx hby d2_82 rfl ?_
   refine st54 _ ?_
   refine X54.arraylength hx (by rw [e54]; exact Ar55.1) (State.isArrayOf_alike hZ.alike Ar55.2.1) (g := (mkF m 88 (l351_6 o1 o2) [(.ref o3), (.int 3), (.ref o3), (.ref o1)])) rfl rfl (hb hby d2_88) _ ?_
   rw [len_of Sa55 Na55]
   refine st56 _ ?_
   refine X56.arraylength hx (by rw [e56]; exact Ar57.1) (State.isArrayOf_alike hZ.alike Ar57.2.1) (g := (mkF m 93 (l351_6 o1 o2) [(.ref o3), (.int 2), (.int 3), (.ref o3), (.ref o1)])) rfl rfl (hb hby d2_93) _ ?_
   rw [len_of Sa57 Na57]
   refine XS.iconst X56.here hx rfl (hb hby d2_94) ?_
   refine XS.idiv X56.here hx rfl (hb hby d2_95) rfl (by decide : ¬ ((2 : Int32) = (0 : Int32))) ?_
   refine yad X56 hx hby d2_96 ?_
   exact k
  rcases hQ58 with ⟨hc60, rfl, Nq61, e62⟩ | ⟨hc63, rfl, Nq64, e65⟩
  ·
   exact absurd hc60 (by decide : ¬ ((3 : Int32) < (3 : Int32)))
  ·
   have N58 := Fr.app N43 Nq64
   obtain ⟨_, T66, L66, X66, hQ66, st66⟩ := own_cs X58 hx hZ hown (y := yn5) (own_w hw 36 rfl) (w_37 hw) (own_w hw 39 rfl) (w_38 hw) e65 (argsL := [(.ref o3), (.int 3)]) (rest := [(.ref o1)]) (rm18 l Z a0 hw [] o3 kc8 p9 p10 h0 n0 O0 g_o3 P6) (g := (mkF m 100 (l351_6 o1 o2) [(.int 3), (.ref o3), (.ref o1)])) rfl (by rw [hml]; rfl) rfl (hb hby d2_100) (lenOf pd3 rfl) (W := 1) (c1 := 1) (s1 := 3)
   obtain ⟨b67, k68, rfl, Nq69, K70, sz_b67, f71, f72⟩ := hQ66
   have N66 := Fr.app N58 Nq69
   have g_b67 : n0 ≤ b67 := Nat.le_trans (own_oz O0) sz_b67
   have O66 := Old.keep O0 K70 all0
   have f73 := (P1.keep K70 nin0)
   have f74 := (P0.keep K70)
   obtain ⟨T75, h75, X75, e75, W75, st75⟩ := putF X66 hx hZ hown (host := "") (Or.inl (w_18 hw)) Via.refl rfl f73 f74 (Or.inl (w_19 hw)) (w_8 hw) (ty := (.array .byte)) (by decide) rfl rfl (g := (mkF m 103 (l351_6 o1 o2) [(.ref b67), (.ref o1)])) rfl rfl (hb hby d2_103)
   have N75 := Fr.snoc X75 N66 g_o1
   have Fw75 := f73.same W75
   have O75 := Old.wr O66 W75 g_o1
   obtain ⟨T76, X76, e76, st76⟩ := yag X75 hx hZ hown hby (w_18 hw) e75 Fw75 106 (l351_6 o1 o2) [] d2_106 d2_107 rfl
   have f77 := ((P3.keep K70 nin0).other W75 (Or.inr (slot_ne (Or.inl (w_21 hw)) (Or.inl (w_19 hw)) (by decide) (t := .int) (t' := (.array .byte)) (by decide) (by decide))))
   obtain ⟨T78, X78, e78, st78⟩ := yag X76 hx hZ hown hby (w_20 hw) e76 f77 111 (l351_6 o1 o2) [(.int 2), (.ref b67)] d2_111 d2_112 rfl
   obtain ⟨T79, X79, e79, st79⟩ := yag X78 hx hZ hown hby (w_18 hw) e78 Fw75 116 (l351_6 o1 o2) [(.int 2), (.ref b67)] d2_116 d2_117 rfl
   obtain ⟨T80, X80, e80, st80⟩ := yag X79 hx hZ hown hby (w_20 hw) e79 f77 124 (l351_6 o1 o2) [(.int 3), (.ref b67), (.int 2), (.ref b67)] d2_124 d2_125 rfl
   have f81 := ((P2.keep K70 nin0).other W75 (Or.inr (slot_ne (Or.inl (w_35 hw)) (Or.inl (w_19 hw)) (by decide) (t := .int) (t' := (.array .byte)) (by decide) (by decide))))
   obtain ⟨T82, X82, e82, st82⟩ := yag X80 hx hZ hown hby (w_34 hw) e80 f81 129 (l351_6 o1 o2) [(.int 3), (.ref b67), (.int 2), (.ref b67)] d2_129 d2_130 rfl
   obtain ⟨T83, X83, e83, st83⟩ := yag X82 hx hZ hown hby (w_20 hw) e82 f77 135 (l351_6 o1 o2) [(.int 0), (.int 3), (.ref b67), (.int 2), (.ref b67)] d2_135 d2_136 rfl
   have lt84 : o1 < h0.size := P0.lt
   have ne85 : o1 ≠ b67 := Nat.ne_of_lt (Nat.lt_of_lt_of_le lt84 sz_b67)
   have f86 := (f71.other W75 (Ne.symm ne85))
   obtain ⟨T87, h87, L87, X87, e87, N87, K87, VV87, st87⟩ := cpA X83 hx hZ hown (own_w hw 48 rfl) (w_47 hw) (w_45 hw) (w_46 hw) e83 (us := []) f86 f86 (Or.inl ⟨rfl, rfl⟩) (by decide) (by decide) (by decide) (by decide) (by decide) rfl (by first | decide | exact (by decide : 3 + 0 ≤ 3)) N75 g_b67 (g := (mkF m 140 (l351_6 o1 o2) [(.int 0), (.int 3), (.ref b67), (.int 2), (.ref b67)])) rfl (by rw [hml]; rfl) rfl (hb hby d2_140) (by decide) (W := 0) (by show 2 * 0 + _ ≤ _; exact Nat.le_of_eq rfl) (by decide)
   have V87 : Arv Z h87 b67 k68 .byte (3 : Int32) [(.int p9), (.int p10), (.int 0)] (.int 0) := VV87
   have O87 := Old.keep O75 K87 (allS g_b67 all0)
   have f88 := (f81.keep K87 (ninS ne85 nin0))
   obtain ⟨T89, X89, e89, st89⟩ := yg X87 hx hZ hown hby (w_34 hw) e87 f88 145 (l351_6 o1 o2) [(.ref o1)] d2_145
   have f90 := ((f74.wr W75).keep K87)
   obtain ⟨T91, h91, X91, e91, W91, st91⟩ := putF X89 hx hZ hown (host := "") (Or.inl (w_34 hw)) Via.refl e89 f88 f90 (Or.inl (w_35 hw)) (w_8 hw) (ty := .int) (by decide) rfl rfl (g := (mkF m 151 (l351_6 o1 o2) [(.int 3), (.ref o1)])) rfl rfl (hb hby d2_151)
   have N91 := Fr.snoc X91 N87 g_o1
   have Fw91 := f88.same W91
   have O91 := Old.wr O87 W91 g_o1
   have f92 := ((((P5.keep K70).wr W75).keep K87).wr W91)
   have f93 := (f90.wr W91)
   have ne94 : o2 ≠ o1 := ne_exa f92 f93 (by decide)
   have lt95 : o2 < h0.size := P4.lt
   have ne96 : o2 ≠ b67 := Nat.ne_of_lt (Nat.lt_of_lt_of_le lt95 sz_b67)
   have f97 := ((((P4.keep K70 nin0).other W75 ne94).keep K87 (ninS ne96 nin0)).other W91 ne94)
   obtain ⟨cl98, Ar98, qa98, Sa98, Na98, Ha98, Ga98⟩ := id (f97)
   have hin98 := inb_of (j := (2 : Int32)) Sa98 ⟨by decide, by decide⟩
   have hat98 : cl98.slots[((2 : Int32)).toNatClampNeg]? = some (.int p7) := Has.at Ha98 hin98 rfl
   have f99 := ((Fw75.keep K87 (ninS ne85 nin0)).other W91 (Or.inr (slot_ne (Or.inl (w_19 hw)) (Or.inl (w_35 hw)) (by decide) (t := (.array .byte)) (t' := .int) (by decide) (by decide))))
   have f100 := ((f77.keep K87 (ninS ne85 nin0)).other W91 (Or.inr (slot_ne (Or.inl (w_21 hw)) (Or.inl (w_35 hw)) (by decide) (t := .int) (t' := .int) (by decide) (by decide))))
   have f101 := (V87.other W91 (Ne.symm ne85))
   have f102 := (((f72.wr W75).keep K87).wr W91)
   obtain ⟨_, T103, L103, X103, hQ103, st103⟩ := own_pb X91 hx hZ hown (y := yn6) (w_49 hw) (w_50 hw) (own_selp (mvT hZ (w_25 hw)) rfl (Cond.privateMethod_at (mvP hZ (w_51 hw) (args := #[]))) (mvT hZ (w_50 hw)) (by decide)) (w_51 hw) (own_w hw 52 rfl) (w_9 hw) e91 f93 (argsL := [(.int 2), (.int p7)]) (rest := []) (rm52 l Z a0 hw [] o1 b67 k68 p9 p10 p7 h91 n0 O91 g_o1 g_b67 f99 f100 f101 f102) (g := (mkF m 175 (l351_0 o1 o2) [(.int p7), (.int 2), (.ref o1)])) rfl (by rw [hml]; rfl) rfl (hb hby d2_175) (lenOf pd4 rfl) (W := 0) (c1 := 1) (s1 := 3)
   obtain ⟨rfl, Nq104, K105, f106, f107⟩ := hQ103
   have N103 := Fr.app N91 Nq104
   obtain ⟨fs, hr, hrun, hended, hW, hsame⟩ := X103.leave (v := none) (fun _ => rfl)
   have KL : Keep h0 T103.heap [o1] := ((((((Keep.refl h0 [o1]).trans K70 all0).wr W75 (Or.inl (List.mem_of_getElem? (i := 0) rfl))).trans K87 (allS (Or.inr (Nat.le_trans (Nat.le_refl _) sz_b67)) all0)).wr W91 (Or.inl (List.mem_of_getElem? (i := 0) rfl))).trans K105 (allS (Or.inr (Nat.le_trans (Nat.le_refl _) sz_b67)) all0))
   have f108 := (f93.keep K105)
   have f109 := (f99.keep K105 (ninS ne85 nin0))
   have f110 := (Fw91.keep K105 (ninS ne85 nin0))
   have f111 := (f100.keep K105 (ninS ne85 nin0))
   refine ⟨_, _, pre59 _ ?_, hrun, hended, _, _, rfl, ?_, ⟨_, rfl⟩, hW, hsame.mono (by decide) (by decide)⟩
   ·
    refine st58 _ ?_
    refine st66 _ ?_
    refine st75 _ ?_
    refine st76 _ ?_
    refine yin X76 hx hby d2_110 rfl ?_
    refine st78 _ ?_
    refine XS.imul X78.here hx rfl (hb hby d2_115) rfl ?_
    show Steps p.tables e below (T78.setTop (mkF m 116 (l351_6 o1 o2) [(.int 2), (.ref b67)])) _
    refine st79 _ ?_
    refine yin X79 hx hby d2_120 rfl ?_
    refine yil X79 hx hby d2_121 rfl ?_
    refine yad X79 hx hby d2_123 ?_
    refine st80 _ ?_
    refine XS.imul X80.here hx rfl (hb hby d2_128) rfl ?_
    refine st82 _ ?_
    refine yin X82 hx hby d2_133 rfl ?_
    refine ysu X82 hx hby d2_134 ?_
    refine st83 _ ?_
    refine XS.imul X83.here hx rfl (hb hby d2_139) rfl ?_
    refine st87 _ ?_
    refine yan X87 hx hby d2_143 rfl rfl ?_
    refine XS.dup X87.here hx rfl (hb hby d2_144) rfl rfl ?_
    refine st89 _ ?_
    refine yil X89 hx hby d2_148 rfl ?_
    refine yad X89 hx hby d2_150 ?_
    refine st91 _ ?_
    refine XS.iconst X91.here hx rfl (hb hby d2_154) ?_
    refine yis X91 hx hby d2_155 (l' := (l351_0 o1 o2)) rfl ?_
    refine yil X91 hx hby d2_157 rfl ?_
    refine yil X91 hx hby d2_159 rfl ?_
    refine yno X91 hx hby d2_161 (tlt (by decide : (0 : Int32) < (1 : Int32))).2.1 ?_
    refine yan X91 hx hby d2_164 rfl rfl ?_
    refine yin X91 hx hby d2_165 rfl ?_
    refine yil X91 hx hby d2_166 rfl ?_
    refine yad X91 hx hby d2_168 ?_
    refine yan X91 hx hby d2_169 rfl rfl ?_
    refine yin X91 hx hby d2_170 rfl ?_
    refine yil X91 hx hby d2_171 rfl ?_
    refine yad X91 hx hby d2_173 ?_
    refine X91.iaload hx (j := (2 : Int32)) (v := (.int p7)) (by rw [e91]; exact Ar98.1) (State.isArrayOf_alike hZ.alike Ar98.2.1) Ar98.2.2 hin98 hat98 (g := (mkF m 174 (l351_0 o1 o2) [(.int 2), (.ref o2), (.int 2), (.ref o1)])) rfl rfl (hb hby d2_174) _ ?_
    refine st103 _ ?_
    refine XS.iinc X103.here hx rfl (hb hby d2_178) rfl (l' := (l351_1 o1 o2)) rfl ?_
    refine ygo X103 hx hby 181 157 rfl d2_181 (by decide) ?_
    refine yil X103 hx hby d2_157 rfl ?_
    refine yil X103 hx hby d2_159 rfl ?_
    show Steps p.tables e below (T103.setTop (mkF m 161 (l351_1 o1 o2) [(.int 1), (.int 1)])) _
    refine yye X103 hx hby 161 184 rfl d2_161 (flt (by decide : ¬ ((1 : Int32) < (1 : Int32)))).2.1 (by decide) ?_
    show Steps p.tables e below (T103.setTop (mkF m 184 (l351_1 o1 o2) [])) _
    exact X103.returnOut hx hret (hb hby d2_184) hr
   ·
    show Q55 Z w1 kw1 o1 o2 o3 kc4 p5 p6 p7 kc8 p9 p10 h0 n0 _ T103.heap _
    exact (Or.inl ⟨b67, k68, hc44, rfl, N103, KL, (Nat.le_trans (Nat.le_refl _) sz_b67), f108, f109, f110, f111, f106, f107⟩)
 ·
  obtain ⟨T112, X112, e112, st112⟩ := yag X45 hx hZ hown hby (w_20 hw) e45 P3 40 (l351_7 o1 o2) [(.int 2)] d2_40 d2_41 rfl
  obtain ⟨_, T113, L113, X113, hQ113, st113⟩ := own_pb X112 hx hZ hown (y := yn7) (own_w hw 65 rfl) (own_w hw 66 rfl) (own_selp (mvT hZ (w_25 hw)) rfl (Cond.privateMethod_at (mvP hZ (own_w hw 67 rfl) (args := #[]))) (mvT hZ (own_w hw 66 rfl)) (by decide)) (own_w hw 67 rfl) (own_w hw 68 rfl) (w_9 hw) e112 P0 (argsL := [(.int 2)]) (rest := []) (rm22 l Z a0 hw w1 kw1 G [] o1 o3 kc8 p9 p10 h0 n0 O0 g_o1 g_o3 P0 P1 P2 P3 P6 P7) (g := (mkF m 50 (l351_7 o1 o2) [(.int 2), (.ref o1)])) rfl (by rw [hml]; rfl) rfl (hb hby d2_50) (lenOf pd5 rfl) (W := 0) (c1 := 2) (s1 := 7)
  obtain ⟨b114, k115, rfl, Nq116, K117, sz_b114, f118, f119, f120, f121, f122, f123⟩ := hQ113
  have N113 := Fr.app N45 Nq116
  have g_b114 : n0 ≤ b114 := Nat.le_trans (own_oz O0) sz_b114
  have M113 : h0.size ≤ T113.heap.size := Nat.le_trans (Nat.le_refl _) K117.1
  have O113 := Old.keep O0 K117 (allS g_o1 all0)
  obtain ⟨T124, X124, e124, st124⟩ := yag X113 hx hZ hown hby (w_34 hw) rfl f120 53 (l351_7 o1 o2) [] d2_53 d2_54 rfl
  obtain ⟨T125, X125, e125, st125⟩ := yag X124 hx hZ hown hby (w_20 hw) e124 f121 60 (l351_7 o1 o2) [(.int 3)] d2_60 d2_61 rfl
  obtain ⟨T126, X126, e126, st126⟩ := yag X125 hx hZ hown hby (w_18 hw) e125 f119 69 (l351_10 o1 o2) [(.int 6)] d2_69 d2_70 rfl
  obtain ⟨cl127, Ar127, qa127, Sa127, Na127, Ha127, Ga127⟩ := id (f122)
  obtain ⟨T128, X128, e128, st128⟩ := yag X126 hx hZ hown hby (w_18 hw) e126 f119 78 (l351_10 o1 o2) [(.ref o1)] d2_78 d2_79 rfl
  obtain ⟨T129, X129, e129, st129⟩ := yag X128 hx hZ hown hby (w_18 hw) e128 f119 84 (l351_10 o1 o2) [(.int 6), (.ref b114), (.ref o1)] d2_84 d2_85 rfl
  obtain ⟨cl130, Ar130, qa130, Sa130, Na130, Ha130, Ga130⟩ := id (f122)
  obtain ⟨T131, X131, e131, st131⟩ := yag X129 hx hZ hown hby (w_18 hw) e129 f119 89 (l351_10 o1 o2) [(.int 4), (.int 6), (.ref b114), (.ref o1)] d2_89 d2_90 rfl
  obtain ⟨cl132, Ar132, qa132, Sa132, Na132, Ha132, Ga132⟩ := id (f122)
  obtain ⟨_, T133, L133, X133, hQ133, st133⟩ := own_cs X131 hx hZ hown (y := yn3) (w_30 hw) (w_31 hw) (w_33 hw) (w_32 hw) e131 (argsL := [(.int 6), (.int 6)]) (rest := [(.ref b114), (.ref o1)]) (rm4 l Z a0 hw [] ((6 : Int32)) ((6 : Int32)) T113.heap n0 O113 ) (g := (mkF m 97 (l351_10 o1 o2) [(.int 6), (.int 6), (.ref b114), (.ref o1)])) rfl (by rw [hml]; rfl) rfl (hb hby d2_97) (lenOf pd0 rfl) (W := 2) (c1 := 2) (s1 := 7)
  have pre134 : Go p e below T131 (mkF m 97 (l351_10 o1 o2) [(.int 6), (.int 6), (.ref b114), (.ref o1)]) E0 := fun t k => by
   refine pre45 _ ?_
   refine yil X45 hx hby d2_38 rfl ?_
   refine st112 _ ?_
   refine yno X112 hx hby d2_44 (tlt (by decide : (1 : Int32) < (2 : Int32))).2.2.2 ?_
   refine yan X112 hx hby d2_47 rfl rfl ?_
   refine yil X112 hx hby d2_48 rfl ?_
   refine st113 _ ?_
   refine st124 _ ?_
   refine yil X124 hx hby d2_57 rfl ?_
   refine yad X124 hx hby d2_59 ?_
   refine st125 _ ?_
   refine XS.imul X125.here hx rfl (hb hby d2_64) rfl ?_
   refine yis X125 hx hby d2_65 (l' := (l351_10 o1 o2)) rfl ?_
   refine yil X125 hx hby d2_67 rfl ?_
   refine st126 _ ?_
   refine X126.arraylength hx (by rw [e126]; exact Ar127.1) (State.isArrayOf_alike hZ.alike Ar127.2.1) (g := (mkF m 73 (l351_10 o1 o2) [(.ref b114), (.int 6)])) rfl rfl (hb hby d2_73) _ ?_
   rw [len_of Sa127 Na127]
   refine yno X126 hx hby d2_74 (tlt (by decide : (4 : Int32) < (6 : Int32))).2.2.2 ?_
   refine yan X126 hx hby d2_77 rfl rfl ?_
   refine st128 _ ?_
   refine yil X128 hx hby d2_82 rfl ?_
   refine st129 _ ?_
   refine X129.arraylength hx (by rw [e129]; exact Ar130.1) (State.isArrayOf_alike hZ.alike Ar130.2.1) (g := (mkF m 88 (l351_10 o1 o2) [(.ref b114), (.int 6), (.ref b114), (.ref o1)])) rfl rfl (hb hby d2_88) _ ?_
   rw [len_of Sa130 Na130]
   refine st131 _ ?_
   refine X131.arraylength hx (by rw [e131]; exact Ar132.1) (State.isArrayOf_alike hZ.alike Ar132.2.1) (g := (mkF m 93 (l351_10 o1 o2) [(.ref b114), (.int 4), (.int 6), (.ref b114), (.ref o1)])) rfl rfl (hb hby d2_93) _ ?_
   rw [len_of Sa132 Na132]
   refine XS.iconst X131.here hx rfl (hb hby d2_94) ?_
   refine XS.idiv X131.here hx rfl (hb hby d2_95) rfl (by decide : ¬ ((2 : Int32) = (0 : Int32))) ?_
   refine yad X131 hx hby d2_96 ?_
   exact k
  rcases hQ133 with ⟨hc135, rfl, Nq136, e137⟩ | ⟨hc138, rfl, Nq139, e140⟩
  ·
   exact absurd hc135 (by decide : ¬ ((6 : Int32) < (6 : Int32)))
  ·
   have N133 := Fr.app N113 Nq139
   obtain ⟨_, T141, L141, X141, hQ141, st141⟩ := own_cs X133 hx hZ hown (y := yn5) (own_w hw 36 rfl) (w_37 hw) (own_w hw 39 rfl) (w_38 hw) e140 (argsL := [(.ref b114), (.int 6)]) (rest := [(.ref o1)]) (rm23 l Z a0 hw [] b114 k115 (((((p9 &&& (255 : Int32)).toUInt32 >>> ((8 : Int32) &&& 31).toUInt32).toInt32).toInt8.toInt32)) (((p9 &&& (255 : Int32)).toInt8.toInt32)) (((((p10 &&& (255 : Int32)).toUInt32 >>> ((8 : Int32) &&& 31).toUInt32).toInt32).toInt8.toInt32)) (((p10 &&& (255 : Int32)).toInt8.toInt32)) T113.heap n0 O113 g_b114 f122) (g := (mkF m 100 (l351_10 o1 o2) [(.int 6), (.ref b114), (.ref o1)])) rfl (by rw [hml]; rfl) rfl (hb hby d2_100) (lenOf pd3 rfl) (W := 1) (c1 := 3) (s1 := 13)
   obtain ⟨b142, k143, rfl, Nq144, K145, sz_b142, f146, f147⟩ := hQ141
   have N141 := Fr.app N133 Nq144
   have g_b142 : n0 ≤ b142 := Nat.le_trans (own_oz O113) sz_b142
   have O141 := Old.keep O113 K145 all0
   have f148 := (f119.keep K145 nin0)
   have f149 := (f118.keep K145)
   obtain ⟨T150, h150, X150, e150, W150, st150⟩ := putF X141 hx hZ hown (host := "") (Or.inl (w_18 hw)) Via.refl rfl f148 f149 (Or.inl (w_19 hw)) (w_8 hw) (ty := (.array .byte)) (by decide) rfl rfl (g := (mkF m 103 (l351_10 o1 o2) [(.ref b142), (.ref o1)])) rfl rfl (hb hby d2_103)
   have N150 := Fr.snoc X150 N141 g_o1
   have Fw150 := f148.same W150
   have O150 := Old.wr O141 W150 g_o1
   obtain ⟨T151, X151, e151, st151⟩ := yag X150 hx hZ hown hby (w_18 hw) e150 Fw150 106 (l351_10 o1 o2) [] d2_106 d2_107 rfl
   have f152 := ((f121.keep K145 nin0).other W150 (Or.inr (slot_ne (Or.inl (w_21 hw)) (Or.inl (w_19 hw)) (by decide) (t := .int) (t' := (.array .byte)) (by decide) (by decide))))
   obtain ⟨T153, X153, e153, st153⟩ := yag X151 hx hZ hown hby (w_20 hw) e151 f152 111 (l351_10 o1 o2) [(.int 2), (.ref b142)] d2_111 d2_112 rfl
   obtain ⟨T154, X154, e154, st154⟩ := yag X153 hx hZ hown hby (w_18 hw) e153 Fw150 116 (l351_10 o1 o2) [(.int 4), (.ref b142)] d2_116 d2_117 rfl
   obtain ⟨T155, X155, e155, st155⟩ := yag X154 hx hZ hown hby (w_20 hw) e154 f152 124 (l351_10 o1 o2) [(.int 3), (.ref b142), (.int 4), (.ref b142)] d2_124 d2_125 rfl
   have f156 := ((f120.keep K145 nin0).other W150 (Or.inr (slot_ne (Or.inl (w_35 hw)) (Or.inl (w_19 hw)) (by decide) (t := .int) (t' := (.array .byte)) (by decide) (by decide))))
   obtain ⟨T157, X157, e157, st157⟩ := yag X155 hx hZ hown hby (w_34 hw) e155 f156 129 (l351_10 o1 o2) [(.int 6), (.ref b142), (.int 4), (.ref b142)] d2_129 d2_130 rfl
   obtain ⟨T158, X158, e158, st158⟩ := yag X157 hx hZ hown hby (w_20 hw) e157 f152 135 (l351_10 o1 o2) [(.int 0), (.int 6), (.ref b142), (.int 4), (.ref b142)] d2_135 d2_136 rfl
   have lt159 : o1 < T113.heap.size := (Nat.lt_of_lt_of_le P0.lt K117.1)
   have ne160 : o1 ≠ b142 := Nat.ne_of_lt (Nat.lt_of_lt_of_le lt159 sz_b142)
   have f161 := (f146.other W150 (Ne.symm ne160))
   obtain ⟨T162, h162, L162, X162, e162, N162, K162, VV162, st162⟩ := cpA X158 hx hZ hown (own_w hw 48 rfl) (w_47 hw) (w_45 hw) (w_46 hw) e158 (us := []) f161 f161 (Or.inl ⟨rfl, rfl⟩) (by decide) (by decide) (by decide) (by decide) (by decide) rfl (by first | decide | exact (by decide : 6 + 0 ≤ 6)) N150 g_b142 (g := (mkF m 140 (l351_10 o1 o2) [(.int 0), (.int 6), (.ref b142), (.int 4), (.ref b142)])) rfl (by rw [hml]; rfl) rfl (hb hby d2_140) (by decide) (W := 0) (by show 2 * 0 + _ ≤ _; exact Nat.le_of_eq rfl) (by decide)
   have V162 : Arv Z h162 b142 k143 .byte (6 : Int32) [(.int ((((p9 &&& (255 : Int32)).toUInt32 >>> ((8 : Int32) &&& 31).toUInt32).toInt32).toInt8.toInt32)), (.int ((p9 &&& (255 : Int32)).toInt8.toInt32)), (.int ((((p10 &&& (255 : Int32)).toUInt32 >>> ((8 : Int32) &&& 31).toUInt32).toInt32).toInt8.toInt32)), (.int ((p10 &&& (255 : Int32)).toInt8.toInt32)), (.int 0), (.int 0)] (.int 0) := VV162
   have O162 := Old.keep O150 K162 (allS g_b142 all0)
   have f163 := (f156.keep K162 (ninS ne160 nin0))
   obtain ⟨T164, X164, e164, st164⟩ := yg X162 hx hZ hown hby (w_34 hw) e162 f163 145 (l351_10 o1 o2) [(.ref o1)] d2_145
   have f165 := ((f149.wr W150).keep K162)
   obtain ⟨T166, h166, X166, e166, W166, st166⟩ := putF X164 hx hZ hown (host := "") (Or.inl (w_34 hw)) Via.refl e164 f163 f165 (Or.inl (w_35 hw)) (w_8 hw) (ty := .int) (by decide) rfl rfl (g := (mkF m 151 (l351_10 o1 o2) [(.int 3), (.ref o1)])) rfl rfl (hb hby d2_151)
   have N166 := Fr.snoc X166 N162 g_o1
   have Fw166 := f163.same W166
   have O166 := Old.wr O162 W166 g_o1
   have f167 := (((((P5.keep K117).keep K145).wr W150).keep K162).wr W166)
   have f168 := (f165.wr W166)
   have ne169 : o2 ≠ o1 := ne_exa f167 f168 (by decide)
   have lt170 : o2 < T113.heap.size := (Nat.lt_of_lt_of_le P4.lt K117.1)
   have ne171 : o2 ≠ b142 := Nat.ne_of_lt (Nat.lt_of_lt_of_le lt170 sz_b142)
   have f172 := (((((P4.keep K117 (ninS ne169 nin0)).keep K145 nin0).other W150 ne169).keep K162 (ninS ne171 nin0)).other W166 ne169)
   obtain ⟨cl173, Ar173, qa173, Sa173, Na173, Ha173, Ga173⟩ := id (f172)
   have hin173 := inb_of (j := (2 : Int32)) Sa173 ⟨by decide, by decide⟩
   have hat173 : cl173.slots[((2 : Int32)).toNatClampNeg]? = some (.int p7) := Has.at Ha173 hin173 rfl
   have f174 := ((Fw150.keep K162 (ninS ne160 nin0)).other W166 (Or.inr (slot_ne (Or.inl (w_19 hw)) (Or.inl (w_35 hw)) (by decide) (t := (.array .byte)) (t' := .int) (by decide) (by decide))))
   have f175 := ((f152.keep K162 (ninS ne160 nin0)).other W166 (Or.inr (slot_ne (Or.inl (w_21 hw)) (Or.inl (w_35 hw)) (by decide) (t := .int) (t' := .int) (by decide) (by decide))))
   have f176 := (V162.other W166 (Ne.symm ne160))
   have f177 := (((f147.wr W150).keep K162).wr W166)
   obtain ⟨_, T178, L178, X178, hQ178, st178⟩ := own_pb X166 hx hZ hown (y := yn6) (w_49 hw) (w_50 hw) (own_selp (mvT hZ (w_25 hw)) rfl (Cond.privateMethod_at (mvP hZ (w_51 hw) (args := #[]))) (mvT hZ (w_50 hw)) (by decide)) (w_51 hw) (own_w hw 52 rfl) (w_9 hw) e166 f168 (argsL := [(.int 2), (.int p7)]) (rest := []) (rm53 l Z a0 hw [] o1 b142 k143 (((((p9 &&& (255 : Int32)).toUInt32 >>> ((8 : Int32) &&& 31).toUInt32).toInt32).toInt8.toInt32)) (((p9 &&& (255 : Int32)).toInt8.toInt32)) (((((p10 &&& (255 : Int32)).toUInt32 >>> ((8 : Int32) &&& 31).toUInt32).toInt32).toInt8.toInt32)) (((p10 &&& (255 : Int32)).toInt8.toInt32)) p7 h166 n0 O166 g_o1 g_b142 f168 f174 f175 f176 f177) (g := (mkF m 175 (l351_2 o1 o2) [(.int p7), (.int 2), (.ref o1)])) rfl (by rw [hml]; rfl) rfl (hb hby d2_175) (lenOf pd4 rfl) (W := 0) (c1 := 3) (s1 := 13)
   obtain ⟨rfl, Nq179, K180, f181, f182⟩ := hQ178
   have N178 := Fr.app N166 Nq179
   obtain ⟨fs, hr, hrun, hended, hW, hsame⟩ := X178.leave (v := none) (fun _ => rfl)
   have KL : Keep h0 T178.heap [o1] := (((((((Keep.refl h0 [o1]).trans K117 (allS (Or.inl (List.mem_of_getElem? (i := 0) rfl)) all0)).trans K145 all0).wr W150 (Or.inl (List.mem_of_getElem? (i := 0) rfl))).trans K162 (allS (Or.inr (Nat.le_trans M113 sz_b142)) all0)).wr W166 (Or.inl (List.mem_of_getElem? (i := 0) rfl))).trans K180 (allS (Or.inr (Nat.le_trans M113 sz_b142)) all0))
   have f183 := (f168.keep K180)
   have f184 := (f174.keep K180 (ninS ne160 nin0))
   have f185 := (Fw166.keep K180 (ninS ne160 nin0))
   have f186 := (f175.keep K180 (ninS ne160 nin0))
   refine ⟨_, _, pre134 _ ?_, hrun, hended, _, _, rfl, ?_, ⟨_, rfl⟩, hW, hsame.mono (by decide) (by decide)⟩
   ·
    refine st133 _ ?_
    refine st141 _ ?_
    refine st150 _ ?_
    refine st151 _ ?_
    refine yin X151 hx hby d2_110 rfl ?_
    show Steps p.tables e below (T151.setTop (mkF m 111 (l351_10 o1 o2) [(.int 2), (.ref b142)])) _
    refine st153 _ ?_
    refine XS.imul X153.here hx rfl (hb hby d2_115) rfl ?_
    refine st154 _ ?_
    refine yin X154 hx hby d2_120 rfl ?_
    refine yil X154 hx hby d2_121 rfl ?_
    refine yad X154 hx hby d2_123 ?_
    refine st155 _ ?_
    refine XS.imul X155.here hx rfl (hb hby d2_128) rfl ?_
    refine st157 _ ?_
    refine yin X157 hx hby d2_133 rfl ?_
    refine ysu X157 hx hby d2_134 ?_
    refine st158 _ ?_
    refine XS.imul X158.here hx rfl (hb hby d2_139) rfl ?_
    refine st162 _ ?_
    refine yan X162 hx hby d2_143 rfl rfl ?_
    refine XS.dup X162.here hx rfl (hb hby d2_144) rfl rfl ?_
    refine st164 _ ?_
    refine yil X164 hx hby d2_148 rfl ?_
    refine yad X164 hx hby d2_150 ?_
    refine st166 _ ?_
    refine XS.iconst X166.here hx rfl (hb hby d2_154) ?_
    refine yis X166 hx hby d2_155 (l' := (l351_2 o1 o2)) rfl ?_
    refine yil X166 hx hby d2_157 rfl ?_
    refine yil X166 hx hby d2_159 rfl ?_
    refine yno X166 hx hby d2_161 (tlt (by decide : (0 : Int32) < (1 : Int32))).2.1 ?_
    refine yan X166 hx hby d2_164 rfl rfl ?_
    refine yin X166 hx hby d2_165 rfl ?_
    refine yil X166 hx hby d2_166 rfl ?_
    refine yad X166 hx hby d2_168 ?_
    refine yan X166 hx hby d2_169 rfl rfl ?_
    refine yin X166 hx hby d2_170 rfl ?_
    refine yil X166 hx hby d2_171 rfl ?_
    refine yad X166 hx hby d2_173 ?_
    refine X166.iaload hx (j := (2 : Int32)) (v := (.int p7)) (by rw [e166]; exact Ar173.1) (State.isArrayOf_alike hZ.alike Ar173.2.1) Ar173.2.2 hin173 hat173 (g := (mkF m 174 (l351_2 o1 o2) [(.int 2), (.ref o2), (.int 2), (.ref o1)])) rfl rfl (hb hby d2_174) _ ?_
    refine st178 _ ?_
    refine XS.iinc X178.here hx rfl (hb hby d2_178) rfl (l' := (l351_3 o1 o2)) rfl ?_
    show Steps p.tables e below (T178.setTop (mkF m 181 (l351_3 o1 o2) [])) _
    refine ygo X178 hx hby 181 157 rfl d2_181 (by decide) ?_
    refine yil X178 hx hby d2_157 rfl ?_
    refine yil X178 hx hby d2_159 rfl ?_
    refine yye X178 hx hby 161 184 rfl d2_161 (flt (by decide : ¬ ((1 : Int32) < (1 : Int32)))).2.1 (by decide) ?_
    show Steps p.tables e below (T178.setTop (mkF m 184 (l351_3 o1 o2) [])) _
    exact X178.returnOut hx hret (hb hby d2_184) hr
   ·
    show Q55 Z w1 kw1 o1 o2 o3 kc4 p5 p6 p7 kc8 p9 p10 h0 n0 _ T178.heap _
    exact (Or.inr (Or.inl ⟨b142, k143, hc46, rfl, N178, KL, (Nat.le_trans M113 sz_b142), f183, f184, f185, f186, f181, f182⟩))
 ·
  obtain ⟨T187, X187, e187, st187⟩ := yag X47 hx hZ hown hby (w_20 hw) e47 P3 40 (l351_8 o1 o2) [(.int 3)] d2_40 d2_41 rfl
  obtain ⟨_, T188, L188, X188, hQ188, st188⟩ := own_pb X187 hx hZ hown (y := yn7) (own_w hw 65 rfl) (own_w hw 66 rfl) (own_selp (mvT hZ (w_25 hw)) rfl (Cond.privateMethod_at (mvP hZ (own_w hw 67 rfl) (args := #[]))) (mvT hZ (own_w hw 66 rfl)) (by decide)) (own_w hw 67 rfl) (own_w hw 68 rfl) (w_9 hw) e187 P0 (argsL := [(.int 3)]) (rest := []) (rm25 l Z a0 hw w1 kw1 G [] o1 o3 kc8 p9 p10 h0 n0 O0 g_o1 g_o3 P0 P1 P2 P3 P6 P7) (g := (mkF m 50 (l351_8 o1 o2) [(.int 3), (.ref o1)])) rfl (by rw [hml]; rfl) rfl (hb hby d2_50) (lenOf pd5 rfl) (W := 0) (c1 := 2) (s1 := 9)
  obtain ⟨b189, k190, rfl, Nq191, K192, sz_b189, f193, f194, f195, f196, f197, f198⟩ := hQ188
  have N188 := Fr.app N47 Nq191
  have g_b189 : n0 ≤ b189 := Nat.le_trans (own_oz O0) sz_b189
  have M188 : h0.size ≤ T188.heap.size := Nat.le_trans (Nat.le_refl _) K192.1
  have O188 := Old.keep O0 K192 (allS g_o1 all0)
  obtain ⟨T199, X199, e199, st199⟩ := yag X188 hx hZ hown hby (w_34 hw) rfl f195 53 (l351_8 o1 o2) [] d2_53 d2_54 rfl
  obtain ⟨T200, X200, e200, st200⟩ := yag X199 hx hZ hown hby (w_20 hw) e199 f196 60 (l351_8 o1 o2) [(.int 3)] d2_60 d2_61 rfl
  obtain ⟨T201, X201, e201, st201⟩ := yag X200 hx hZ hown hby (w_18 hw) e200 f194 69 (l351_11 o1 o2) [(.int 9)] d2_69 d2_70 rfl
  obtain ⟨cl202, Ar202, qa202, Sa202, Na202, Ha202, Ga202⟩ := id (f197)
  obtain ⟨T203, X203, e203, st203⟩ := yag X201 hx hZ hown hby (w_18 hw) e201 f194 78 (l351_11 o1 o2) [(.ref o1)] d2_78 d2_79 rfl
  obtain ⟨T204, X204, e204, st204⟩ := yag X203 hx hZ hown hby (w_18 hw) e203 f194 84 (l351_11 o1 o2) [(.int 9), (.ref b189), (.ref o1)] d2_84 d2_85 rfl
  obtain ⟨cl205, Ar205, qa205, Sa205, Na205, Ha205, Ga205⟩ := id (f197)
  obtain ⟨T206, X206, e206, st206⟩ := yag X204 hx hZ hown hby (w_18 hw) e204 f194 89 (l351_11 o1 o2) [(.int 6), (.int 9), (.ref b189), (.ref o1)] d2_89 d2_90 rfl
  obtain ⟨cl207, Ar207, qa207, Sa207, Na207, Ha207, Ga207⟩ := id (f197)
  obtain ⟨_, T208, L208, X208, hQ208, st208⟩ := own_cs X206 hx hZ hown (y := yn3) (w_30 hw) (w_31 hw) (w_33 hw) (w_32 hw) e206 (argsL := [(.int 9), (.int 9)]) (rest := [(.ref b189), (.ref o1)]) (rm4 l Z a0 hw [] ((9 : Int32)) ((9 : Int32)) T188.heap n0 O188 ) (g := (mkF m 97 (l351_11 o1 o2) [(.int 9), (.int 9), (.ref b189), (.ref o1)])) rfl (by rw [hml]; rfl) rfl (hb hby d2_97) (lenOf pd0 rfl) (W := 2) (c1 := 2) (s1 := 9)
  have pre209 : Go p e below T206 (mkF m 97 (l351_11 o1 o2) [(.int 9), (.int 9), (.ref b189), (.ref o1)]) E0 := fun t k => by
   refine pre47 _ ?_
   refine yil X47 hx hby d2_38 rfl ?_
   refine st187 _ ?_
   refine yno X187 hx hby d2_44 (tlt (by decide : (1 : Int32) < (3 : Int32))).2.2.2 ?_
   refine yan X187 hx hby d2_47 rfl rfl ?_
   refine yil X187 hx hby d2_48 rfl ?_
   refine st188 _ ?_
   refine st199 _ ?_
   refine yil X199 hx hby d2_57 rfl ?_
   refine yad X199 hx hby d2_59 ?_
   refine st200 _ ?_
   refine XS.imul X200.here hx rfl (hb hby d2_64) rfl ?_
   refine yis X200 hx hby d2_65 (l' := (l351_11 o1 o2)) rfl ?_
   refine yil X200 hx hby d2_67 rfl ?_
   refine st201 _ ?_
   refine X201.arraylength hx (by rw [e201]; exact Ar202.1) (State.isArrayOf_alike hZ.alike Ar202.2.1) (g := (mkF m 73 (l351_11 o1 o2) [(.ref b189), (.int 9)])) rfl rfl (hb hby d2_73) _ ?_
   rw [len_of Sa202 Na202]
   refine yno X201 hx hby d2_74 (tlt (by decide : (6 : Int32) < (9 : Int32))).2.2.2 ?_
   refine yan X201 hx hby d2_77 rfl rfl ?_
   refine st203 _ ?_
   refine yil X203 hx hby d2_82 rfl ?_
   refine st204 _ ?_
   refine X204.arraylength hx (by rw [e204]; exact Ar205.1) (State.isArrayOf_alike hZ.alike Ar205.2.1) (g := (mkF m 88 (l351_11 o1 o2) [(.ref b189), (.int 9), (.ref b189), (.ref o1)])) rfl rfl (hb hby d2_88) _ ?_
   rw [len_of Sa205 Na205]
   refine st206 _ ?_
   refine X206.arraylength hx (by rw [e206]; exact Ar207.1) (State.isArrayOf_alike hZ.alike Ar207.2.1) (g := (mkF m 93 (l351_11 o1 o2) [(.ref b189), (.int 6), (.int 9), (.ref b189), (.ref o1)])) rfl rfl (hb hby d2_93) _ ?_
   rw [len_of Sa207 Na207]
   refine XS.iconst X206.here hx rfl (hb hby d2_94) ?_
   refine XS.idiv X206.here hx rfl (hb hby d2_95) rfl (by decide : ¬ ((2 : Int32) = (0 : Int32))) ?_
   refine yad X206 hx hby d2_96 ?_
   exact k
  rcases hQ208 with ⟨hc210, rfl, Nq211, e212⟩ | ⟨hc213, rfl, Nq214, e215⟩
  ·
   exact absurd hc210 (by decide : ¬ ((9 : Int32) < (9 : Int32)))
  ·
   have N208 := Fr.app N188 Nq214
   obtain ⟨_, T216, L216, X216, hQ216, st216⟩ := own_cs X208 hx hZ hown (y := yn5) (own_w hw 36 rfl) (w_37 hw) (own_w hw 39 rfl) (w_38 hw) e215 (argsL := [(.ref b189), (.int 9)]) (rest := [(.ref o1)]) (rm26 l Z a0 hw [] b189 k190 (((((((p9 &&& (255 : Int32)).toUInt32 >>> ((8 : Int32) &&& 31).toUInt32).toInt32).toUInt32 >>> ((8 : Int32) &&& 31).toUInt32).toInt32).toInt8.toInt32)) (((((p9 &&& (255 : Int32)).toUInt32 >>> ((8 : Int32) &&& 31).toUInt32).toInt32).toInt8.toInt32)) (((p9 &&& (255 : Int32)).toInt8.toInt32)) (((((((p10 &&& (255 : Int32)).toUInt32 >>> ((8 : Int32) &&& 31).toUInt32).toInt32).toUInt32 >>> ((8 : Int32) &&& 31).toUInt32).toInt32).toInt8.toInt32)) (((((p10 &&& (255 : Int32)).toUInt32 >>> ((8 : Int32) &&& 31).toUInt32).toInt32).toInt8.toInt32)) (((p10 &&& (255 : Int32)).toInt8.toInt32)) T188.heap n0 O188 g_b189 f197) (g := (mkF m 100 (l351_11 o1 o2) [(.int 9), (.ref b189), (.ref o1)])) rfl (by rw [hml]; rfl) rfl (hb hby d2_100) (lenOf pd3 rfl) (W := 1) (c1 := 3) (s1 := 18)
   obtain ⟨b217, k218, rfl, Nq219, K220, sz_b217, f221, f222⟩ := hQ216
   have N216 := Fr.app N208 Nq219
   have g_b217 : n0 ≤ b217 := Nat.le_trans (own_oz O188) sz_b217
   have O216 := Old.keep O188 K220 all0
   have f223 := (f194.keep K220 nin0)
   have f224 := (f193.keep K220)
   obtain ⟨T225, h225, X225, e225, W225, st225⟩ := putF X216 hx hZ hown (host := "") (Or.inl (w_18 hw)) Via.refl rfl f223 f224 (Or.inl (w_19 hw)) (w_8 hw) (ty := (.array .byte)) (by decide) rfl rfl (g := (mkF m 103 (l351_11 o1 o2) [(.ref b217), (.ref o1)])) rfl rfl (hb hby d2_103)
   have N225 := Fr.snoc X225 N216 g_o1
   have Fw225 := f223.same W225
   have O225 := Old.wr O216 W225 g_o1
   obtain ⟨T226, X226, e226, st226⟩ := yag X225 hx hZ hown hby (w_18 hw) e225 Fw225 106 (l351_11 o1 o2) [] d2_106 d2_107 rfl
   have f227 := ((f196.keep K220 nin0).other W225 (Or.inr (slot_ne (Or.inl (w_21 hw)) (Or.inl (w_19 hw)) (by decide) (t := .int) (t' := (.array .byte)) (by decide) (by decide))))
   obtain ⟨T228, X228, e228, st228⟩ := yag X226 hx hZ hown hby (w_20 hw) e226 f227 111 (l351_11 o1 o2) [(.int 2), (.ref b217)] d2_111 d2_112 rfl
   obtain ⟨T229, X229, e229, st229⟩ := yag X228 hx hZ hown hby (w_18 hw) e228 Fw225 116 (l351_11 o1 o2) [(.int 6), (.ref b217)] d2_116 d2_117 rfl
   obtain ⟨T230, X230, e230, st230⟩ := yag X229 hx hZ hown hby (w_20 hw) e229 f227 124 (l351_11 o1 o2) [(.int 3), (.ref b217), (.int 6), (.ref b217)] d2_124 d2_125 rfl
   have f231 := ((f195.keep K220 nin0).other W225 (Or.inr (slot_ne (Or.inl (w_35 hw)) (Or.inl (w_19 hw)) (by decide) (t := .int) (t' := (.array .byte)) (by decide) (by decide))))
   obtain ⟨T232, X232, e232, st232⟩ := yag X230 hx hZ hown hby (w_34 hw) e230 f231 129 (l351_11 o1 o2) [(.int 9), (.ref b217), (.int 6), (.ref b217)] d2_129 d2_130 rfl
   obtain ⟨T233, X233, e233, st233⟩ := yag X232 hx hZ hown hby (w_20 hw) e232 f227 135 (l351_11 o1 o2) [(.int 0), (.int 9), (.ref b217), (.int 6), (.ref b217)] d2_135 d2_136 rfl
   have lt234 : o1 < T188.heap.size := (Nat.lt_of_lt_of_le P0.lt K192.1)
   have ne235 : o1 ≠ b217 := Nat.ne_of_lt (Nat.lt_of_lt_of_le lt234 sz_b217)
   have f236 := (f221.other W225 (Ne.symm ne235))
   obtain ⟨T237, h237, L237, X237, e237, N237, K237, VV237, st237⟩ := cpA X233 hx hZ hown (own_w hw 48 rfl) (w_47 hw) (w_45 hw) (w_46 hw) e233 (us := []) f236 f236 (Or.inl ⟨rfl, rfl⟩) (by decide) (by decide) (by decide) (by decide) (by decide) rfl (by first | decide | exact (by decide : 9 + 0 ≤ 9)) N225 g_b217 (g := (mkF m 140 (l351_11 o1 o2) [(.int 0), (.int 9), (.ref b217), (.int 6), (.ref b217)])) rfl (by rw [hml]; rfl) rfl (hb hby d2_140) (by decide) (W := 0) (by show 2 * 0 + _ ≤ _; exact Nat.le_of_eq rfl) (by decide)
   have V237 : Arv Z h237 b217 k218 .byte (9 : Int32) [(.int ((((((p9 &&& (255 : Int32)).toUInt32 >>> ((8 : Int32) &&& 31).toUInt32).toInt32).toUInt32 >>> ((8 : Int32) &&& 31).toUInt32).toInt32).toInt8.toInt32)), (.int ((((p9 &&& (255 : Int32)).toUInt32 >>> ((8 : Int32) &&& 31).toUInt32).toInt32).toInt8.toInt32)), (.int ((p9 &&& (255 : Int32)).toInt8.toInt32)), (.int ((((((p10 &&& (255 : Int32)).toUInt32 >>> ((8 : Int32) &&& 31).toUInt32).toInt32).toUInt32 >>> ((8 : Int32) &&& 31).toUInt32).toInt32).toInt8.toInt32)), (.int ((((p10 &&& (255 : Int32)).toUInt32 >>> ((8 : Int32) &&& 31).toUInt32).toInt32).toInt8.toInt32)), (.int ((p10 &&& (255 : Int32)).toInt8.toInt32)), (.int 0), (.int 0), (.int 0)] (.int 0) := VV237
   have O237 := Old.keep O225 K237 (allS g_b217 all0)
   have f238 := (f231.keep K237 (ninS ne235 nin0))
   obtain ⟨T239, X239, e239, st239⟩ := yg X237 hx hZ hown hby (w_34 hw) e237 f238 145 (l351_11 o1 o2) [(.ref o1)] d2_145
   have f240 := ((f224.wr W225).keep K237)
   obtain ⟨T241, h241, X241, e241, W241, st241⟩ := putF X239 hx hZ hown (host := "") (Or.inl (w_34 hw)) Via.refl e239 f238 f240 (Or.inl (w_35 hw)) (w_8 hw) (ty := .int) (by decide) rfl rfl (g := (mkF m 151 (l351_11 o1 o2) [(.int 3), (.ref o1)])) rfl rfl (hb hby d2_151)
   have N241 := Fr.snoc X241 N237 g_o1
   have Fw241 := f238.same W241
   have O241 := Old.wr O237 W241 g_o1
   have f242 := (((((P5.keep K192).keep K220).wr W225).keep K237).wr W241)
   have f243 := (f240.wr W241)
   have ne244 : o2 ≠ o1 := ne_exa f242 f243 (by decide)
   have lt245 : o2 < T188.heap.size := (Nat.lt_of_lt_of_le P4.lt K192.1)
   have ne246 : o2 ≠ b217 := Nat.ne_of_lt (Nat.lt_of_lt_of_le lt245 sz_b217)
   have f247 := (((((P4.keep K192 (ninS ne244 nin0)).keep K220 nin0).other W225 ne244).keep K237 (ninS ne246 nin0)).other W241 ne244)
   obtain ⟨cl248, Ar248, qa248, Sa248, Na248, Ha248, Ga248⟩ := id (f247)
   have hin248 := inb_of (j := (2 : Int32)) Sa248 ⟨by decide, by decide⟩
   have hat248 : cl248.slots[((2 : Int32)).toNatClampNeg]? = some (.int p7) := Has.at Ha248 hin248 rfl
   have f249 := ((Fw225.keep K237 (ninS ne235 nin0)).other W241 (Or.inr (slot_ne (Or.inl (w_19 hw)) (Or.inl (w_35 hw)) (by decide) (t := (.array .byte)) (t' := .int) (by decide) (by decide))))
   have f250 := ((f227.keep K237 (ninS ne235 nin0)).other W241 (Or.inr (slot_ne (Or.inl (w_21 hw)) (Or.inl (w_35 hw)) (by decide) (t := .int) (t' := .int) (by decide) (by decide))))
   have f251 := (V237.other W241 (Ne.symm ne235))
   have f252 := (((f222.wr W225).keep K237).wr W241)
   obtain ⟨_, T253, L253, X253, hQ253, st253⟩ := own_pb X241 hx hZ hown (y := yn6) (w_49 hw) (w_50 hw) (own_selp (mvT hZ (w_25 hw)) rfl (Cond.privateMethod_at (mvP hZ (w_51 hw) (args := #[]))) (mvT hZ (w_50 hw)) (by decide)) (w_51 hw) (own_w hw 52 rfl) (w_9 hw) e241 f243 (argsL := [(.int 2), (.int p7)]) (rest := []) (rm54 l Z a0 hw [] o1 b217 k218 (((((((p9 &&& (255 : Int32)).toUInt32 >>> ((8 : Int32) &&& 31).toUInt32).toInt32).toUInt32 >>> ((8 : Int32) &&& 31).toUInt32).toInt32).toInt8.toInt32)) (((((p9 &&& (255 : Int32)).toUInt32 >>> ((8 : Int32) &&& 31).toUInt32).toInt32).toInt8.toInt32)) (((p9 &&& (255 : Int32)).toInt8.toInt32)) (((((((p10 &&& (255 : Int32)).toUInt32 >>> ((8 : Int32) &&& 31).toUInt32).toInt32).toUInt32 >>> ((8 : Int32) &&& 31).toUInt32).toInt32).toInt8.toInt32)) (((((p10 &&& (255 : Int32)).toUInt32 >>> ((8 : Int32) &&& 31).toUInt32).toInt32).toInt8.toInt32)) (((p10 &&& (255 : Int32)).toInt8.toInt32)) p7 h241 n0 O241 g_o1 g_b217 f243 f249 f250 f251 f252) (g := (mkF m 175 (l351_4 o1 o2) [(.int p7), (.int 2), (.ref o1)])) rfl (by rw [hml]; rfl) rfl (hb hby d2_175) (lenOf pd4 rfl) (W := 0) (c1 := 3) (s1 := 18)
   obtain ⟨rfl, Nq254, K255, f256, f257⟩ := hQ253
   have N253 := Fr.app N241 Nq254
   obtain ⟨fs, hr, hrun, hended, hW, hsame⟩ := X253.leave (v := none) (fun _ => rfl)
   have KL : Keep h0 T253.heap [o1] := (((((((Keep.refl h0 [o1]).trans K192 (allS (Or.inl (List.mem_of_getElem? (i := 0) rfl)) all0)).trans K220 all0).wr W225 (Or.inl (List.mem_of_getElem? (i := 0) rfl))).trans K237 (allS (Or.inr (Nat.le_trans M188 sz_b217)) all0)).wr W241 (Or.inl (List.mem_of_getElem? (i := 0) rfl))).trans K255 (allS (Or.inr (Nat.le_trans M188 sz_b217)) all0))
   have f258 := (f243.keep K255)
   have f259 := (f249.keep K255 (ninS ne235 nin0))
   have f260 := (Fw241.keep K255 (ninS ne235 nin0))
   have f261 := (f250.keep K255 (ninS ne235 nin0))
   refine ⟨_, _, pre209 _ ?_, hrun, hended, _, _, rfl, ?_, ⟨_, rfl⟩, hW, hsame.mono (by decide) (by decide)⟩
   ·
    refine st208 _ ?_
    refine st216 _ ?_
    refine st225 _ ?_
    refine st226 _ ?_
    refine yin X226 hx hby d2_110 rfl ?_
    show Steps p.tables e below (T226.setTop (mkF m 111 (l351_11 o1 o2) [(.int 2), (.ref b217)])) _
    refine st228 _ ?_
    refine XS.imul X228.here hx rfl (hb hby d2_115) rfl ?_
    refine st229 _ ?_
    refine yin X229 hx hby d2_120 rfl ?_
    refine yil X229 hx hby d2_121 rfl ?_
    refine yad X229 hx hby d2_123 ?_
    refine st230 _ ?_
    refine XS.imul X230.here hx rfl (hb hby d2_128) rfl ?_
    refine st232 _ ?_
    refine yin X232 hx hby d2_133 rfl ?_
    refine ysu X232 hx hby d2_134 ?_
    refine st233 _ ?_
    refine XS.imul X233.here hx rfl (hb hby d2_139) rfl ?_
    refine st237 _ ?_
    refine yan X237 hx hby d2_143 rfl rfl ?_
    refine XS.dup X237.here hx rfl (hb hby d2_144) rfl rfl ?_
    refine st239 _ ?_
    refine yil X239 hx hby d2_148 rfl ?_
    refine yad X239 hx hby d2_150 ?_
    refine st241 _ ?_
    refine XS.iconst X241.here hx rfl (hb hby d2_154) ?_
    refine yis X241 hx hby d2_155 (l' := (l351_4 o1 o2)) rfl ?_
    refine yil X241 hx hby d2_157 rfl ?_
    refine yil X241 hx hby d2_159 rfl ?_
    refine yno X241 hx hby d2_161 (tlt (by decide : (0 : Int32) < (1 : Int32))).2.1 ?_
    refine yan X241 hx hby d2_164 rfl rfl ?_
    refine yin X241 hx hby d2_165 rfl ?_
    refine yil X241 hx hby d2_166 rfl ?_
    refine yad X241 hx hby d2_168 ?_
    refine yan X241 hx hby d2_169 rfl rfl ?_
    refine yin X241 hx hby d2_170 rfl ?_
    refine yil X241 hx hby d2_171 rfl ?_
    refine yad X241 hx hby d2_173 ?_
    refine X241.iaload hx (j := (2 : Int32)) (v := (.int p7)) (by rw [e241]; exact Ar248.1) (State.isArrayOf_alike hZ.alike Ar248.2.1) Ar248.2.2 hin248 hat248 (g := (mkF m 174 (l351_4 o1 o2) [(.int 2), (.ref o2), (.int 2), (.ref o1)])) rfl rfl (hb hby d2_174) _ ?_
    refine st253 _ ?_
    refine XS.iinc X253.here hx rfl (hb hby d2_178) rfl (l' := (l351_5 o1 o2)) rfl ?_
    show Steps p.tables e below (T253.setTop (mkF m 181 (l351_5 o1 o2) [])) _
    refine ygo X253 hx hby 181 157 rfl d2_181 (by decide) ?_
    refine yil X253 hx hby d2_157 rfl ?_
    refine yil X253 hx hby d2_159 rfl ?_
    refine yye X253 hx hby 161 184 rfl d2_161 (flt (by decide : ¬ ((1 : Int32) < (1 : Int32)))).2.1 (by decide) ?_
    show Steps p.tables e below (T253.setTop (mkF m 184 (l351_5 o1 o2) [])) _
    exact X253.returnOut hx hret (hb hby d2_184) hr
   ·
    show Q55 Z w1 kw1 o1 o2 o3 kc4 p5 p6 p7 kc8 p9 p10 h0 n0 _ T253.heap _
    exact (Or.inr (Or.inr ⟨b217, k218, rfl, N253, KL, (Nat.le_trans M188 sz_b217), f258, f259, f260, f261, f256, f257⟩))
def l352_0 (o1 o2 : Addr) : Array Slot := #[.val (.ref o1), .val (.int 2), .val (.ref o2), .val (.int 2), .val (.int 1), .val (.int 2), .val (.int 6), .val (.int 0)]
def l352_1 (o1 o2 : Addr) : Array Slot := #[.val (.ref o1), .val (.int 2), .val (.ref o2), .val (.int 2), .val (.int 1), .val (.int 2), .val (.int 6), .val (.int 1)]
def l352_2 (o1 o2 : Addr) : Array Slot := #[.val (.ref o1), .val (.int 2), .val (.ref o2), .val (.int 2), .val (.int 1), .val (.int 3), .val (.int 9), .val (.int 0)]
def l352_3 (o1 o2 : Addr) : Array Slot := #[.val (.ref o1), .val (.int 2), .val (.ref o2), .val (.int 2), .val (.int 1), .val (.int 3), .val (.int 9), .val (.int 1)]
def l352_4 (o1 o2 : Addr) : Array Slot := #[.val (.ref o1), .val (.int 2), .val (.ref o2), .val (.int 2), .val (.int 1), .val (.int 2), .val (.int 3), .unset]
def l352_5 (o1 o2 : Addr) : Array Slot := #[.val (.ref o1), .val (.int 2), .val (.ref o2), .val (.int 2), .val (.int 1), .val (.int 3), .val (.int 3), .unset]
def l352_6 (o1 o2 : Addr) : Array Slot := #[.val (.ref o1), .val (.int 2), .val (.ref o2), .val (.int 2), .val (.int 1), .val (.int 2), .val (.int 2), .unset]
def l352_7 (o1 o2 : Addr) : Array Slot := #[.val (.ref o1), .val (.int 2), .val (.ref o2), .val (.int 2), .val (.int 1), .val (.int 2), .val (.int 6), .unset]
def l352_8 (o1 o2 : Addr) : Array Slot := #[.val (.ref o1), .val (.int 2), .val (.ref o2), .val (.int 2), .val (.int 1), .val (.int 3), .val (.int 9), .unset]
theorem ef56 (m : MethodId) (x0 : Addr) (x1 : Int32) (x2 : Addr) (x3 x4 : Int32) : entryFrame m #[(.ref x0), (.int x1), (.ref x2), (.int x3), (.int x4)] 8 = mkF m 0 #[.val (.ref x0), .val (.int x1), .val (.ref x2), .val (.int x3), .val (.int x4), .unset, .unset, .unset] [] := by first | (simp [entryFrame, mkF, argsToLocals, Value.category]; done) | rfl
def Q56 (Z : State) (w1 : Addr) (kw1 : ClassId) (o1 o2 o3 : Addr) (kc4 : ClassId) (p5 p6 p7 : Int32) (kc8 : ClassId) (p9 p10 : Int32) (p11 p12 : Int32) (h0 : Heap) (n0 : Nat) (v : Option Value) (h : Heap) (L : List Loc) : Prop :=
  (∃ b65 : Addr, ∃ k66 : ClassId, (p7 < (65536 : Int32)) ∧ v = none ∧ Fr n0 L ∧ Keep h0 h [o1] ∧ h0.size ≤ b65 ∧ (Exa Z h o1 "com/example/driftless/driftless/CodePoints") ∧ (Fld Z h o1 "com/example/driftless/driftless/CodePoints" "bytes" "[B" (.ref b65)) ∧ (Fld Z h o1 "com/example/driftless/driftless/CodePoints" "length" "I" (.int 3)) ∧ (Fld Z h o1 "com/example/driftless/driftless/CodePoints" "width" "I" (.int 2)) ∧ (Arv Z h b65 k66 .byte (6 : Int32) [(.int p9), (.int p10), (.int p11), (.int p12), (.int (((p7.toUInt32 >>> ((8 : Int32) &&& 31).toUInt32).toInt32).toInt8.toInt32)), (.int (p7.toInt8.toInt32))] (.int 0)) ∧ (Exa Z h b65 "[B"))
  ∨ (∃ b140 : Addr, ∃ k141 : ClassId, v = none ∧ Fr n0 L ∧ Keep h0 h [o1] ∧ h0.size ≤ b140 ∧ (Exa Z h o1 "com/example/driftless/driftless/CodePoints") ∧ (Fld Z h o1 "com/example/driftless/driftless/CodePoints" "bytes" "[B" (.ref b140)) ∧ (Fld Z h o1 "com/example/driftless/driftless/CodePoints" "length" "I" (.int 3)) ∧ (Fld Z h o1 "com/example/driftless/driftless/CodePoints" "width" "I" (.int 3)) ∧ (Arv Z h b140 k141 .byte (9 : Int32) [(.int ((((((((p9 &&& (255 : Int32)) <<< ((8 : Int32) &&& 31)) ||| (p10 &&& (255 : Int32))).toUInt32 >>> ((8 : Int32) &&& 31).toUInt32).toInt32).toUInt32 >>> ((8 : Int32) &&& 31).toUInt32).toInt32).toInt8.toInt32)), (.int ((((((p9 &&& (255 : Int32)) <<< ((8 : Int32) &&& 31)) ||| (p10 &&& (255 : Int32))).toUInt32 >>> ((8 : Int32) &&& 31).toUInt32).toInt32).toInt8.toInt32)), (.int ((((p9 &&& (255 : Int32)) <<< ((8 : Int32) &&& 31)) ||| (p10 &&& (255 : Int32))).toInt8.toInt32)), (.int ((((((((p11 &&& (255 : Int32)) <<< ((8 : Int32) &&& 31)) ||| (p12 &&& (255 : Int32))).toUInt32 >>> ((8 : Int32) &&& 31).toUInt32).toInt32).toUInt32 >>> ((8 : Int32) &&& 31).toUInt32).toInt32).toInt8.toInt32)), (.int ((((((p11 &&& (255 : Int32)) <<< ((8 : Int32) &&& 31)) ||| (p12 &&& (255 : Int32))).toUInt32 >>> ((8 : Int32) &&& 31).toUInt32).toInt32).toInt8.toInt32)), (.int ((((p11 &&& (255 : Int32)) <<< ((8 : Int32) &&& 31)) ||| (p12 &&& (255 : Int32))).toInt8.toInt32)), (.int (((((p7.toUInt32 >>> ((8 : Int32) &&& 31).toUInt32).toInt32).toUInt32 >>> ((8 : Int32) &&& 31).toUInt32).toInt32).toInt8.toInt32)), (.int (((p7.toUInt32 >>> ((8 : Int32) &&& 31).toUInt32).toInt32).toInt8.toInt32)), (.int (p7.toInt8.toInt32))] (.int 0)) ∧ (Exa Z h b140 "[B"))
set_option maxRecDepth 65536 in
set_option maxHeartbeats 40000000 in
theorem rm56 (l : Launch) (Z : State) (a0 : Array Value) (hw : HW a0 Z) (w1 : Addr) (kw1 : ClassId) (G : GW Z w1 kw1) (ws : List Jvm.Cond) (o1 o2 o3 : Addr) (kc4 : ClassId) (p5 p6 p7 : Int32) (kc8 : ClassId) (p9 p10 : Int32) (p11 p12 : Int32) (h0 : Heap) (n0 : Nat) (O0 : Old Z n0 h0) (g_o1 : n0 ≤ o1) (g_o2 : n0 ≤ o2) (g_o3 : n0 ≤ o3) (P0 : Exa Z h0 o1 "com/example/driftless/driftless/CodePoints") (P1 : Fld Z h0 o1 "com/example/driftless/driftless/CodePoints" "bytes" "[B" (.ref o3)) (P2 : Fld Z h0 o1 "com/example/driftless/driftless/CodePoints" "length" "I" (.int 2)) (P3 : Fld Z h0 o1 "com/example/driftless/driftless/CodePoints" "width" "I" (.int 2)) (P4 : Arv Z h0 o2 kc4 .int (3 : Int32) [(.int p5), (.int p6), (.int p7)] (.int 0)) (P5 : Exa Z h0 o2 "[I") (P6 : Arv Z h0 o3 kc8 .byte (4 : Int32) [(.int p9), (.int p10), (.int p11), (.int p12)] (.int 0)) (P7 : Exa Z h0 o3 "[B") :
    MF l yn8 prog_6_method_5_code 8 none ws ({ frames := 3, cells := 3, slots := 18, locals := 40 } : Room) #[(.ref o1), (.int 2), (.ref o2), (.int 2), (.int 1)] Z h0 (Q56 Z w1 kw1 o1 o2 o3 kc4 p5 p6 p7 kc8 p9 p10 p11 p12 h0 n0) := by
 obtain ⟨S_w1, E_w1, A_w1⟩ := id G
 refine MetFree.of_bodySF (plainFor_of_name pn1) hisR ?_
 intro p e s m args below meth c s₁ Bd hml hP hK
 obtain ⟨rfl, hZ, hh⟩ := hP
 obtain ⟨hx, hby, hown, hret, hlk, X0, e0, N0⟩ := own_bd Bd hh n0
 have pre0 := own_ct s₁ (p := p) (e := e) (below := below) (ef56 m o1 (2 : Int32) o2 (2 : Int32) (1 : Int32))
 revert pre0
 generalize s₁.setTop (entryFrame m #[(.ref o1), (.int 2), (.ref o2), (.int 2), (.int 1)] 8) = E0
 intro pre0
 have J0 : (∃ (T : State) (locs : List Loc), Stand p l e ({ frames := 3, cells := 3, slots := 18, locals := 40 } : Room) s m #[(.ref o1), (.int 2), (.ref o2), (.int 2), (.int 1)] below meth c T locs 0 0 ∧ T.heap = h0 ∧ Fr n0 locs ∧ (Go p e below T (mkF m 38 (l352_4 o1 o2) []) E0) ∧ (p7 < (65536 : Int32))) ∨ (∃ (T : State) (locs : List Loc), Stand p l e ({ frames := 3, cells := 3, slots := 18, locals := 40 } : Room) s m #[(.ref o1), (.int 2), (.ref o2), (.int 2), (.int 1)] below meth c T locs 0 0 ∧ T.heap = h0 ∧ Fr n0 locs ∧ (Go p e below T (mkF m 38 (l352_5 o1 o2) []) E0)) := by
  obtain ⟨T1, X1, e1, st1⟩ := yag X0 hx hZ hown hby (w_20 hw) e0 P3 0 #[.val (.ref o1), .val (.int 2), .val (.ref o2), .val (.int 2), .val (.int 1), .unset, .unset, .unset] [] d2_0 d2_1 rfl
  obtain ⟨cl2, Ar2, qa2, Sa2, Na2, Ha2, Ga2⟩ := id (P4)
  have hin2 := inb_of (j := (2 : Int32)) Sa2 ⟨by decide, by decide⟩
  have hat2 : cl2.slots[((2 : Int32)).toNatClampNeg]? = some (.int p7) := Has.at Ha2 hin2 rfl
  obtain ⟨_, T3, L3, X3, hQ3, st3⟩ := own_cs X1 hx hZ hown (y := yn2) (own_w hw 27 rfl) (own_w hw 28 rfl) (own_w hw 29 rfl) (w_9 hw) e1 (argsL := [(.int p7)]) (rest := [(.int 2)]) (rm3 l Z a0 hw [] p7 h0 n0 O0 ) (g := (mkF m 24 (l352_6 o1 o2) [(.int p7), (.int 2)])) rfl (by rw [hml]; rfl) rfl (hb hby d2_24) (lenOf pd2 rfl) (W := 1) (c1 := 0) (s1 := 0)
  have pre4 : Go p e below T1 (mkF m 24 (l352_6 o1 o2) [(.int p7), (.int 2)]) E0 := fun t k => by
   refine pre0 _ ?_
   refine st1 _ ?_
   refine yis X1 hx hby d2_4 (l' := #[.val (.ref o1), .val (.int 2), .val (.ref o2), .val (.int 2), .val (.int 1), .val (.int 2), .unset, .unset]) rfl ?_
   refine yin X1 hx hby d2_6 rfl ?_
   refine yis X1 hx hby d2_7 (l' := (l352_6 o1 o2)) rfl ?_
   refine yil X1 hx hby d2_9 rfl ?_
   refine yin X1 hx hby d2_11 rfl ?_
   refine yil X1 hx hby d2_12 rfl ?_
   refine yad X1 hx hby d2_14 ?_
   refine yno X1 hx hby d2_15 (tlt (by decide : (2 : Int32) < (3 : Int32))).2.1 ?_
   refine yil X1 hx hby d2_18 rfl ?_
   refine yan X1 hx hby d2_20 rfl rfl ?_
   refine yil X1 hx hby d2_21 rfl ?_
   refine X1.iaload hx (j := (2 : Int32)) (v := (.int p7)) (by rw [e1]; exact Ar2.1) (State.isArrayOf_alike hZ.alike Ar2.2.1) Ar2.2.2 hin2 hat2 (g := (mkF m 23 (l352_6 o1 o2) [(.int 2), (.ref o2), (.int 2)])) rfl rfl (hb hby d2_23) _ ?_
   exact k
  rcases hQ3 with ⟨hc5, rfl, Nq6, e7⟩ | ⟨hc8, hc9, rfl, Nq10, e11⟩ | ⟨hc12, hc13, rfl, Nq14, e15⟩
  ·
   have N3 := Fr.app N0 Nq6
   obtain ⟨_, T16, L16, X16, hQ16, st16⟩ := own_cs X3 hx hZ hown (y := yn3) (w_30 hw) (w_31 hw) (w_33 hw) (w_32 hw) e7 (argsL := [(.int 2), (.int 1)]) (rest := []) (rm4 l Z a0 hw [] ((2 : Int32)) ((1 : Int32)) h0 n0 O0 ) (g := (mkF m 27 (l352_6 o1 o2) [(.int 1), (.int 2)])) rfl (by rw [hml]; rfl) rfl (hb hby d2_27) (lenOf pd0 rfl) (W := 0) (c1 := 0) (s1 := 0)
   have pre17 : Go p e below T3 (mkF m 27 (l352_6 o1 o2) [(.int 1), (.int 2)]) E0 := fun t k => by
    refine pre4 _ ?_
    refine st3 _ ?_
    exact k
   rcases hQ16 with ⟨hc18, rfl, Nq19, e20⟩ | ⟨hc21, rfl, Nq22, e23⟩
   ·
    exact absurd hc18 (by decide : ¬ ((2 : Int32) < (1 : Int32)))
   ·
    have N16 := Fr.app N3 Nq22
    have pre24 : Go p e below T16 (mkF m 38 (l352_4 o1 o2) []) E0 := fun t k => by
     refine pre17 _ ?_
     refine st16 _ ?_
     refine yis X16 hx hby d2_30 (l' := (l352_6 o1 o2)) rfl ?_
     refine XS.iinc X16.here hx rfl (hb hby d2_32) rfl (l' := (l352_4 o1 o2)) rfl ?_
     refine ygo X16 hx hby 35 9 rfl d2_35 (by decide) ?_
     refine yil X16 hx hby d2_9 rfl ?_
     refine yin X16 hx hby d2_11 rfl ?_
     refine yil X16 hx hby d2_12 rfl ?_
     refine yad X16 hx hby d2_14 ?_
     refine yye X16 hx hby 15 38 rfl d2_15 (flt (by decide : ¬ ((3 : Int32) < (3 : Int32)))).2.1 (by decide) ?_
     exact k
    exact (Or.inl ⟨_, _, X16.more (by decide) (by decide), e23, N16, pre24, (own_glt1 (n := 65536) (k := (65536 : Int32)) (by decide) (by have q0 := rng32 p7; have q1 := own_lt1 (n := 256) (k := (256 : Int32)) (by decide) hc5; omega))⟩)
  ·
   have N3 := Fr.app N0 Nq10
   obtain ⟨_, T25, L25, X25, hQ25, st25⟩ := own_cs X3 hx hZ hown (y := yn3) (w_30 hw) (w_31 hw) (w_33 hw) (w_32 hw) e11 (argsL := [(.int 2), (.int 2)]) (rest := []) (rm4 l Z a0 hw [] ((2 : Int32)) ((2 : Int32)) h0 n0 O0 ) (g := (mkF m 27 (l352_6 o1 o2) [(.int 2), (.int 2)])) rfl (by rw [hml]; rfl) rfl (hb hby d2_27) (lenOf pd0 rfl) (W := 0) (c1 := 0) (s1 := 0)
   have pre26 : Go p e below T3 (mkF m 27 (l352_6 o1 o2) [(.int 2), (.int 2)]) E0 := fun t k => by
    refine pre4 _ ?_
    refine st3 _ ?_
    exact k
   rcases hQ25 with ⟨hc27, rfl, Nq28, e29⟩ | ⟨hc30, rfl, Nq31, e32⟩
   ·
    exact absurd hc27 (by decide : ¬ ((2 : Int32) < (2 : Int32)))
   ·
    have N25 := Fr.app N3 Nq31
    have pre33 : Go p e below T25 (mkF m 38 (l352_4 o1 o2) []) E0 := fun t k => by
     refine pre26 _ ?_
     refine st25 _ ?_
     refine yis X25 hx hby d2_30 (l' := (l352_6 o1 o2)) rfl ?_
     refine XS.iinc X25.here hx rfl (hb hby d2_32) rfl (l' := (l352_4 o1 o2)) rfl ?_
     refine ygo X25 hx hby 35 9 rfl d2_35 (by decide) ?_
     refine yil X25 hx hby d2_9 rfl ?_
     refine yin X25 hx hby d2_11 rfl ?_
     refine yil X25 hx hby d2_12 rfl ?_
     refine yad X25 hx hby d2_14 ?_
     refine yye X25 hx hby 15 38 rfl d2_15 (flt (by decide : ¬ ((3 : Int32) < (3 : Int32)))).2.1 (by decide) ?_
     exact k
    exact (Or.inl ⟨_, _, X25.more (by decide) (by decide), e32, N25, pre33, hc9⟩)
  ·
   have N3 := Fr.app N0 Nq14
   obtain ⟨_, T34, L34, X34, hQ34, st34⟩ := own_cs X3 hx hZ hown (y := yn3) (w_30 hw) (w_31 hw) (w_33 hw) (w_32 hw) e15 (argsL := [(.int 2), (.int 3)]) (rest := []) (rm4 l Z a0 hw [] ((2 : Int32)) ((3 : Int32)) h0 n0 O0 ) (g := (mkF m 27 (l352_6 o1 o2) [(.int 3), (.int 2)])) rfl (by rw [hml]; rfl) rfl (hb hby d2_27) (lenOf pd0 rfl) (W := 0) (c1 := 0) (s1 := 0)
   have pre35 : Go p e below T3 (mkF m 27 (l352_6 o1 o2) [(.int 3), (.int 2)]) E0 := fun t k => by
    refine pre4 _ ?_
    refine st3 _ ?_
    exact k
   rcases hQ34 with ⟨hc36, rfl, Nq37, e38⟩ | ⟨hc39, rfl, Nq40, e41⟩
   ·
    have N34 := Fr.app N3 Nq37
    have pre42 : Go p e below T34 (mkF m 38 (l352_5 o1 o2) []) E0 := fun t k => by
     refine pre35 _ ?_
     refine st34 _ ?_
     refine yis X34 hx hby d2_30 (l' := #[.val (.ref o1), .val (.int 2), .val (.ref o2), .val (.int 2), .val (.int 1), .val (.int 3), .val (.int 2), .unset]) rfl ?_
     refine XS.iinc X34.here hx rfl (hb hby d2_32) rfl (l' := (l352_5 o1 o2)) rfl ?_
     refine ygo X34 hx hby 35 9 rfl d2_35 (by decide) ?_
     refine yil X34 hx hby d2_9 rfl ?_
     refine yin X34 hx hby d2_11 rfl ?_
     refine yil X34 hx hby d2_12 rfl ?_
     refine yad X34 hx hby d2_14 ?_
     refine yye X34 hx hby 15 38 rfl d2_15 (flt (by decide : ¬ ((3 : Int32) < (3 : Int32)))).2.1 (by decide) ?_
     exact k
    exact (Or.inr ⟨_, _, X34.more (by decide) (by decide), e38, N34, pre42⟩)
   ·
    exact absurd (by decide : (2 : Int32) < (3 : Int32)) hc39
 rcases J0 with ⟨T43, lc43, X43, e43, N43, pre43, hc44⟩ | ⟨T45, lc45, X45, e45, N45, pre45⟩
 ·
  obtain ⟨T46, X46, e46, st46⟩ := yag X43 hx hZ hown hby (w_20 hw) e43 P3 40 (l352_4 o1 o2) [(.int 2)] d2_40 d2_41 rfl
  obtain ⟨T47, X47, e47, st47⟩ := yag X46 hx hZ hown hby (w_34 hw) e46 P2 53 (l352_4 o1 o2) [] d2_53 d2_54 rfl
  obtain ⟨T48, X48, e48, st48⟩ := yag X47 hx hZ hown hby (w_20 hw) e47 P3 60 (l352_4 o1 o2) [(.int 3)] d2_60 d2_61 rfl
  obtain ⟨T49, X49, e49, st49⟩ := yag X48 hx hZ hown hby (w_18 hw) e48 P1 69 (l352_7 o1 o2) [(.int 6)] d2_69 d2_70 rfl
  obtain ⟨cl50, Ar50, qa50, Sa50, Na50, Ha50, Ga50⟩ := id (P6)
  obtain ⟨T51, X51, e51, st51⟩ := yag X49 hx hZ hown hby (w_18 hw) e49 P1 78 (l352_7 o1 o2) [(.ref o1)] d2_78 d2_79 rfl
  obtain ⟨T52, X52, e52, st52⟩ := yag X51 hx hZ hown hby (w_18 hw) e51 P1 84 (l352_7 o1 o2) [(.int 6), (.ref o3), (.ref o1)] d2_84 d2_85 rfl
  obtain ⟨cl53, Ar53, qa53, Sa53, Na53, Ha53, Ga53⟩ := id (P6)
  obtain ⟨T54, X54, e54, st54⟩ := yag X52 hx hZ hown hby (w_18 hw) e52 P1 89 (l352_7 o1 o2) [(.int 4), (.int 6), (.ref o3), (.ref o1)] d2_89 d2_90 rfl
  obtain ⟨cl55, Ar55, qa55, Sa55, Na55, Ha55, Ga55⟩ := id (P6)
  obtain ⟨_, T56, L56, X56, hQ56, st56⟩ := own_cs X54 hx hZ hown (y := yn3) (w_30 hw) (w_31 hw) (w_33 hw) (w_32 hw) e54 (argsL := [(.int 6), (.int 6)]) (rest := [(.ref o3), (.ref o1)]) (rm4 l Z a0 hw [] ((6 : Int32)) ((6 : Int32)) h0 n0 O0 ) (g := (mkF m 97 (l352_7 o1 o2) [(.int 6), (.int 6), (.ref o3), (.ref o1)])) rfl (by rw [hml]; rfl) rfl (hb hby d2_97) (lenOf pd0 rfl) (W := 2) (c1 := 0) (s1 := 0)
  have pre57 : Go p e below T54 (mkF m 97 (l352_7 o1 o2) [(.int 6), (.int 6), (.ref o3), (.ref o1)]) E0 := fun t k => by
   refine pre43 _ ?_
   refine yil X43 hx hby d2_38 rfl ?_
   refine st46 _ ?_
   refine yye X46 hx hby 44 53 rfl d2_44 (flt (by decide : ¬ ((2 : Int32) < (2 : Int32)))).2.2.2 (by decide) ?_
   refine st47 _ ?_
   refine yil X47 hx hby d2_57 rfl ?_
   refine yad X47 hx hby d2_59 ?_
   refine st48 _ ?_
   refine XS.imul X48.here hx rfl (hb hby d2_64) rfl ?_
   refine yis X48 hx hby d2_65 (l' := (l352_7 o1 o2)) rfl ?_
   refine yil X48 hx hby d2_67 rfl ?_
   refine st49 _ ?_
   refine X49.arraylength hx (by rw [e49]; exact Ar50.1) (State.isArrayOf_alike hZ.alike Ar50.2.1) (g := (mkF m 73 (l352_7 o1 o2) [(.ref o3), (.int 6)])) rfl rfl (hb hby d2_73) _ ?_
   rw [len_of Sa50 Na50]
   refine yno X49 hx hby d2_74 (tlt (by decide : (4 : Int32) < (6 : Int32))).2.2.2 ?_
   refine yan X49 hx hby d2_77 rfl rfl ?_
   refine st51 _ ?_
   refine yil X51 hx hby d2_82 rfl ?_
   refine st52 _ ?_
   refine X52.arraylength hx (by rw [e52]; exact Ar53.1) (State.isArrayOf_alike hZ.alike Ar53.2.1) (g := (mkF m 88 (l352_7 o1 o2) [(.ref o3), (.int 6), (.ref o3), (.ref o1)])) rfl rfl (hb hby d2_88) _ ?_
   rw [len_of Sa53 Na53]
   refine st54 _ ?_
   refine X54.arraylength hx (by rw [e54]; exact Ar55.1) (State.isArrayOf_alike hZ.alike Ar55.2.1) (g := (mkF m 93 (l352_7 o1 o2) [(.ref o3), (.int 4), (.int 6), (.ref o3), (.ref o1)])) rfl rfl (hb hby d2_93) _ ?_
   rw [len_of Sa55 Na55]
   refine XS.iconst X54.here hx rfl (hb hby d2_94) ?_
   refine XS.idiv X54.here hx rfl (hb hby d2_95) rfl (by decide : ¬ ((2 : Int32) = (0 : Int32))) ?_
   refine yad X54 hx hby d2_96 ?_
   exact k
  rcases hQ56 with ⟨hc58, rfl, Nq59, e60⟩ | ⟨hc61, rfl, Nq62, e63⟩
  ·
   exact absurd hc58 (by decide : ¬ ((6 : Int32) < (6 : Int32)))
  ·
   have N56 := Fr.app N43 Nq62
   obtain ⟨_, T64, L64, X64, hQ64, st64⟩ := own_cs X56 hx hZ hown (y := yn5) (own_w hw 36 rfl) (w_37 hw) (own_w hw 39 rfl) (w_38 hw) e63 (argsL := [(.ref o3), (.int 6)]) (rest := [(.ref o1)]) (rm23 l Z a0 hw [] o3 kc8 p9 p10 p11 p12 h0 n0 O0 g_o3 P6) (g := (mkF m 100 (l352_7 o1 o2) [(.int 6), (.ref o3), (.ref o1)])) rfl (by rw [hml]; rfl) rfl (hb hby d2_100) (lenOf pd3 rfl) (W := 1) (c1 := 1) (s1 := 6)
   obtain ⟨b65, k66, rfl, Nq67, K68, sz_b65, f69, f70⟩ := hQ64
   have N64 := Fr.app N56 Nq67
   have g_b65 : n0 ≤ b65 := Nat.le_trans (own_oz O0) sz_b65
   have O64 := Old.keep O0 K68 all0
   have f71 := (P1.keep K68 nin0)
   have f72 := (P0.keep K68)
   obtain ⟨T73, h73, X73, e73, W73, st73⟩ := putF X64 hx hZ hown (host := "") (Or.inl (w_18 hw)) Via.refl rfl f71 f72 (Or.inl (w_19 hw)) (w_8 hw) (ty := (.array .byte)) (by decide) rfl rfl (g := (mkF m 103 (l352_7 o1 o2) [(.ref b65), (.ref o1)])) rfl rfl (hb hby d2_103)
   have N73 := Fr.snoc X73 N64 g_o1
   have Fw73 := f71.same W73
   have O73 := Old.wr O64 W73 g_o1
   obtain ⟨T74, X74, e74, st74⟩ := yag X73 hx hZ hown hby (w_18 hw) e73 Fw73 106 (l352_7 o1 o2) [] d2_106 d2_107 rfl
   have f75 := ((P3.keep K68 nin0).other W73 (Or.inr (slot_ne (Or.inl (w_21 hw)) (Or.inl (w_19 hw)) (by decide) (t := .int) (t' := (.array .byte)) (by decide) (by decide))))
   obtain ⟨T76, X76, e76, st76⟩ := yag X74 hx hZ hown hby (w_20 hw) e74 f75 111 (l352_7 o1 o2) [(.int 2), (.ref b65)] d2_111 d2_112 rfl
   obtain ⟨T77, X77, e77, st77⟩ := yag X76 hx hZ hown hby (w_18 hw) e76 Fw73 116 (l352_7 o1 o2) [(.int 4), (.ref b65)] d2_116 d2_117 rfl
   obtain ⟨T78, X78, e78, st78⟩ := yag X77 hx hZ hown hby (w_20 hw) e77 f75 124 (l352_7 o1 o2) [(.int 3), (.ref b65), (.int 4), (.ref b65)] d2_124 d2_125 rfl
   have f79 := ((P2.keep K68 nin0).other W73 (Or.inr (slot_ne (Or.inl (w_35 hw)) (Or.inl (w_19 hw)) (by decide) (t := .int) (t' := (.array .byte)) (by decide) (by decide))))
   obtain ⟨T80, X80, e80, st80⟩ := yag X78 hx hZ hown hby (w_34 hw) e78 f79 129 (l352_7 o1 o2) [(.int 6), (.ref b65), (.int 4), (.ref b65)] d2_129 d2_130 rfl
   obtain ⟨T81, X81, e81, st81⟩ := yag X80 hx hZ hown hby (w_20 hw) e80 f75 135 (l352_7 o1 o2) [(.int 0), (.int 6), (.ref b65), (.int 4), (.ref b65)] d2_135 d2_136 rfl
   have lt82 : o1 < h0.size := P0.lt
   have ne83 : o1 ≠ b65 := Nat.ne_of_lt (Nat.lt_of_lt_of_le lt82 sz_b65)
   have f84 := (f69.other W73 (Ne.symm ne83))
   obtain ⟨T85, h85, L85, X85, e85, N85, K85, VV85, st85⟩ := cpA X81 hx hZ hown (own_w hw 48 rfl) (w_47 hw) (w_45 hw) (w_46 hw) e81 (us := []) f84 f84 (Or.inl ⟨rfl, rfl⟩) (by decide) (by decide) (by decide) (by decide) (by decide) rfl (by first | decide | exact (by decide : 6 + 0 ≤ 6)) N73 g_b65 (g := (mkF m 140 (l352_7 o1 o2) [(.int 0), (.int 6), (.ref b65), (.int 4), (.ref b65)])) rfl (by rw [hml]; rfl) rfl (hb hby d2_140) (by decide) (W := 0) (by show 2 * 0 + _ ≤ _; exact Nat.le_of_eq rfl) (by decide)
   have V85 : Arv Z h85 b65 k66 .byte (6 : Int32) [(.int p9), (.int p10), (.int p11), (.int p12), (.int 0), (.int 0)] (.int 0) := VV85
   have O85 := Old.keep O73 K85 (allS g_b65 all0)
   have f86 := (f79.keep K85 (ninS ne83 nin0))
   obtain ⟨T87, X87, e87, st87⟩ := yg X85 hx hZ hown hby (w_34 hw) e85 f86 145 (l352_7 o1 o2) [(.ref o1)] d2_145
   have f88 := ((f72.wr W73).keep K85)
   obtain ⟨T89, h89, X89, e89, W89, st89⟩ := putF X87 hx hZ hown (host := "") (Or.inl (w_34 hw)) Via.refl e87 f86 f88 (Or.inl (w_35 hw)) (w_8 hw) (ty := .int) (by decide) rfl rfl (g := (mkF m 151 (l352_7 o1 o2) [(.int 3), (.ref o1)])) rfl rfl (hb hby d2_151)
   have N89 := Fr.snoc X89 N85 g_o1
   have Fw89 := f86.same W89
   have O89 := Old.wr O85 W89 g_o1
   have f90 := ((((P5.keep K68).wr W73).keep K85).wr W89)
   have f91 := (f88.wr W89)
   have ne92 : o2 ≠ o1 := ne_exa f90 f91 (by decide)
   have lt93 : o2 < h0.size := P4.lt
   have ne94 : o2 ≠ b65 := Nat.ne_of_lt (Nat.lt_of_lt_of_le lt93 sz_b65)
   have f95 := ((((P4.keep K68 nin0).other W73 ne92).keep K85 (ninS ne94 nin0)).other W89 ne92)
   obtain ⟨cl96, Ar96, qa96, Sa96, Na96, Ha96, Ga96⟩ := id (f95)
   have hin96 := inb_of (j := (2 : Int32)) Sa96 ⟨by decide, by decide⟩
   have hat96 : cl96.slots[((2 : Int32)).toNatClampNeg]? = some (.int p7) := Has.at Ha96 hin96 rfl
   have f97 := ((Fw73.keep K85 (ninS ne83 nin0)).other W89 (Or.inr (slot_ne (Or.inl (w_19 hw)) (Or.inl (w_35 hw)) (by decide) (t := (.array .byte)) (t' := .int) (by decide) (by decide))))
   have f98 := ((f75.keep K85 (ninS ne83 nin0)).other W89 (Or.inr (slot_ne (Or.inl (w_21 hw)) (Or.inl (w_35 hw)) (by decide) (t := .int) (t' := .int) (by decide) (by decide))))
   have f99 := (V85.other W89 (Ne.symm ne83))
   have f100 := (((f70.wr W73).keep K85).wr W89)
   obtain ⟨_, T101, L101, X101, hQ101, st101⟩ := own_pb X89 hx hZ hown (y := yn6) (w_49 hw) (w_50 hw) (own_selp (mvT hZ (w_25 hw)) rfl (Cond.privateMethod_at (mvP hZ (w_51 hw) (args := #[]))) (mvT hZ (w_50 hw)) (by decide)) (w_51 hw) (own_w hw 52 rfl) (w_9 hw) e89 f91 (argsL := [(.int 2), (.int p7)]) (rest := []) (rm53 l Z a0 hw [] o1 b65 k66 p9 p10 p11 p12 p7 h89 n0 O89 g_o1 g_b65 f91 f97 f98 f99 f100) (g := (mkF m 175 (l352_0 o1 o2) [(.int p7), (.int 2), (.ref o1)])) rfl (by rw [hml]; rfl) rfl (hb hby d2_175) (lenOf pd4 rfl) (W := 0) (c1 := 1) (s1 := 6)
   obtain ⟨rfl, Nq102, K103, f104, f105⟩ := hQ101
   have N101 := Fr.app N89 Nq102
   obtain ⟨fs, hr, hrun, hended, hW, hsame⟩ := X101.leave (v := none) (fun _ => rfl)
   have KL : Keep h0 T101.heap [o1] := ((((((Keep.refl h0 [o1]).trans K68 all0).wr W73 (Or.inl (List.mem_of_getElem? (i := 0) rfl))).trans K85 (allS (Or.inr (Nat.le_trans (Nat.le_refl _) sz_b65)) all0)).wr W89 (Or.inl (List.mem_of_getElem? (i := 0) rfl))).trans K103 (allS (Or.inr (Nat.le_trans (Nat.le_refl _) sz_b65)) all0))
   have f106 := (f91.keep K103)
   have f107 := (f97.keep K103 (ninS ne83 nin0))
   have f108 := (Fw89.keep K103 (ninS ne83 nin0))
   have f109 := (f98.keep K103 (ninS ne83 nin0))
   refine ⟨_, _, pre57 _ ?_, hrun, hended, _, _, rfl, ?_, ⟨_, rfl⟩, hW, hsame.mono (by decide) (by decide)⟩
   ·
    refine st56 _ ?_
    refine st64 _ ?_
    refine st73 _ ?_
    refine st74 _ ?_
    refine yin X74 hx hby d2_110 rfl ?_
    refine st76 _ ?_
    refine XS.imul X76.here hx rfl (hb hby d2_115) rfl ?_
    show Steps p.tables e below (T76.setTop (mkF m 116 (l352_7 o1 o2) [(.int 4), (.ref b65)])) _
    refine st77 _ ?_
    refine yin X77 hx hby d2_120 rfl ?_
    refine yil X77 hx hby d2_121 rfl ?_
    refine yad X77 hx hby d2_123 ?_
    refine st78 _ ?_
    refine XS.imul X78.here hx rfl (hb hby d2_128) rfl ?_
    refine st80 _ ?_
    refine yin X80 hx hby d2_133 rfl ?_
    refine ysu X80 hx hby d2_134 ?_
    refine st81 _ ?_
    refine XS.imul X81.here hx rfl (hb hby d2_139) rfl ?_
    refine st85 _ ?_
    refine yan X85 hx hby d2_143 rfl rfl ?_
    refine XS.dup X85.here hx rfl (hb hby d2_144) rfl rfl ?_
    refine st87 _ ?_
    refine yil X87 hx hby d2_148 rfl ?_
    refine yad X87 hx hby d2_150 ?_
    refine st89 _ ?_
    refine XS.iconst X89.here hx rfl (hb hby d2_154) ?_
    refine yis X89 hx hby d2_155 (l' := (l352_0 o1 o2)) rfl ?_
    refine yil X89 hx hby d2_157 rfl ?_
    refine yil X89 hx hby d2_159 rfl ?_
    refine yno X89 hx hby d2_161 (tlt (by decide : (0 : Int32) < (1 : Int32))).2.1 ?_
    refine yan X89 hx hby d2_164 rfl rfl ?_
    refine yin X89 hx hby d2_165 rfl ?_
    refine yil X89 hx hby d2_166 rfl ?_
    refine yad X89 hx hby d2_168 ?_
    refine yan X89 hx hby d2_169 rfl rfl ?_
    refine yin X89 hx hby d2_170 rfl ?_
    refine yil X89 hx hby d2_171 rfl ?_
    refine yad X89 hx hby d2_173 ?_
    refine X89.iaload hx (j := (2 : Int32)) (v := (.int p7)) (by rw [e89]; exact Ar96.1) (State.isArrayOf_alike hZ.alike Ar96.2.1) Ar96.2.2 hin96 hat96 (g := (mkF m 174 (l352_0 o1 o2) [(.int 2), (.ref o2), (.int 2), (.ref o1)])) rfl rfl (hb hby d2_174) _ ?_
    refine st101 _ ?_
    refine XS.iinc X101.here hx rfl (hb hby d2_178) rfl (l' := (l352_1 o1 o2)) rfl ?_
    refine ygo X101 hx hby 181 157 rfl d2_181 (by decide) ?_
    refine yil X101 hx hby d2_157 rfl ?_
    refine yil X101 hx hby d2_159 rfl ?_
    show Steps p.tables e below (T101.setTop (mkF m 161 (l352_1 o1 o2) [(.int 1), (.int 1)])) _
    refine yye X101 hx hby 161 184 rfl d2_161 (flt (by decide : ¬ ((1 : Int32) < (1 : Int32)))).2.1 (by decide) ?_
    show Steps p.tables e below (T101.setTop (mkF m 184 (l352_1 o1 o2) [])) _
    exact X101.returnOut hx hret (hb hby d2_184) hr
   ·
    show Q56 Z w1 kw1 o1 o2 o3 kc4 p5 p6 p7 kc8 p9 p10 p11 p12 h0 n0 _ T101.heap _
    exact (Or.inl ⟨b65, k66, hc44, rfl, N101, KL, (Nat.le_trans (Nat.le_refl _) sz_b65), f106, f107, f108, f109, f104, f105⟩)
 ·
  obtain ⟨T110, X110, e110, st110⟩ := yag X45 hx hZ hown hby (w_20 hw) e45 P3 40 (l352_5 o1 o2) [(.int 3)] d2_40 d2_41 rfl
  obtain ⟨_, T111, L111, X111, hQ111, st111⟩ := own_pb X110 hx hZ hown (y := yn7) (own_w hw 65 rfl) (own_w hw 66 rfl) (own_selp (mvT hZ (w_25 hw)) rfl (Cond.privateMethod_at (mvP hZ (own_w hw 67 rfl) (args := #[]))) (mvT hZ (own_w hw 66 rfl)) (by decide)) (own_w hw 67 rfl) (own_w hw 68 rfl) (w_9 hw) e110 P0 (argsL := [(.int 3)]) (rest := []) (rm43 l Z a0 hw w1 kw1 G [] o1 o3 kc8 p9 p10 p11 p12 h0 n0 O0 g_o1 g_o3 P0 P1 P2 P3 P6 P7) (g := (mkF m 50 (l352_5 o1 o2) [(.int 3), (.ref o1)])) rfl (by rw [hml]; rfl) rfl (hb hby d2_50) (lenOf pd5 rfl) (W := 0) (c1 := 2) (s1 := 9)
  obtain ⟨b112, k113, rfl, Nq114, K115, sz_b112, f116, f117, f118, f119, f120, f121⟩ := hQ111
  have N111 := Fr.app N45 Nq114
  have g_b112 : n0 ≤ b112 := Nat.le_trans (own_oz O0) sz_b112
  have M111 : h0.size ≤ T111.heap.size := Nat.le_trans (Nat.le_refl _) K115.1
  have O111 := Old.keep O0 K115 (allS g_o1 all0)
  obtain ⟨T122, X122, e122, st122⟩ := yag X111 hx hZ hown hby (w_34 hw) rfl f118 53 (l352_5 o1 o2) [] d2_53 d2_54 rfl
  obtain ⟨T123, X123, e123, st123⟩ := yag X122 hx hZ hown hby (w_20 hw) e122 f119 60 (l352_5 o1 o2) [(.int 3)] d2_60 d2_61 rfl
  obtain ⟨T124, X124, e124, st124⟩ := yag X123 hx hZ hown hby (w_18 hw) e123 f117 69 (l352_8 o1 o2) [(.int 9)] d2_69 d2_70 rfl
  obtain ⟨cl125, Ar125, qa125, Sa125, Na125, Ha125, Ga125⟩ := id (f120)
  obtain ⟨T126, X126, e126, st126⟩ := yag X124 hx hZ hown hby (w_18 hw) e124 f117 78 (l352_8 o1 o2) [(.ref o1)] d2_78 d2_79 rfl
  obtain ⟨T127, X127, e127, st127⟩ := yag X126 hx hZ hown hby (w_18 hw) e126 f117 84 (l352_8 o1 o2) [(.int 9), (.ref b112), (.ref o1)] d2_84 d2_85 rfl
  obtain ⟨cl128, Ar128, qa128, Sa128, Na128, Ha128, Ga128⟩ := id (f120)
  obtain ⟨T129, X129, e129, st129⟩ := yag X127 hx hZ hown hby (w_18 hw) e127 f117 89 (l352_8 o1 o2) [(.int 6), (.int 9), (.ref b112), (.ref o1)] d2_89 d2_90 rfl
  obtain ⟨cl130, Ar130, qa130, Sa130, Na130, Ha130, Ga130⟩ := id (f120)
  obtain ⟨_, T131, L131, X131, hQ131, st131⟩ := own_cs X129 hx hZ hown (y := yn3) (w_30 hw) (w_31 hw) (w_33 hw) (w_32 hw) e129 (argsL := [(.int 9), (.int 9)]) (rest := [(.ref b112), (.ref o1)]) (rm4 l Z a0 hw [] ((9 : Int32)) ((9 : Int32)) T111.heap n0 O111 ) (g := (mkF m 97 (l352_8 o1 o2) [(.int 9), (.int 9), (.ref b112), (.ref o1)])) rfl (by rw [hml]; rfl) rfl (hb hby d2_97) (lenOf pd0 rfl) (W := 2) (c1 := 2) (s1 := 9)
  have pre132 : Go p e below T129 (mkF m 97 (l352_8 o1 o2) [(.int 9), (.int 9), (.ref b112), (.ref o1)]) E0 := fun t k => by
   refine pre45 _ ?_
   refine yil X45 hx hby d2_38 rfl ?_
   refine st110 _ ?_
   refine yno X110 hx hby d2_44 (tlt (by decide : (2 : Int32) < (3 : Int32))).2.2.2 ?_
   refine yan X110 hx hby d2_47 rfl rfl ?_
   refine yil X110 hx hby d2_48 rfl ?_
   refine st111 _ ?_
   refine st122 _ ?_
   refine yil X122 hx hby d2_57 rfl ?_
   refine yad X122 hx hby d2_59 ?_
   refine st123 _ ?_
   refine XS.imul X123.here hx rfl (hb hby d2_64) rfl ?_
   refine yis X123 hx hby d2_65 (l' := (l352_8 o1 o2)) rfl ?_
   refine yil X123 hx hby d2_67 rfl ?_
   refine st124 _ ?_
   refine X124.arraylength hx (by rw [e124]; exact Ar125.1) (State.isArrayOf_alike hZ.alike Ar125.2.1) (g := (mkF m 73 (l352_8 o1 o2) [(.ref b112), (.int 9)])) rfl rfl (hb hby d2_73) _ ?_
   rw [len_of Sa125 Na125]
   refine yno X124 hx hby d2_74 (tlt (by decide : (6 : Int32) < (9 : Int32))).2.2.2 ?_
   refine yan X124 hx hby d2_77 rfl rfl ?_
   refine st126 _ ?_
   refine yil X126 hx hby d2_82 rfl ?_
   refine st127 _ ?_
   refine X127.arraylength hx (by rw [e127]; exact Ar128.1) (State.isArrayOf_alike hZ.alike Ar128.2.1) (g := (mkF m 88 (l352_8 o1 o2) [(.ref b112), (.int 9), (.ref b112), (.ref o1)])) rfl rfl (hb hby d2_88) _ ?_
   rw [len_of Sa128 Na128]
   refine st129 _ ?_
   refine X129.arraylength hx (by rw [e129]; exact Ar130.1) (State.isArrayOf_alike hZ.alike Ar130.2.1) (g := (mkF m 93 (l352_8 o1 o2) [(.ref b112), (.int 6), (.int 9), (.ref b112), (.ref o1)])) rfl rfl (hb hby d2_93) _ ?_
   rw [len_of Sa130 Na130]
   refine XS.iconst X129.here hx rfl (hb hby d2_94) ?_
   refine XS.idiv X129.here hx rfl (hb hby d2_95) rfl (by decide : ¬ ((2 : Int32) = (0 : Int32))) ?_
   refine yad X129 hx hby d2_96 ?_
   exact k
  rcases hQ131 with ⟨hc133, rfl, Nq134, e135⟩ | ⟨hc136, rfl, Nq137, e138⟩
  ·
   exact absurd hc133 (by decide : ¬ ((9 : Int32) < (9 : Int32)))
  ·
   have N131 := Fr.app N111 Nq137
   obtain ⟨_, T139, L139, X139, hQ139, st139⟩ := own_cs X131 hx hZ hown (y := yn5) (own_w hw 36 rfl) (w_37 hw) (own_w hw 39 rfl) (w_38 hw) e138 (argsL := [(.ref b112), (.int 9)]) (rest := [(.ref o1)]) (rm26 l Z a0 hw [] b112 k113 (((((((((p9 &&& (255 : Int32)) <<< ((8 : Int32) &&& 31)) ||| (p10 &&& (255 : Int32))).toUInt32 >>> ((8 : Int32) &&& 31).toUInt32).toInt32).toUInt32 >>> ((8 : Int32) &&& 31).toUInt32).toInt32).toInt8.toInt32)) (((((((p9 &&& (255 : Int32)) <<< ((8 : Int32) &&& 31)) ||| (p10 &&& (255 : Int32))).toUInt32 >>> ((8 : Int32) &&& 31).toUInt32).toInt32).toInt8.toInt32)) (((((p9 &&& (255 : Int32)) <<< ((8 : Int32) &&& 31)) ||| (p10 &&& (255 : Int32))).toInt8.toInt32)) (((((((((p11 &&& (255 : Int32)) <<< ((8 : Int32) &&& 31)) ||| (p12 &&& (255 : Int32))).toUInt32 >>> ((8 : Int32) &&& 31).toUInt32).toInt32).toUInt32 >>> ((8 : Int32) &&& 31).toUInt32).toInt32).toInt8.toInt32)) (((((((p11 &&& (255 : Int32)) <<< ((8 : Int32) &&& 31)) ||| (p12 &&& (255 : Int32))).toUInt32 >>> ((8 : Int32) &&& 31).toUInt32).toInt32).toInt8.toInt32)) (((((p11 &&& (255 : Int32)) <<< ((8 : Int32) &&& 31)) ||| (p12 &&& (255 : Int32))).toInt8.toInt32)) T111.heap n0 O111 g_b112 f120) (g := (mkF m 100 (l352_8 o1 o2) [(.int 9), (.ref b112), (.ref o1)])) rfl (by rw [hml]; rfl) rfl (hb hby d2_100) (lenOf pd3 rfl) (W := 1) (c1 := 3) (s1 := 18)
   obtain ⟨b140, k141, rfl, Nq142, K143, sz_b140, f144, f145⟩ := hQ139
   have N139 := Fr.app N131 Nq142
   have g_b140 : n0 ≤ b140 := Nat.le_trans (own_oz O111) sz_b140
   have O139 := Old.keep O111 K143 all0
   have f146 := (f117.keep K143 nin0)
   have f147 := (f116.keep K143)
   obtain ⟨T148, h148, X148, e148, W148, st148⟩ := putF X139 hx hZ hown (host := "") (Or.inl (w_18 hw)) Via.refl rfl f146 f147 (Or.inl (w_19 hw)) (w_8 hw) (ty := (.array .byte)) (by decide) rfl rfl (g := (mkF m 103 (l352_8 o1 o2) [(.ref b140), (.ref o1)])) rfl rfl (hb hby d2_103)
   have N148 := Fr.snoc X148 N139 g_o1
   have Fw148 := f146.same W148
   have O148 := Old.wr O139 W148 g_o1
   obtain ⟨T149, X149, e149, st149⟩ := yag X148 hx hZ hown hby (w_18 hw) e148 Fw148 106 (l352_8 o1 o2) [] d2_106 d2_107 rfl
   have f150 := ((f119.keep K143 nin0).other W148 (Or.inr (slot_ne (Or.inl (w_21 hw)) (Or.inl (w_19 hw)) (by decide) (t := .int) (t' := (.array .byte)) (by decide) (by decide))))
   obtain ⟨T151, X151, e151, st151⟩ := yag X149 hx hZ hown hby (w_20 hw) e149 f150 111 (l352_8 o1 o2) [(.int 2), (.ref b140)] d2_111 d2_112 rfl
   obtain ⟨T152, X152, e152, st152⟩ := yag X151 hx hZ hown hby (w_18 hw) e151 Fw148 116 (l352_8 o1 o2) [(.int 6), (.ref b140)] d2_116 d2_117 rfl
   obtain ⟨T153, X153, e153, st153⟩ := yag X152 hx hZ hown hby (w_20 hw) e152 f150 124 (l352_8 o1 o2) [(.int 3), (.ref b140), (.int 6), (.ref b140)] d2_124 d2_125 rfl
   have f154 := ((f118.keep K143 nin0).other W148 (Or.inr (slot_ne (Or.inl (w_35 hw)) (Or.inl (w_19 hw)) (by decide) (t := .int) (t' := (.array .byte)) (by decide) (by decide))))
   obtain ⟨T155, X155, e155, st155⟩ := yag X153 hx hZ hown hby (w_34 hw) e153 f154 129 (l352_8 o1 o2) [(.int 9), (.ref b140), (.int 6), (.ref b140)] d2_129 d2_130 rfl
   obtain ⟨T156, X156, e156, st156⟩ := yag X155 hx hZ hown hby (w_20 hw) e155 f150 135 (l352_8 o1 o2) [(.int 0), (.int 9), (.ref b140), (.int 6), (.ref b140)] d2_135 d2_136 rfl
   have lt157 : o1 < T111.heap.size := (Nat.lt_of_lt_of_le P0.lt K115.1)
   have ne158 : o1 ≠ b140 := Nat.ne_of_lt (Nat.lt_of_lt_of_le lt157 sz_b140)
   have f159 := (f144.other W148 (Ne.symm ne158))
   obtain ⟨T160, h160, L160, X160, e160, N160, K160, VV160, st160⟩ := cpA X156 hx hZ hown (own_w hw 48 rfl) (w_47 hw) (w_45 hw) (w_46 hw) e156 (us := []) f159 f159 (Or.inl ⟨rfl, rfl⟩) (by decide) (by decide) (by decide) (by decide) (by decide) rfl (by first | decide | exact (by decide : 9 + 0 ≤ 9)) N148 g_b140 (g := (mkF m 140 (l352_8 o1 o2) [(.int 0), (.int 9), (.ref b140), (.int 6), (.ref b140)])) rfl (by rw [hml]; rfl) rfl (hb hby d2_140) (by decide) (W := 0) (by show 2 * 0 + _ ≤ _; exact Nat.le_of_eq rfl) (by decide)
   have V160 : Arv Z h160 b140 k141 .byte (9 : Int32) [(.int ((((((((p9 &&& (255 : Int32)) <<< ((8 : Int32) &&& 31)) ||| (p10 &&& (255 : Int32))).toUInt32 >>> ((8 : Int32) &&& 31).toUInt32).toInt32).toUInt32 >>> ((8 : Int32) &&& 31).toUInt32).toInt32).toInt8.toInt32)), (.int ((((((p9 &&& (255 : Int32)) <<< ((8 : Int32) &&& 31)) ||| (p10 &&& (255 : Int32))).toUInt32 >>> ((8 : Int32) &&& 31).toUInt32).toInt32).toInt8.toInt32)), (.int ((((p9 &&& (255 : Int32)) <<< ((8 : Int32) &&& 31)) ||| (p10 &&& (255 : Int32))).toInt8.toInt32)), (.int ((((((((p11 &&& (255 : Int32)) <<< ((8 : Int32) &&& 31)) ||| (p12 &&& (255 : Int32))).toUInt32 >>> ((8 : Int32) &&& 31).toUInt32).toInt32).toUInt32 >>> ((8 : Int32) &&& 31).toUInt32).toInt32).toInt8.toInt32)), (.int ((((((p11 &&& (255 : Int32)) <<< ((8 : Int32) &&& 31)) ||| (p12 &&& (255 : Int32))).toUInt32 >>> ((8 : Int32) &&& 31).toUInt32).toInt32).toInt8.toInt32)), (.int ((((p11 &&& (255 : Int32)) <<< ((8 : Int32) &&& 31)) ||| (p12 &&& (255 : Int32))).toInt8.toInt32)), (.int 0), (.int 0), (.int 0)] (.int 0) := VV160
   have O160 := Old.keep O148 K160 (allS g_b140 all0)
   have f161 := (f154.keep K160 (ninS ne158 nin0))
   obtain ⟨T162, X162, e162, st162⟩ := yg X160 hx hZ hown hby (w_34 hw) e160 f161 145 (l352_8 o1 o2) [(.ref o1)] d2_145
   have f163 := ((f147.wr W148).keep K160)
   obtain ⟨T164, h164, X164, e164, W164, st164⟩ := putF X162 hx hZ hown (host := "") (Or.inl (w_34 hw)) Via.refl e162 f161 f163 (Or.inl (w_35 hw)) (w_8 hw) (ty := .int) (by decide) rfl rfl (g := (mkF m 151 (l352_8 o1 o2) [(.int 3), (.ref o1)])) rfl rfl (hb hby d2_151)
   have N164 := Fr.snoc X164 N160 g_o1
   have Fw164 := f161.same W164
   have O164 := Old.wr O160 W164 g_o1
   have f165 := (((((P5.keep K115).keep K143).wr W148).keep K160).wr W164)
   have f166 := (f163.wr W164)
   have ne167 : o2 ≠ o1 := ne_exa f165 f166 (by decide)
   have lt168 : o2 < T111.heap.size := (Nat.lt_of_lt_of_le P4.lt K115.1)
   have ne169 : o2 ≠ b140 := Nat.ne_of_lt (Nat.lt_of_lt_of_le lt168 sz_b140)
   have f170 := (((((P4.keep K115 (ninS ne167 nin0)).keep K143 nin0).other W148 ne167).keep K160 (ninS ne169 nin0)).other W164 ne167)
   obtain ⟨cl171, Ar171, qa171, Sa171, Na171, Ha171, Ga171⟩ := id (f170)
   have hin171 := inb_of (j := (2 : Int32)) Sa171 ⟨by decide, by decide⟩
   have hat171 : cl171.slots[((2 : Int32)).toNatClampNeg]? = some (.int p7) := Has.at Ha171 hin171 rfl
   have f172 := ((Fw148.keep K160 (ninS ne158 nin0)).other W164 (Or.inr (slot_ne (Or.inl (w_19 hw)) (Or.inl (w_35 hw)) (by decide) (t := (.array .byte)) (t' := .int) (by decide) (by decide))))
   have f173 := ((f150.keep K160 (ninS ne158 nin0)).other W164 (Or.inr (slot_ne (Or.inl (w_21 hw)) (Or.inl (w_35 hw)) (by decide) (t := .int) (t' := .int) (by decide) (by decide))))
   have f174 := (V160.other W164 (Ne.symm ne158))
   have f175 := (((f145.wr W148).keep K160).wr W164)
   obtain ⟨_, T176, L176, X176, hQ176, st176⟩ := own_pb X164 hx hZ hown (y := yn6) (w_49 hw) (w_50 hw) (own_selp (mvT hZ (w_25 hw)) rfl (Cond.privateMethod_at (mvP hZ (w_51 hw) (args := #[]))) (mvT hZ (w_50 hw)) (by decide)) (w_51 hw) (own_w hw 52 rfl) (w_9 hw) e164 f166 (argsL := [(.int 2), (.int p7)]) (rest := []) (rm54 l Z a0 hw [] o1 b140 k141 (((((((((p9 &&& (255 : Int32)) <<< ((8 : Int32) &&& 31)) ||| (p10 &&& (255 : Int32))).toUInt32 >>> ((8 : Int32) &&& 31).toUInt32).toInt32).toUInt32 >>> ((8 : Int32) &&& 31).toUInt32).toInt32).toInt8.toInt32)) (((((((p9 &&& (255 : Int32)) <<< ((8 : Int32) &&& 31)) ||| (p10 &&& (255 : Int32))).toUInt32 >>> ((8 : Int32) &&& 31).toUInt32).toInt32).toInt8.toInt32)) (((((p9 &&& (255 : Int32)) <<< ((8 : Int32) &&& 31)) ||| (p10 &&& (255 : Int32))).toInt8.toInt32)) (((((((((p11 &&& (255 : Int32)) <<< ((8 : Int32) &&& 31)) ||| (p12 &&& (255 : Int32))).toUInt32 >>> ((8 : Int32) &&& 31).toUInt32).toInt32).toUInt32 >>> ((8 : Int32) &&& 31).toUInt32).toInt32).toInt8.toInt32)) (((((((p11 &&& (255 : Int32)) <<< ((8 : Int32) &&& 31)) ||| (p12 &&& (255 : Int32))).toUInt32 >>> ((8 : Int32) &&& 31).toUInt32).toInt32).toInt8.toInt32)) (((((p11 &&& (255 : Int32)) <<< ((8 : Int32) &&& 31)) ||| (p12 &&& (255 : Int32))).toInt8.toInt32)) p7 h164 n0 O164 g_o1 g_b140 f166 f172 f173 f174 f175) (g := (mkF m 175 (l352_2 o1 o2) [(.int p7), (.int 2), (.ref o1)])) rfl (by rw [hml]; rfl) rfl (hb hby d2_175) (lenOf pd4 rfl) (W := 0) (c1 := 3) (s1 := 18)
   obtain ⟨rfl, Nq177, K178, f179, f180⟩ := hQ176
   have N176 := Fr.app N164 Nq177
   obtain ⟨fs, hr, hrun, hended, hW, hsame⟩ := X176.leave (v := none) (fun _ => rfl)
   have KL : Keep h0 T176.heap [o1] := (((((((Keep.refl h0 [o1]).trans K115 (allS (Or.inl (List.mem_of_getElem? (i := 0) rfl)) all0)).trans K143 all0).wr W148 (Or.inl (List.mem_of_getElem? (i := 0) rfl))).trans K160 (allS (Or.inr (Nat.le_trans M111 sz_b140)) all0)).wr W164 (Or.inl (List.mem_of_getElem? (i := 0) rfl))).trans K178 (allS (Or.inr (Nat.le_trans M111 sz_b140)) all0))
   have f181 := (f166.keep K178)
   have f182 := (f172.keep K178 (ninS ne158 nin0))
   have f183 := (Fw164.keep K178 (ninS ne158 nin0))
   have f184 := (f173.keep K178 (ninS ne158 nin0))
   refine ⟨_, _, pre132 _ ?_, hrun, hended, _, _, rfl, ?_, ⟨_, rfl⟩, hW, hsame.mono (by decide) (by decide)⟩
   ·
    refine st131 _ ?_
    refine st139 _ ?_
    refine st148 _ ?_
    refine st149 _ ?_
    refine yin X149 hx hby d2_110 rfl ?_
    show Steps p.tables e below (T149.setTop (mkF m 111 (l352_8 o1 o2) [(.int 2), (.ref b140)])) _
    refine st151 _ ?_
    refine XS.imul X151.here hx rfl (hb hby d2_115) rfl ?_
    refine st152 _ ?_
    refine yin X152 hx hby d2_120 rfl ?_
    refine yil X152 hx hby d2_121 rfl ?_
    refine yad X152 hx hby d2_123 ?_
    refine st153 _ ?_
    refine XS.imul X153.here hx rfl (hb hby d2_128) rfl ?_
    refine st155 _ ?_
    refine yin X155 hx hby d2_133 rfl ?_
    refine ysu X155 hx hby d2_134 ?_
    refine st156 _ ?_
    refine XS.imul X156.here hx rfl (hb hby d2_139) rfl ?_
    refine st160 _ ?_
    refine yan X160 hx hby d2_143 rfl rfl ?_
    refine XS.dup X160.here hx rfl (hb hby d2_144) rfl rfl ?_
    refine st162 _ ?_
    refine yil X162 hx hby d2_148 rfl ?_
    refine yad X162 hx hby d2_150 ?_
    refine st164 _ ?_
    refine XS.iconst X164.here hx rfl (hb hby d2_154) ?_
    refine yis X164 hx hby d2_155 (l' := (l352_2 o1 o2)) rfl ?_
    refine yil X164 hx hby d2_157 rfl ?_
    refine yil X164 hx hby d2_159 rfl ?_
    refine yno X164 hx hby d2_161 (tlt (by decide : (0 : Int32) < (1 : Int32))).2.1 ?_
    refine yan X164 hx hby d2_164 rfl rfl ?_
    refine yin X164 hx hby d2_165 rfl ?_
    refine yil X164 hx hby d2_166 rfl ?_
    refine yad X164 hx hby d2_168 ?_
    refine yan X164 hx hby d2_169 rfl rfl ?_
    refine yin X164 hx hby d2_170 rfl ?_
    refine yil X164 hx hby d2_171 rfl ?_
    refine yad X164 hx hby d2_173 ?_
    refine X164.iaload hx (j := (2 : Int32)) (v := (.int p7)) (by rw [e164]; exact Ar171.1) (State.isArrayOf_alike hZ.alike Ar171.2.1) Ar171.2.2 hin171 hat171 (g := (mkF m 174 (l352_2 o1 o2) [(.int 2), (.ref o2), (.int 2), (.ref o1)])) rfl rfl (hb hby d2_174) _ ?_
    refine st176 _ ?_
    refine XS.iinc X176.here hx rfl (hb hby d2_178) rfl (l' := (l352_3 o1 o2)) rfl ?_
    show Steps p.tables e below (T176.setTop (mkF m 181 (l352_3 o1 o2) [])) _
    refine ygo X176 hx hby 181 157 rfl d2_181 (by decide) ?_
    refine yil X176 hx hby d2_157 rfl ?_
    refine yil X176 hx hby d2_159 rfl ?_
    refine yye X176 hx hby 161 184 rfl d2_161 (flt (by decide : ¬ ((1 : Int32) < (1 : Int32)))).2.1 (by decide) ?_
    show Steps p.tables e below (T176.setTop (mkF m 184 (l352_3 o1 o2) [])) _
    exact X176.returnOut hx hret (hb hby d2_184) hr
   ·
    show Q56 Z w1 kw1 o1 o2 o3 kc4 p5 p6 p7 kc8 p9 p10 p11 p12 h0 n0 _ T176.heap _
    exact (Or.inr ⟨b140, k141, rfl, N176, KL, (Nat.le_trans M111 sz_b140), f181, f182, f183, f184, f179, f180⟩)
def l353_0 (o1 o2 : Addr) : Array Slot := #[.val (.ref o1), .val (.int 2), .val (.ref o2), .val (.int 2), .val (.int 1), .val (.int 3), .val (.int 9), .val (.int 0)]
def l353_1 (o1 o2 : Addr) : Array Slot := #[.val (.ref o1), .val (.int 2), .val (.ref o2), .val (.int 2), .val (.int 1), .val (.int 3), .val (.int 9), .val (.int 1)]
def l353_2 (o1 o2 : Addr) : Array Slot := #[.val (.ref o1), .val (.int 2), .val (.ref o2), .val (.int 2), .val (.int 1), .val (.int 3), .val (.int 3), .unset]
def l353_3 (o1 o2 : Addr) : Array Slot := #[.val (.ref o1), .val (.int 2), .val (.ref o2), .val (.int 2), .val (.int 1), .val (.int 3), .val (.int 2), .unset]
def l353_4 (o1 o2 : Addr) : Array Slot := #[.val (.ref o1), .val (.int 2), .val (.ref o2), .val (.int 2), .val (.int 1), .val (.int 3), .val (.int 9), .unset]
theorem ef57 (m : MethodId) (x0 : Addr) (x1 : Int32) (x2 : Addr) (x3 x4 : Int32) : entryFrame m #[(.ref x0), (.int x1), (.ref x2), (.int x3), (.int x4)] 8 = mkF m 0 #[.val (.ref x0), .val (.int x1), .val (.ref x2), .val (.int x3), .val (.int x4), .unset, .unset, .unset] [] := by first | (simp [entryFrame, mkF, argsToLocals, Value.category]; done) | rfl
def Q57 (Z : State) (o1 o2 o3 : Addr) (kc4 : ClassId) (p5 p6 p7 : Int32) (kc8 : ClassId) (p9 p10 : Int32) (p11 p12 : Int32) (p13 p14 : Int32) (h0 : Heap) (n0 : Nat) (v : Option Value) (h : Heap) (L : List Loc) : Prop :=
  (∃ b63 : Addr, ∃ k64 : ClassId, v = none ∧ Fr n0 L ∧ Keep h0 h [o1] ∧ h0.size ≤ b63 ∧ (Exa Z h o1 "com/example/driftless/driftless/CodePoints") ∧ (Fld Z h o1 "com/example/driftless/driftless/CodePoints" "bytes" "[B" (.ref b63)) ∧ (Fld Z h o1 "com/example/driftless/driftless/CodePoints" "length" "I" (.int 3)) ∧ (Fld Z h o1 "com/example/driftless/driftless/CodePoints" "width" "I" (.int 3)) ∧ (Arv Z h b63 k64 .byte (9 : Int32) [(.int p9), (.int p10), (.int p11), (.int p12), (.int p13), (.int p14), (.int (((((p7.toUInt32 >>> ((8 : Int32) &&& 31).toUInt32).toInt32).toUInt32 >>> ((8 : Int32) &&& 31).toUInt32).toInt32).toInt8.toInt32)), (.int (((p7.toUInt32 >>> ((8 : Int32) &&& 31).toUInt32).toInt32).toInt8.toInt32)), (.int (p7.toInt8.toInt32))] (.int 0)) ∧ (Exa Z h b63 "[B"))
set_option maxRecDepth 65536 in
set_option maxHeartbeats 40000000 in
theorem rm57 (l : Launch) (Z : State) (a0 : Array Value) (hw : HW a0 Z) (ws : List Jvm.Cond) (o1 o2 o3 : Addr) (kc4 : ClassId) (p5 p6 p7 : Int32) (kc8 : ClassId) (p9 p10 : Int32) (p11 p12 : Int32) (p13 p14 : Int32) (h0 : Heap) (n0 : Nat) (O0 : Old Z n0 h0) (g_o1 : n0 ≤ o1) (g_o2 : n0 ≤ o2) (g_o3 : n0 ≤ o3) (P0 : Exa Z h0 o1 "com/example/driftless/driftless/CodePoints") (P1 : Fld Z h0 o1 "com/example/driftless/driftless/CodePoints" "bytes" "[B" (.ref o3)) (P2 : Fld Z h0 o1 "com/example/driftless/driftless/CodePoints" "length" "I" (.int 2)) (P3 : Fld Z h0 o1 "com/example/driftless/driftless/CodePoints" "width" "I" (.int 3)) (P4 : Arv Z h0 o2 kc4 .int (3 : Int32) [(.int p5), (.int p6), (.int p7)] (.int 0)) (P5 : Exa Z h0 o2 "[I") (P6 : Arv Z h0 o3 kc8 .byte (6 : Int32) [(.int p9), (.int p10), (.int p11), (.int p12), (.int p13), (.int p14)] (.int 0)) :
    MF l yn8 prog_6_method_5_code 8 none ws ({ frames := 2, cells := 1, slots := 9, locals := 36 } : Room) #[(.ref o1), (.int 2), (.ref o2), (.int 2), (.int 1)] Z h0 (Q57 Z o1 o2 o3 kc4 p5 p6 p7 kc8 p9 p10 p11 p12 p13 p14 h0 n0) := by
 refine MetFree.of_bodySF (plainFor_of_name pn1) hisR ?_
 intro p e s m args below meth c s₁ Bd hml hP hK
 obtain ⟨rfl, hZ, hh⟩ := hP
 obtain ⟨hx, hby, hown, hret, hlk, X0, e0, N0⟩ := own_bd Bd hh n0
 have pre0 := own_ct s₁ (p := p) (e := e) (below := below) (ef57 m o1 (2 : Int32) o2 (2 : Int32) (1 : Int32))
 revert pre0
 generalize s₁.setTop (entryFrame m #[(.ref o1), (.int 2), (.ref o2), (.int 2), (.int 1)] 8) = E0
 intro pre0
 have J0 : (∃ (T : State) (locs : List Loc), Stand p l e ({ frames := 2, cells := 1, slots := 9, locals := 36 } : Room) s m #[(.ref o1), (.int 2), (.ref o2), (.int 2), (.int 1)] below meth c T locs 0 0 ∧ T.heap = h0 ∧ Fr n0 locs ∧ (Go p e below T (mkF m 38 (l353_2 o1 o2) []) E0)) := by
  obtain ⟨T1, X1, e1, st1⟩ := yag X0 hx hZ hown hby (w_20 hw) e0 P3 0 #[.val (.ref o1), .val (.int 2), .val (.ref o2), .val (.int 2), .val (.int 1), .unset, .unset, .unset] [] d2_0 d2_1 rfl
  obtain ⟨cl2, Ar2, qa2, Sa2, Na2, Ha2, Ga2⟩ := id (P4)
  have hin2 := inb_of (j := (2 : Int32)) Sa2 ⟨by decide, by decide⟩
  have hat2 : cl2.slots[((2 : Int32)).toNatClampNeg]? = some (.int p7) := Has.at Ha2 hin2 rfl
  obtain ⟨_, T3, L3, X3, hQ3, st3⟩ := own_cs X1 hx hZ hown (y := yn2) (own_w hw 27 rfl) (own_w hw 28 rfl) (own_w hw 29 rfl) (w_9 hw) e1 (argsL := [(.int p7)]) (rest := [(.int 3)]) (rm3 l Z a0 hw [] p7 h0 n0 O0 ) (g := (mkF m 24 (l353_3 o1 o2) [(.int p7), (.int 3)])) rfl (by rw [hml]; rfl) rfl (hb hby d2_24) (lenOf pd2 rfl) (W := 1) (c1 := 0) (s1 := 0)
  have pre4 : Go p e below T1 (mkF m 24 (l353_3 o1 o2) [(.int p7), (.int 3)]) E0 := fun t k => by
   refine pre0 _ ?_
   refine st1 _ ?_
   refine yis X1 hx hby d2_4 (l' := #[.val (.ref o1), .val (.int 2), .val (.ref o2), .val (.int 2), .val (.int 1), .val (.int 3), .unset, .unset]) rfl ?_
   refine yin X1 hx hby d2_6 rfl ?_
   refine yis X1 hx hby d2_7 (l' := (l353_3 o1 o2)) rfl ?_
   refine yil X1 hx hby d2_9 rfl ?_
   refine yin X1 hx hby d2_11 rfl ?_
   refine yil X1 hx hby d2_12 rfl ?_
   refine yad X1 hx hby d2_14 ?_
   refine yno X1 hx hby d2_15 (tlt (by decide : (2 : Int32) < (3 : Int32))).2.1 ?_
   refine yil X1 hx hby d2_18 rfl ?_
   refine yan X1 hx hby d2_20 rfl rfl ?_
   refine yil X1 hx hby d2_21 rfl ?_
   refine X1.iaload hx (j := (2 : Int32)) (v := (.int p7)) (by rw [e1]; exact Ar2.1) (State.isArrayOf_alike hZ.alike Ar2.2.1) Ar2.2.2 hin2 hat2 (g := (mkF m 23 (l353_3 o1 o2) [(.int 2), (.ref o2), (.int 3)])) rfl rfl (hb hby d2_23) _ ?_
   exact k
  rcases hQ3 with ⟨hc5, rfl, Nq6, e7⟩ | ⟨hc8, hc9, rfl, Nq10, e11⟩ | ⟨hc12, hc13, rfl, Nq14, e15⟩
  ·
   have N3 := Fr.app N0 Nq6
   obtain ⟨_, T16, L16, X16, hQ16, st16⟩ := own_cs X3 hx hZ hown (y := yn3) (w_30 hw) (w_31 hw) (w_33 hw) (w_32 hw) e7 (argsL := [(.int 3), (.int 1)]) (rest := []) (rm4 l Z a0 hw [] ((3 : Int32)) ((1 : Int32)) h0 n0 O0 ) (g := (mkF m 27 (l353_3 o1 o2) [(.int 1), (.int 3)])) rfl (by rw [hml]; rfl) rfl (hb hby d2_27) (lenOf pd0 rfl) (W := 0) (c1 := 0) (s1 := 0)
   have pre17 : Go p e below T3 (mkF m 27 (l353_3 o1 o2) [(.int 1), (.int 3)]) E0 := fun t k => by
    refine pre4 _ ?_
    refine st3 _ ?_
    exact k
   rcases hQ16 with ⟨hc18, rfl, Nq19, e20⟩ | ⟨hc21, rfl, Nq22, e23⟩
   ·
    exact absurd hc18 (by decide : ¬ ((3 : Int32) < (1 : Int32)))
   ·
    have N16 := Fr.app N3 Nq22
    have pre24 : Go p e below T16 (mkF m 38 (l353_2 o1 o2) []) E0 := fun t k => by
     refine pre17 _ ?_
     refine st16 _ ?_
     refine yis X16 hx hby d2_30 (l' := (l353_3 o1 o2)) rfl ?_
     refine XS.iinc X16.here hx rfl (hb hby d2_32) rfl (l' := (l353_2 o1 o2)) rfl ?_
     refine ygo X16 hx hby 35 9 rfl d2_35 (by decide) ?_
     refine yil X16 hx hby d2_9 rfl ?_
     refine yin X16 hx hby d2_11 rfl ?_
     refine yil X16 hx hby d2_12 rfl ?_
     refine yad X16 hx hby d2_14 ?_
     refine yye X16 hx hby 15 38 rfl d2_15 (flt (by decide : ¬ ((3 : Int32) < (3 : Int32)))).2.1 (by decide) ?_
     exact k
    exact ⟨_, _, X16.more (by decide) (by decide), e23, N16, pre24⟩
  ·
   have N3 := Fr.app N0 Nq10
   obtain ⟨_, T25, L25, X25, hQ25, st25⟩ := own_cs X3 hx hZ hown (y := yn3) (w_30 hw) (w_31 hw) (w_33 hw) (w_32 hw) e11 (argsL := [(.int 3), (.int 2)]) (rest := []) (rm4 l Z a0 hw [] ((3 : Int32)) ((2 : Int32)) h0 n0 O0 ) (g := (mkF m 27 (l353_3 o1 o2) [(.int 2), (.int 3)])) rfl (by rw [hml]; rfl) rfl (hb hby d2_27) (lenOf pd0 rfl) (W := 0) (c1 := 0) (s1 := 0)
   have pre26 : Go p e below T3 (mkF m 27 (l353_3 o1 o2) [(.int 2), (.int 3)]) E0 := fun t k => by
    refine pre4 _ ?_
    refine st3 _ ?_
    exact k
   rcases hQ25 with ⟨hc27, rfl, Nq28, e29⟩ | ⟨hc30, rfl, Nq31, e32⟩
   ·
    exact absurd hc27 (by decide : ¬ ((3 : Int32) < (2 : Int32)))
   ·
    have N25 := Fr.app N3 Nq31
    have pre33 : Go p e below T25 (mkF m 38 (l353_2 o1 o2) []) E0 := fun t k => by
     refine pre26 _ ?_
     refine st25 _ ?_
     refine yis X25 hx hby d2_30 (l' := (l353_3 o1 o2)) rfl ?_
     refine XS.iinc X25.here hx rfl (hb hby d2_32) rfl (l' := (l353_2 o1 o2)) rfl ?_
     refine ygo X25 hx hby 35 9 rfl d2_35 (by decide) ?_
     refine yil X25 hx hby d2_9 rfl ?_
     refine yin X25 hx hby d2_11 rfl ?_
     refine yil X25 hx hby d2_12 rfl ?_
     refine yad X25 hx hby d2_14 ?_
     refine yye X25 hx hby 15 38 rfl d2_15 (flt (by decide : ¬ ((3 : Int32) < (3 : Int32)))).2.1 (by decide) ?_
     exact k
    exact ⟨_, _, X25.more (by decide) (by decide), e32, N25, pre33⟩
  ·
   have N3 := Fr.app N0 Nq14
   obtain ⟨_, T34, L34, X34, hQ34, st34⟩ := own_cs X3 hx hZ hown (y := yn3) (w_30 hw) (w_31 hw) (w_33 hw) (w_32 hw) e15 (argsL := [(.int 3), (.int 3)]) (rest := []) (rm4 l Z a0 hw [] ((3 : Int32)) ((3 : Int32)) h0 n0 O0 ) (g := (mkF m 27 (l353_3 o1 o2) [(.int 3), (.int 3)])) rfl (by rw [hml]; rfl) rfl (hb hby d2_27) (lenOf pd0 rfl) (W := 0) (c1 := 0) (s1 := 0)
   have pre35 : Go p e below T3 (mkF m 27 (l353_3 o1 o2) [(.int 3), (.int 3)]) E0 := fun t k => by
    refine pre4 _ ?_
    refine st3 _ ?_
    exact k
   rcases hQ34 with ⟨hc36, rfl, Nq37, e38⟩ | ⟨hc39, rfl, Nq40, e41⟩
   ·
    exact absurd hc36 (by decide : ¬ ((3 : Int32) < (3 : Int32)))
   ·
    have N34 := Fr.app N3 Nq40
    have pre42 : Go p e below T34 (mkF m 38 (l353_2 o1 o2) []) E0 := fun t k => by
     refine pre35 _ ?_
     refine st34 _ ?_
     refine yis X34 hx hby d2_30 (l' := (l353_3 o1 o2)) rfl ?_
     refine XS.iinc X34.here hx rfl (hb hby d2_32) rfl (l' := (l353_2 o1 o2)) rfl ?_
     refine ygo X34 hx hby 35 9 rfl d2_35 (by decide) ?_
     refine yil X34 hx hby d2_9 rfl ?_
     refine yin X34 hx hby d2_11 rfl ?_
     refine yil X34 hx hby d2_12 rfl ?_
     refine yad X34 hx hby d2_14 ?_
     refine yye X34 hx hby 15 38 rfl d2_15 (flt (by decide : ¬ ((3 : Int32) < (3 : Int32)))).2.1 (by decide) ?_
     exact k
    exact ⟨_, _, X34.more (by decide) (by decide), e41, N34, pre42⟩
 obtain ⟨T43, lc43, X43, e43, N43, pre43⟩ := J0
 obtain ⟨T44, X44, e44, st44⟩ := yag X43 hx hZ hown hby (w_20 hw) e43 P3 40 (l353_2 o1 o2) [(.int 3)] d2_40 d2_41 rfl
 obtain ⟨T45, X45, e45, st45⟩ := yag X44 hx hZ hown hby (w_34 hw) e44 P2 53 (l353_2 o1 o2) [] d2_53 d2_54 rfl
 obtain ⟨T46, X46, e46, st46⟩ := yag X45 hx hZ hown hby (w_20 hw) e45 P3 60 (l353_2 o1 o2) [(.int 3)] d2_60 d2_61 rfl
 obtain ⟨T47, X47, e47, st47⟩ := yag X46 hx hZ hown hby (w_18 hw) e46 P1 69 (l353_4 o1 o2) [(.int 9)] d2_69 d2_70 rfl
 obtain ⟨cl48, Ar48, qa48, Sa48, Na48, Ha48, Ga48⟩ := id (P6)
 obtain ⟨T49, X49, e49, st49⟩ := yag X47 hx hZ hown hby (w_18 hw) e47 P1 78 (l353_4 o1 o2) [(.ref o1)] d2_78 d2_79 rfl
 obtain ⟨T50, X50, e50, st50⟩ := yag X49 hx hZ hown hby (w_18 hw) e49 P1 84 (l353_4 o1 o2) [(.int 9), (.ref o3), (.ref o1)] d2_84 d2_85 rfl
 obtain ⟨cl51, Ar51, qa51, Sa51, Na51, Ha51, Ga51⟩ := id (P6)
 obtain ⟨T52, X52, e52, st52⟩ := yag X50 hx hZ hown hby (w_18 hw) e50 P1 89 (l353_4 o1 o2) [(.int 6), (.int 9), (.ref o3), (.ref o1)] d2_89 d2_90 rfl
 obtain ⟨cl53, Ar53, qa53, Sa53, Na53, Ha53, Ga53⟩ := id (P6)
 obtain ⟨_, T54, L54, X54, hQ54, st54⟩ := own_cs X52 hx hZ hown (y := yn3) (w_30 hw) (w_31 hw) (w_33 hw) (w_32 hw) e52 (argsL := [(.int 9), (.int 9)]) (rest := [(.ref o3), (.ref o1)]) (rm4 l Z a0 hw [] ((9 : Int32)) ((9 : Int32)) h0 n0 O0 ) (g := (mkF m 97 (l353_4 o1 o2) [(.int 9), (.int 9), (.ref o3), (.ref o1)])) rfl (by rw [hml]; rfl) rfl (hb hby d2_97) (lenOf pd0 rfl) (W := 2) (c1 := 0) (s1 := 0)
 have pre55 : Go p e below T52 (mkF m 97 (l353_4 o1 o2) [(.int 9), (.int 9), (.ref o3), (.ref o1)]) E0 := fun t k => by
  refine pre43 _ ?_
  refine yil X43 hx hby d2_38 rfl ?_
  refine st44 _ ?_
  refine yye X44 hx hby 44 53 rfl d2_44 (flt (by decide : ¬ ((3 : Int32) < (3 : Int32)))).2.2.2 (by decide) ?_
  refine st45 _ ?_
  refine yil X45 hx hby d2_57 rfl ?_
  refine yad X45 hx hby d2_59 ?_
  refine st46 _ ?_
  refine XS.imul X46.here hx rfl (hb hby d2_64) rfl ?_
  refine yis X46 hx hby d2_65 (l' := (l353_4 o1 o2)) rfl ?_
  refine yil X46 hx hby d2_67 rfl ?_
  refine st47 _ ?_
  refine X47.arraylength hx (by rw [e47]; exact Ar48.1) (State.isArrayOf_alike hZ.alike Ar48.2.1) (g := (mkF m 73 (l353_4 o1 o2) [(.ref o3), (.int 9)])) rfl rfl (hb hby d2_73) _ ?_
  rw [len_of Sa48 Na48]
  refine yno X47 hx hby d2_74 (tlt (by decide : (6 : Int32) < (9 : Int32))).2.2.2 ?_
  refine yan X47 hx hby d2_77 rfl rfl ?_
  refine st49 _ ?_
  refine yil X49 hx hby d2_82 rfl ?_
  refine st50 _ ?_
  refine X50.arraylength hx (by rw [e50]; exact Ar51.1) (State.isArrayOf_alike hZ.alike Ar51.2.1) (g := (mkF m 88 (l353_4 o1 o2) [(.ref o3), (.int 9), (.ref o3), (.ref o1)])) rfl rfl (hb hby d2_88) _ ?_
  rw [len_of Sa51 Na51]
  refine st52 _ ?_
  refine X52.arraylength hx (by rw [e52]; exact Ar53.1) (State.isArrayOf_alike hZ.alike Ar53.2.1) (g := (mkF m 93 (l353_4 o1 o2) [(.ref o3), (.int 6), (.int 9), (.ref o3), (.ref o1)])) rfl rfl (hb hby d2_93) _ ?_
  rw [len_of Sa53 Na53]
  refine XS.iconst X52.here hx rfl (hb hby d2_94) ?_
  refine XS.idiv X52.here hx rfl (hb hby d2_95) rfl (by decide : ¬ ((2 : Int32) = (0 : Int32))) ?_
  refine yad X52 hx hby d2_96 ?_
  exact k
 rcases hQ54 with ⟨hc56, rfl, Nq57, e58⟩ | ⟨hc59, rfl, Nq60, e61⟩
 ·
  exact absurd hc56 (by decide : ¬ ((9 : Int32) < (9 : Int32)))
 ·
  have N54 := Fr.app N43 Nq60
  obtain ⟨_, T62, L62, X62, hQ62, st62⟩ := own_cs X54 hx hZ hown (y := yn5) (own_w hw 36 rfl) (w_37 hw) (own_w hw 39 rfl) (w_38 hw) e61 (argsL := [(.ref o3), (.int 9)]) (rest := [(.ref o1)]) (rm26 l Z a0 hw [] o3 kc8 p9 p10 p11 p12 p13 p14 h0 n0 O0 g_o3 P6) (g := (mkF m 100 (l353_4 o1 o2) [(.int 9), (.ref o3), (.ref o1)])) rfl (by rw [hml]; rfl) rfl (hb hby d2_100) (lenOf pd3 rfl) (W := 1) (c1 := 1) (s1 := 9)
  obtain ⟨b63, k64, rfl, Nq65, K66, sz_b63, f67, f68⟩ := hQ62
  have N62 := Fr.app N54 Nq65
  have g_b63 : n0 ≤ b63 := Nat.le_trans (own_oz O0) sz_b63
  have O62 := Old.keep O0 K66 all0
  have f69 := (P1.keep K66 nin0)
  have f70 := (P0.keep K66)
  obtain ⟨T71, h71, X71, e71, W71, st71⟩ := putF X62 hx hZ hown (host := "") (Or.inl (w_18 hw)) Via.refl rfl f69 f70 (Or.inl (w_19 hw)) (w_8 hw) (ty := (.array .byte)) (by decide) rfl rfl (g := (mkF m 103 (l353_4 o1 o2) [(.ref b63), (.ref o1)])) rfl rfl (hb hby d2_103)
  have N71 := Fr.snoc X71 N62 g_o1
  have Fw71 := f69.same W71
  have O71 := Old.wr O62 W71 g_o1
  obtain ⟨T72, X72, e72, st72⟩ := yag X71 hx hZ hown hby (w_18 hw) e71 Fw71 106 (l353_4 o1 o2) [] d2_106 d2_107 rfl
  have f73 := ((P3.keep K66 nin0).other W71 (Or.inr (slot_ne (Or.inl (w_21 hw)) (Or.inl (w_19 hw)) (by decide) (t := .int) (t' := (.array .byte)) (by decide) (by decide))))
  obtain ⟨T74, X74, e74, st74⟩ := yag X72 hx hZ hown hby (w_20 hw) e72 f73 111 (l353_4 o1 o2) [(.int 2), (.ref b63)] d2_111 d2_112 rfl
  obtain ⟨T75, X75, e75, st75⟩ := yag X74 hx hZ hown hby (w_18 hw) e74 Fw71 116 (l353_4 o1 o2) [(.int 6), (.ref b63)] d2_116 d2_117 rfl
  obtain ⟨T76, X76, e76, st76⟩ := yag X75 hx hZ hown hby (w_20 hw) e75 f73 124 (l353_4 o1 o2) [(.int 3), (.ref b63), (.int 6), (.ref b63)] d2_124 d2_125 rfl
  have f77 := ((P2.keep K66 nin0).other W71 (Or.inr (slot_ne (Or.inl (w_35 hw)) (Or.inl (w_19 hw)) (by decide) (t := .int) (t' := (.array .byte)) (by decide) (by decide))))
  obtain ⟨T78, X78, e78, st78⟩ := yag X76 hx hZ hown hby (w_34 hw) e76 f77 129 (l353_4 o1 o2) [(.int 9), (.ref b63), (.int 6), (.ref b63)] d2_129 d2_130 rfl
  obtain ⟨T79, X79, e79, st79⟩ := yag X78 hx hZ hown hby (w_20 hw) e78 f73 135 (l353_4 o1 o2) [(.int 0), (.int 9), (.ref b63), (.int 6), (.ref b63)] d2_135 d2_136 rfl
  have lt80 : o1 < h0.size := P0.lt
  have ne81 : o1 ≠ b63 := Nat.ne_of_lt (Nat.lt_of_lt_of_le lt80 sz_b63)
  have f82 := (f67.other W71 (Ne.symm ne81))
  obtain ⟨T83, h83, L83, X83, e83, N83, K83, VV83, st83⟩ := cpA X79 hx hZ hown (own_w hw 48 rfl) (w_47 hw) (w_45 hw) (w_46 hw) e79 (us := []) f82 f82 (Or.inl ⟨rfl, rfl⟩) (by decide) (by decide) (by decide) (by decide) (by decide) rfl (by first | decide | exact (by decide : 9 + 0 ≤ 9)) N71 g_b63 (g := (mkF m 140 (l353_4 o1 o2) [(.int 0), (.int 9), (.ref b63), (.int 6), (.ref b63)])) rfl (by rw [hml]; rfl) rfl (hb hby d2_140) (by decide) (W := 0) (by show 2 * 0 + _ ≤ _; exact Nat.le_of_eq rfl) (by decide)
  have V83 : Arv Z h83 b63 k64 .byte (9 : Int32) [(.int p9), (.int p10), (.int p11), (.int p12), (.int p13), (.int p14), (.int 0), (.int 0), (.int 0)] (.int 0) := VV83
  have O83 := Old.keep O71 K83 (allS g_b63 all0)
  have f84 := (f77.keep K83 (ninS ne81 nin0))
  obtain ⟨T85, X85, e85, st85⟩ := yg X83 hx hZ hown hby (w_34 hw) e83 f84 145 (l353_4 o1 o2) [(.ref o1)] d2_145
  have f86 := ((f70.wr W71).keep K83)
  obtain ⟨T87, h87, X87, e87, W87, st87⟩ := putF X85 hx hZ hown (host := "") (Or.inl (w_34 hw)) Via.refl e85 f84 f86 (Or.inl (w_35 hw)) (w_8 hw) (ty := .int) (by decide) rfl rfl (g := (mkF m 151 (l353_4 o1 o2) [(.int 3), (.ref o1)])) rfl rfl (hb hby d2_151)
  have N87 := Fr.snoc X87 N83 g_o1
  have Fw87 := f84.same W87
  have O87 := Old.wr O83 W87 g_o1
  have f88 := ((((P5.keep K66).wr W71).keep K83).wr W87)
  have f89 := (f86.wr W87)
  have ne90 : o2 ≠ o1 := ne_exa f88 f89 (by decide)
  have lt91 : o2 < h0.size := P4.lt
  have ne92 : o2 ≠ b63 := Nat.ne_of_lt (Nat.lt_of_lt_of_le lt91 sz_b63)
  have f93 := ((((P4.keep K66 nin0).other W71 ne90).keep K83 (ninS ne92 nin0)).other W87 ne90)
  obtain ⟨cl94, Ar94, qa94, Sa94, Na94, Ha94, Ga94⟩ := id (f93)
  have hin94 := inb_of (j := (2 : Int32)) Sa94 ⟨by decide, by decide⟩
  have hat94 : cl94.slots[((2 : Int32)).toNatClampNeg]? = some (.int p7) := Has.at Ha94 hin94 rfl
  have f95 := ((Fw71.keep K83 (ninS ne81 nin0)).other W87 (Or.inr (slot_ne (Or.inl (w_19 hw)) (Or.inl (w_35 hw)) (by decide) (t := (.array .byte)) (t' := .int) (by decide) (by decide))))
  have f96 := ((f73.keep K83 (ninS ne81 nin0)).other W87 (Or.inr (slot_ne (Or.inl (w_21 hw)) (Or.inl (w_35 hw)) (by decide) (t := .int) (t' := .int) (by decide) (by decide))))
  have f97 := (V83.other W87 (Ne.symm ne81))
  have f98 := (((f68.wr W71).keep K83).wr W87)
  obtain ⟨_, T99, L99, X99, hQ99, st99⟩ := own_pb X87 hx hZ hown (y := yn6) (w_49 hw) (w_50 hw) (own_selp (mvT hZ (w_25 hw)) rfl (Cond.privateMethod_at (mvP hZ (w_51 hw) (args := #[]))) (mvT hZ (w_50 hw)) (by decide)) (w_51 hw) (own_w hw 52 rfl) (w_9 hw) e87 f89 (argsL := [(.int 2), (.int p7)]) (rest := []) (rm54 l Z a0 hw [] o1 b63 k64 p9 p10 p11 p12 p13 p14 p7 h87 n0 O87 g_o1 g_b63 f89 f95 f96 f97 f98) (g := (mkF m 175 (l353_0 o1 o2) [(.int p7), (.int 2), (.ref o1)])) rfl (by rw [hml]; rfl) rfl (hb hby d2_175) (lenOf pd4 rfl) (W := 0) (c1 := 1) (s1 := 9)
  obtain ⟨rfl, Nq100, K101, f102, f103⟩ := hQ99
  have N99 := Fr.app N87 Nq100
  obtain ⟨fs, hr, hrun, hended, hW, hsame⟩ := X99.leave (v := none) (fun _ => rfl)
  have KL : Keep h0 T99.heap [o1] := ((((((Keep.refl h0 [o1]).trans K66 all0).wr W71 (Or.inl (List.mem_of_getElem? (i := 0) rfl))).trans K83 (allS (Or.inr (Nat.le_trans (Nat.le_refl _) sz_b63)) all0)).wr W87 (Or.inl (List.mem_of_getElem? (i := 0) rfl))).trans K101 (allS (Or.inr (Nat.le_trans (Nat.le_refl _) sz_b63)) all0))
  have f104 := (f89.keep K101)
  have f105 := (f95.keep K101 (ninS ne81 nin0))
  have f106 := (Fw87.keep K101 (ninS ne81 nin0))
  have f107 := (f96.keep K101 (ninS ne81 nin0))
  refine ⟨_, _, pre55 _ ?_, hrun, hended, _, _, rfl, ?_, ⟨_, rfl⟩, hW, hsame.mono (by decide) (by decide)⟩
  ·
   refine st54 _ ?_
   refine st62 _ ?_
   refine st71 _ ?_
   refine st72 _ ?_
   refine yin X72 hx hby d2_110 rfl ?_
   refine st74 _ ?_
   refine XS.imul X74.here hx rfl (hb hby d2_115) rfl ?_
   show Steps p.tables e below (T74.setTop (mkF m 116 (l353_4 o1 o2) [(.int 6), (.ref b63)])) _
   refine st75 _ ?_
   refine yin X75 hx hby d2_120 rfl ?_
   refine yil X75 hx hby d2_121 rfl ?_
   refine yad X75 hx hby d2_123 ?_
   refine st76 _ ?_
   refine XS.imul X76.here hx rfl (hb hby d2_128) rfl ?_
   refine st78 _ ?_
   refine yin X78 hx hby d2_133 rfl ?_
   refine ysu X78 hx hby d2_134 ?_
   refine st79 _ ?_
   refine XS.imul X79.here hx rfl (hb hby d2_139) rfl ?_
   refine st83 _ ?_
   refine yan X83 hx hby d2_143 rfl rfl ?_
   refine XS.dup X83.here hx rfl (hb hby d2_144) rfl rfl ?_
   refine st85 _ ?_
   refine yil X85 hx hby d2_148 rfl ?_
   refine yad X85 hx hby d2_150 ?_
   refine st87 _ ?_
   refine XS.iconst X87.here hx rfl (hb hby d2_154) ?_
   refine yis X87 hx hby d2_155 (l' := (l353_0 o1 o2)) rfl ?_
   refine yil X87 hx hby d2_157 rfl ?_
   refine yil X87 hx hby d2_159 rfl ?_
   refine yno X87 hx hby d2_161 (tlt (by decide : (0 : Int32) < (1 : Int32))).2.1 ?_
   refine yan X87 hx hby d2_164 rfl rfl ?_
   refine yin X87 hx hby d2_165 rfl ?_
   refine yil X87 hx hby d2_166 rfl ?_
   refine yad X87 hx hby d2_168 ?_
   refine yan X87 hx hby d2_169 rfl rfl ?_
   refine yin X87 hx hby d2_170 rfl ?_
   refine yil X87 hx hby d2_171 rfl ?_
   refine yad X87 hx hby d2_173 ?_
   refine X87.iaload hx (j := (2 : Int32)) (v := (.int p7)) (by rw [e87]; exact Ar94.1) (State.isArrayOf_alike hZ.alike Ar94.2.1) Ar94.2.2 hin94 hat94 (g := (mkF m 174 (l353_0 o1 o2) [(.int 2), (.ref o2), (.int 2), (.ref o1)])) rfl rfl (hb hby d2_174) _ ?_
   refine st99 _ ?_
   refine XS.iinc X99.here hx rfl (hb hby d2_178) rfl (l' := (l353_1 o1 o2)) rfl ?_
   refine ygo X99 hx hby 181 157 rfl d2_181 (by decide) ?_
   refine yil X99 hx hby d2_157 rfl ?_
   refine yil X99 hx hby d2_159 rfl ?_
   show Steps p.tables e below (T99.setTop (mkF m 161 (l353_1 o1 o2) [(.int 1), (.int 1)])) _
   refine yye X99 hx hby 161 184 rfl d2_161 (flt (by decide : ¬ ((1 : Int32) < (1 : Int32)))).2.1 (by decide) ?_
   show Steps p.tables e below (T99.setTop (mkF m 184 (l353_1 o1 o2) [])) _
   exact X99.returnOut hx hret (hb hby d2_184) hr
  ·
   show Q57 Z o1 o2 o3 kc4 p5 p6 p7 kc8 p9 p10 p11 p12 p13 p14 h0 n0 _ T99.heap _
   exact ⟨b63, k64, rfl, N99, KL, (Nat.le_trans (Nat.le_refl _) sz_b63), f104, f105, f106, f107, f102, f103⟩
def l354_0 (p1 p2 : Int32) (p3 p4 : Int32) (p5 z2 : Int32) (z6 z10 : Int32) (b158 b165 : Addr) : Array Slot := #[.val (.int p1), .val (.int p2), .val (.int p3), .val (.int p4), .val (.int p5), .val (.int z2), .val (.int z6), .val (.int z10), .val (.int 1), .val (.ref b158), .val (.ref b165), .val (.int z2), .val (.int z10), .val (.int z6)]
def l354_1 (p1 p2 : Int32) (p3 p4 : Int32) (p5 z2 : Int32) (z6 z10 : Int32) (b300 b307 : Addr) : Array Slot := #[.val (.int p1), .val (.int p2), .val (.int p3), .val (.int p4), .val (.int p5), .val (.int z2), .val (.int z6), .val (.int z10), .val (.int 2), .val (.ref b300), .val (.ref b307), .val (.int z2), .val (.int z6), .val (.int z10)]
def l354_2 (p1 p2 : Int32) (p3 p4 : Int32) (p5 z2 : Int32) (z6 z10 : Int32) (b16 b23 : Addr) : Array Slot := #[.val (.int p1), .val (.int p2), .val (.int p3), .val (.int p4), .val (.int p5), .val (.int z2), .val (.int z6), .val (.int z10), .val (.int 0), .val (.ref b16), .val (.ref b23), .val (.int z10), .val (.int z2), .val (.int z6)]
def l354_3 (p1 p2 : Int32) (p3 p4 : Int32) (p5 z2 : Int32) (z6 z10 : Int32) (b158 b165 : Addr) : Array Slot := #[.val (.int p1), .val (.int p2), .val (.int p3), .val (.int p4), .val (.int p5), .val (.int z2), .val (.int z6), .val (.int z10), .val (.int 1), .val (.ref b158), .val (.ref b165), .val (.int z2), .val (.int z10), .unset]
def l354_4 (p1 p2 : Int32) (p3 p4 : Int32) (p5 z2 : Int32) (z6 z10 : Int32) (b300 b307 : Addr) : Array Slot := #[.val (.int p1), .val (.int p2), .val (.int p3), .val (.int p4), .val (.int p5), .val (.int z2), .val (.int z6), .val (.int z10), .val (.int 2), .val (.ref b300), .val (.ref b307), .val (.int z2), .val (.int z6), .unset]
def l354_5 (p1 p2 : Int32) (p3 p4 : Int32) (p5 z2 : Int32) (z6 z10 : Int32) (b16 b23 : Addr) : Array Slot := #[.val (.int p1), .val (.int p2), .val (.int p3), .val (.int p4), .val (.int p5), .val (.int z2), .val (.int z6), .val (.int z10), .val (.int 0), .val (.ref b16), .val (.ref b23), .val (.int z10), .val (.int z2), .unset]
def l354_6 (p1 p2 : Int32) (p3 p4 : Int32) (p5 z2 : Int32) (z6 z10 : Int32) (b158 b165 : Addr) : Array Slot := #[.val (.int p1), .val (.int p2), .val (.int p3), .val (.int p4), .val (.int p5), .val (.int z2), .val (.int z6), .val (.int z10), .val (.int 1), .val (.ref b158), .val (.ref b165), .val (.int z2), .unset, .unset]
def l354_7 (p1 p2 : Int32) (p3 p4 : Int32) (p5 z2 : Int32) (z6 z10 : Int32) (b300 b307 : Addr) : Array Slot := #[.val (.int p1), .val (.int p2), .val (.int p3), .val (.int p4), .val (.int p5), .val (.int z2), .val (.int z6), .val (.int z10), .val (.int 2), .val (.ref b300), .val (.ref b307), .val (.int z2), .unset, .unset]
def l354_8 (p1 p2 : Int32) (p3 p4 : Int32) (p5 z2 : Int32) (z6 z10 : Int32) (b16 b23 : Addr) : Array Slot := #[.val (.int p1), .val (.int p2), .val (.int p3), .val (.int p4), .val (.int p5), .val (.int z2), .val (.int z6), .val (.int z10), .val (.int 0), .val (.ref b16), .val (.ref b23), .val (.int z10), .unset, .unset]
def l354_9 (p1 p2 : Int32) (p3 p4 : Int32) (p5 z2 : Int32) (z6 z10 : Int32) (b158 b165 : Addr) : Array Slot := #[.val (.int p1), .val (.int p2), .val (.int p3), .val (.int p4), .val (.int p5), .val (.int z2), .val (.int z6), .val (.int z10), .val (.int 1), .val (.ref b158), .val (.ref b165), .unset, .unset, .unset]
def l354_10 (p1 p2 : Int32) (p3 p4 : Int32) (p5 z2 : Int32) (z6 z10 : Int32) (b300 b307 : Addr) : Array Slot := #[.val (.int p1), .val (.int p2), .val (.int p3), .val (.int p4), .val (.int p5), .val (.int z2), .val (.int z6), .val (.int z10), .val (.int 2), .val (.ref b300), .val (.ref b307), .unset, .unset, .unset]
def l354_11 (p1 p2 : Int32) (p3 p4 : Int32) (p5 z2 : Int32) (z6 z10 : Int32) (b16 b23 : Addr) : Array Slot := #[.val (.int p1), .val (.int p2), .val (.int p3), .val (.int p4), .val (.int p5), .val (.int z2), .val (.int z6), .val (.int z10), .val (.int 0), .val (.ref b16), .val (.ref b23), .unset, .unset, .unset]
def l354_12 (p1 p2 : Int32) (p3 p4 : Int32) (p5 z2 : Int32) (z6 z10 : Int32) (b158 : Addr) : Array Slot := #[.val (.int p1), .val (.int p2), .val (.int p3), .val (.int p4), .val (.int p5), .val (.int z2), .val (.int z6), .val (.int z10), .val (.int 1), .val (.ref b158), .unset, .unset, .unset, .unset]
def l354_13 (p1 p2 : Int32) (p3 p4 : Int32) (p5 z2 : Int32) (z6 z10 : Int32) (b300 : Addr) : Array Slot := #[.val (.int p1), .val (.int p2), .val (.int p3), .val (.int p4), .val (.int p5), .val (.int z2), .val (.int z6), .val (.int z10), .val (.int 2), .val (.ref b300), .unset, .unset, .unset, .unset]
def l354_14 (p1 p2 : Int32) (p3 p4 : Int32) (p5 z2 : Int32) (z6 z10 : Int32) (b16 : Addr) : Array Slot := #[.val (.int p1), .val (.int p2), .val (.int p3), .val (.int p4), .val (.int p5), .val (.int z2), .val (.int z6), .val (.int z10), .val (.int 0), .val (.ref b16), .unset, .unset, .unset, .unset]
def l354_15 (p1 p2 : Int32) (p3 p4 : Int32) (p5 z2 : Int32) (z6 z10 : Int32) : Array Slot := #[.val (.int p1), .val (.int p2), .val (.int p3), .val (.int p4), .val (.int p5), .val (.int z2), .val (.int z6), .val (.int z10), .val (.int 0), .unset, .unset, .unset, .unset, .unset]
def l354_16 (p1 p2 : Int32) (p3 p4 : Int32) (p5 z2 : Int32) (z6 z10 : Int32) : Array Slot := #[.val (.int p1), .val (.int p2), .val (.int p3), .val (.int p4), .val (.int p5), .val (.int z2), .val (.int z6), .val (.int z10), .val (.int 1), .unset, .unset, .unset, .unset, .unset]
def l354_17 (p1 p2 : Int32) (p3 p4 : Int32) (p5 z2 : Int32) (z6 z10 : Int32) : Array Slot := #[.val (.int p1), .val (.int p2), .val (.int p3), .val (.int p4), .val (.int p5), .val (.int z2), .val (.int z6), .val (.int z10), .val (.int 2), .unset, .unset, .unset, .unset, .unset]
def l354_18 (p1 p2 : Int32) (p3 p4 : Int32) (p5 z2 : Int32) (z6 z10 : Int32) : Array Slot := #[.val (.int p1), .val (.int p2), .val (.int p3), .val (.int p4), .val (.int p5), .val (.int z2), .val (.int z6), .val (.int z10), .unset, .unset, .unset, .unset, .unset, .unset]
def l354_19 (p1 p2 : Int32) (p3 p4 : Int32) (p5 z2 : Int32) : Array Slot := #[.val (.int p1), .val (.int p2), .val (.int p3), .val (.int p4), .val (.int p5), .val (.int z2), .unset, .unset, .unset, .unset, .unset, .unset, .unset, .unset]
theorem ef0 (m : MethodId) (x0 x1 : Int32) (x2 x3 x4 : Int32) : entryFrame m #[(.int x0), (.int x1), (.int x2), (.int x3), (.int x4)] maxLocals = mkF m 0 #[.val (.int x0), .val (.int x1), .val (.int x2), .val (.int x3), .val (.int x4), .unset, .unset, .unset, .unset, .unset, .unset, .unset, .unset, .unset] [] := by first | (simp [entryFrame, mkF, argsToLocals, Value.category, maxLocals]; done) | rfl
set_option maxRecDepth 65536 in
set_option maxHeartbeats 40000000 in
theorem rm0 (l : Launch) (Z : State) (a0 : Array Value) (hw : HW a0 Z) (w1 : Addr) (kw1 : ClassId) (G : GW Z w1 kw1) (ws : List Jvm.Cond) (p1 p2 : Int32) (p3 p4 p5 : Int32) (h0 : Heap) (n0 : Nat) (O0 : Old Z n0 h0) :
    MetFree l x (head1 (Jvm.Cond.code x code maxLocals ret :: ws) room_1) (fun a U => a = #[(.int p1), (.int p2), (.int p3), (.int p4), (.int p5)] ∧ Z.Warmed39 U.vm ∧ U.heap = h0) (fun _ _ _ _ _ => True) (fun _ U o U' => ∃ v L, o = .returned v ∧ Q0 n0 v U'.heap L ∧ FrameEnd U o U' L 24 128) := by
 obtain ⟨S_w1, E_w1, A_w1⟩ := id G
 refine MetFree.of_bodySF (plainFor_of_name pn0) hisR ?_
 intro p e s m args below meth c s₁ Bd hml hP hK
 obtain ⟨rfl, hZ, hh⟩ := hP
 obtain ⟨hx, hby, hown, hret, hlk, X0, e0, N0⟩ := own_bd Bd hh n0
 have pre0 := own_ct s₁ (p := p) (e := e) (below := below) (ef0 m p1 p2 p3 p4 p5)
 revert pre0
 generalize s₁.setTop (entryFrame m #[(.int p1), (.int p2), (.int p3), (.int p4), (.int p5)] maxLocals) = E0
 intro pre0
 obtain ⟨_, T1, L1, X1, hQ1, st1⟩ := own_cs X0 hx hZ hown (y := yn0) (own_w hw 0 rfl) (own_w hw 1 rfl) (own_w hw 3 rfl) (own_w hw 2 rfl) e0 (argsL := [(.int p1), (.int (p4 &&& (3 : Int32)))]) (rest := []) (rm1 l Z a0 hw [] p1 ((p4 &&& (3 : Int32))) h0 n0 O0 ) (g := (mkF m 4 #[.val (.int p1), .val (.int p2), .val (.int p3), .val (.int p4), .val (.int p5), .unset, .unset, .unset, .unset, .unset, .unset, .unset, .unset, .unset] [(.int (p4 &&& (3 : Int32))), (.int p1)])) rfl (by rw [hml]; rfl) rfl (hb hby at_4) (lenOf pd0 rfl) (W := 0) (c1 := 0) (s1 := 0)
 obtain ⟨z2, bz2, rfl, Nq3, e4⟩ := hQ1
 have N1 := Fr.app N0 Nq3
 obtain ⟨_, T5, L5, X5, hQ5, st5⟩ := own_cs X1 hx hZ hown (y := yn0) (own_w hw 0 rfl) (own_w hw 1 rfl) (own_w hw 3 rfl) (own_w hw 2 rfl) e4 (argsL := [(.int p2), (.int (((p4.toUInt32 >>> ((2 : Int32) &&& 31).toUInt32).toInt32) &&& (3 : Int32)))]) (rest := []) (rm1 l Z a0 hw [] p2 ((((p4.toUInt32 >>> ((2 : Int32) &&& 31).toUInt32).toInt32) &&& (3 : Int32))) h0 n0 O0 ) (g := (mkF m 15 (l354_19 p1 p2 p3 p4 p5 z2) [(.int (((p4.toUInt32 >>> ((2 : Int32) &&& 31).toUInt32).toInt32) &&& (3 : Int32))), (.int p2)])) rfl (by rw [hml]; rfl) rfl (hb hby at_15) (lenOf pd0 rfl) (W := 0) (c1 := 0) (s1 := 0)
 obtain ⟨z6, bz6, rfl, Nq7, e8⟩ := hQ5
 have N5 := Fr.app N1 Nq7
 obtain ⟨_, T9, L9, X9, hQ9, st9⟩ := own_cs X5 hx hZ hown (y := yn0) (own_w hw 0 rfl) (own_w hw 1 rfl) (own_w hw 3 rfl) (own_w hw 2 rfl) e8 (argsL := [(.int p3), (.int (((p4.toUInt32 >>> ((4 : Int32) &&& 31).toUInt32).toInt32) &&& (3 : Int32)))]) (rest := []) (rm1 l Z a0 hw [] p3 ((((p4.toUInt32 >>> ((4 : Int32) &&& 31).toUInt32).toInt32) &&& (3 : Int32))) h0 n0 O0 ) (g := (mkF m 26 #[.val (.int p1), .val (.int p2), .val (.int p3), .val (.int p4), .val (.int p5), .val (.int z2), .val (.int z6), .unset, .unset, .unset, .unset, .unset, .unset, .unset] [(.int (((p4.toUInt32 >>> ((4 : Int32) &&& 31).toUInt32).toInt32) &&& (3 : Int32))), (.int p3)])) rfl (by rw [hml]; rfl) rfl (hb hby at_26) (lenOf pd0 rfl) (W := 0) (c1 := 0) (s1 := 0)
 obtain ⟨z10, bz10, rfl, Nq11, e12⟩ := hQ9
 have N9 := Fr.app N5 Nq11
 have pre13 : Go p e below T9 (mkF m 38 (l354_18 p1 p2 p3 p4 p5 z2 z6 z10) [(.int ((p5 &&& (2147483647 : Int32)) % (3 : Int32)))]) E0 := fun t k => by
  refine pre0 _ ?_
  refine yin X0 hx hby at_0 rfl ?_
  refine yin X0 hx hby at_1 rfl ?_
  refine XS.iconst X0.here hx rfl (hb hby at_2) ?_
  refine XS.iand X0.here hx rfl (hb hby at_3) rfl ?_
  refine st1 _ ?_
  refine yis X1 hx hby at_7 (l' := (l354_19 p1 p2 p3 p4 p5 z2)) rfl ?_
  refine yin X1 hx hby at_9 rfl ?_
  refine yin X1 hx hby at_10 rfl ?_
  refine XS.iconst X1.here hx rfl (hb hby at_11) ?_
  refine XS.iushr X1.here hx rfl (hb hby at_12) rfl ?_
  refine XS.iconst X1.here hx rfl (hb hby at_13) ?_
  refine XS.iand X1.here hx rfl (hb hby at_14) rfl ?_
  refine st5 _ ?_
  refine yis X5 hx hby at_18 (l' := #[.val (.int p1), .val (.int p2), .val (.int p3), .val (.int p4), .val (.int p5), .val (.int z2), .val (.int z6), .unset, .unset, .unset, .unset, .unset, .unset, .unset]) rfl ?_
  refine yin X5 hx hby at_20 rfl ?_
  refine yin X5 hx hby at_21 rfl ?_
  refine XS.iconst X5.here hx rfl (hb hby at_22) ?_
  refine XS.iushr X5.here hx rfl (hb hby at_23) rfl ?_
  refine XS.iconst X5.here hx rfl (hb hby at_24) ?_
  refine XS.iand X5.here hx rfl (hb hby at_25) rfl ?_
  refine st9 _ ?_
  refine yis X9 hx hby at_29 (l' := (l354_18 p1 p2 p3 p4 p5 z2 z6 z10)) rfl ?_
  refine yil X9 hx hby at_31 rfl ?_
  refine X9.ldcInt hx hown (mvT hZ (own_w hw 5 rfl)) (g := (mkF m 33 (l354_18 p1 p2 p3 p4 p5 z2 z6 z10) [(.int p5)])) rfl (hb hby at_33) _ ?_
  refine XS.iand X9.here hx rfl (hb hby at_35) rfl ?_
  refine XS.iconst X9.here hx rfl (hb hby at_36) ?_
  refine iremM X9 hx rfl (hb hby at_37) rfl (by decide : ¬ ((3 : Int32) = (0 : Int32))) ?_
  exact k
 by_cases hc14 : ((p5 &&& (2147483647 : Int32)) % (3 : Int32)) = (0 : Int32)
 ·
  have pre15 : Go p e below T9 (mkF m 38 (l354_18 p1 p2 p3 p4 p5 z2 z6 z10) [(.int 0)]) E0 := fun t k => pre13 t (by rw [hc14]; exact k)
  obtain ⟨T16, h16, k16, X16, e16, E16, A16, EX16, st16⟩ := newPE X9 hx hZ (own_w hw 6 rfl) e12 (g := (mkF m 41 (l354_15 p1 p2 p3 p4 p5 z2 z6 z10) [(.int 3)])) rfl (hb hby at_41) rfl (by decide) (cap := 3) (by decide) (by decide) (by decide) (by decide) (ad := "[I") (by decide)
  obtain ⟨b16, g16⟩ : ∃ z, z = h0.size := ⟨_, rfl⟩
  rw [← g16] at A16 EX16 st16
  have M16 : h0.size ≤ h16.size := Nat.le_trans (Nat.le_refl _) E16.1
  have O16 := Old.ext O0 E16
  have sz_b16 : h0.size ≤ b16 := Nat.le_of_eq g16.symm
  have g_b16 : n0 ≤ b16 := Nat.le_trans (own_oz O0) (Nat.le_trans (Nat.le_refl _) sz_b16)
  have V16_0 := Arv.new A16 (by decide)
  have V16 : Arv Z h16 b16 k16 .int (3 : Int32) [(.int 0), (.int 0), (.int 0)] (.int 0) := V16_0.pad (pad_rep [] (.int 0) 3)
  obtain ⟨cl17, Ar17, qa17, Sa17, Na17, Ha17, Ga17⟩ := id (V16)
  have hin17 := inb_of (j := (0 : Int32)) Sa17 ⟨by decide, by decide⟩
  obtain ⟨T18, h18, X18, e18, W18, st18⟩ := stI X16 hx hZ e16 Ar17 (j := (0 : Int32)) hin17 (g := (mkF m 47 (l354_15 p1 p2 p3 p4 p5 z2 z6 z10) [(.int z2), (.int 0), (.ref b16), (.ref b16)])) rfl rfl (hb hby at_47)
  have V18 : Arv Z h18 b16 k16 .int (3 : Int32) [(.int z2), (.int 0), (.int 0)] (.int 0) := Arv.set Ar17 qa17 Sa17 Na17 Ha17 Ga17 rfl W18 0 rfl (Nat.le_of_ble_eq_true rfl)
  have N18 := Fr.snoc X18 N9 g_b16
  have M18 : h0.size ≤ h18.size := Nat.le_trans M16 (Nat.le_of_eq W18.size.symm)
  have O18 := Old.wr O16 W18 g_b16
  obtain ⟨cl19, Ar19, qa19, Sa19, Na19, Ha19, Ga19⟩ := id (V18)
  have hin19 := inb_of (j := (1 : Int32)) Sa19 ⟨by decide, by decide⟩
  obtain ⟨T20, h20, X20, e20, W20, st20⟩ := stI X18 hx hZ e18 Ar19 (j := (1 : Int32)) hin19 (g := (mkF m 52 (l354_15 p1 p2 p3 p4 p5 z2 z6 z10) [(.int z6), (.int 1), (.ref b16), (.ref b16)])) rfl rfl (hb hby at_52)
  have V20 : Arv Z h20 b16 k16 .int (3 : Int32) [(.int z2), (.int z6), (.int 0)] (.int 0) := Arv.set Ar19 qa19 Sa19 Na19 Ha19 Ga19 rfl W20 1 rfl (Nat.le_of_ble_eq_true rfl)
  have N20 := Fr.snoc X20 N18 g_b16
  have M20 : h0.size ≤ h20.size := Nat.le_trans M18 (Nat.le_of_eq W20.size.symm)
  have O20 := Old.wr O18 W20 g_b16
  obtain ⟨cl21, Ar21, qa21, Sa21, Na21, Ha21, Ga21⟩ := id (V20)
  have hin21 := inb_of (j := (2 : Int32)) Sa21 ⟨by decide, by decide⟩
  obtain ⟨T22, h22, X22, e22, W22, st22⟩ := stI X20 hx hZ e20 Ar21 (j := (2 : Int32)) hin21 (g := (mkF m 57 (l354_15 p1 p2 p3 p4 p5 z2 z6 z10) [(.int z10), (.int 2), (.ref b16), (.ref b16)])) rfl rfl (hb hby at_57)
  have V22 : Arv Z h22 b16 k16 .int (3 : Int32) [(.int z2), (.int z6), (.int z10)] (.int 0) := Arv.set Ar21 qa21 Sa21 Na21 Ha21 Ga21 rfl W22 2 rfl (Nat.le_of_ble_eq_true rfl)
  have N22 := Fr.snoc X22 N20 g_b16
  have M22 : h0.size ≤ h22.size := Nat.le_trans M20 (Nat.le_of_eq W22.size.symm)
  have O22 := Old.wr O20 W22 g_b16
  obtain ⟨T23, h23, X23, e23, E23, A23, D23, -, st23⟩ := newO X22 hx hZ hown (own_w hw 7 rfl) (w_8 hw) (w_9 hw) e22 (g := (mkF m 60 (l354_14 p1 p2 p3 p4 p5 z2 z6 z10 b16) [])) rfl (hb hby at_60) (by decide) (by decide)
  obtain ⟨b23, g23⟩ : ∃ z, z = h22.size := ⟨_, rfl⟩
  rw [← g23] at A23 D23 st23
  have O23 := Old.ext O22 E23
  have sz_b23 : h22.size ≤ b23 := Nat.le_of_eq g23.symm
  have g_b23 : n0 ≤ b23 := Nat.le_trans (own_oz O0) (Nat.le_trans M22 sz_b23)
  have F23_19 : Fld Z h23 b23 "com/example/driftless/driftless/CodePoints" "bytes" "[B" .null := D23 (Or.inl (w_19 hw)) (ty := (.array .byte)) (by decide)
  have F23_21 : Fld Z h23 b23 "com/example/driftless/driftless/CodePoints" "width" "I" (.int 0) := D23 (Or.inl (w_21 hw)) (ty := .int) (by decide)
  have F23_35 : Fld Z h23 b23 "com/example/driftless/driftless/CodePoints" "length" "I" (.int 0) := D23 (Or.inl (w_35 hw)) (ty := .int) (by decide)
  obtain ⟨_, T24, L24, X24, hQ24, st24⟩ := own_sb X23 hx hZ hown (y := yn1) (own_w hw 10 rfl) (own_w hw 11 rfl) (own_w hw 12 rfl) (w_9 hw) e23 (a := b23) (argsL := []) (rest := [(.ref b23)]) (rm2 l Z a0 hw w1 kw1 G [] b23 h23 n0 O23 g_b23 A23 F23_19 F23_35 F23_21) (g := (mkF m 64 (l354_14 p1 p2 p3 p4 p5 z2 z6 z10 b16) [(.ref b23), (.ref b23)])) rfl (by rw [hml]; rfl) rfl (hb hby at_64) (lenOf pd1 rfl) (W := 1) (c1 := 2) (s1 := 6)
  obtain ⟨rfl, Nq25, K26, f27, f28, f29, f30⟩ := hQ24
  have N24 := Fr.app N22 Nq25
  have O24 := Old.keep O23 K26 (allS g_b23 all0)
  have lt31 : b16 < h22.size := (Nat.lt_of_lt_of_le (Nat.lt_of_lt_of_le (Nat.lt_of_lt_of_le V16.lt (Nat.le_of_eq W18.size.symm)) (Nat.le_of_eq W20.size.symm)) (Nat.le_of_eq W22.size.symm))
  have ne32 : b16 ≠ b23 := Nat.ne_of_lt (Nat.lt_of_lt_of_le lt31 sz_b23)
  have f33 := ((V22.ext E23).keep K26 (ninS ne32 nin0))
  have f34 := (((((EX16.wr W18).wr W20).wr W22).ext E23).keep K26)
  obtain ⟨_, T35, L35, X35, hQ35, st35⟩ := own_vb X24 hx hZ hown (y := yn8) (own_w hw 22 rfl) (own_w hw 23 rfl) (w_25 hw) (own_w hw 24 rfl) (own_w hw 26 rfl) (w_9 hw) rfl f27 (argsL := [(.int 0), (.ref b16), (.int 0), (.int 2)]) (rest := []) (rm17 l Z a0 hw w1 kw1 G [] b23 b16 k16 z2 z6 z10 T24.heap n0 O24 g_b23 g_b16 f27 f28 f29 f30 f33 f34) (g := (mkF m 76 (l354_11 p1 p2 p3 p4 p5 z2 z6 z10 b16 b23) [(.int 2), (.int 0), (.ref b16), (.int 0), (.ref b23)])) rfl (by rw [hml]; rfl) rfl (hb hby at_76) (lenOf pd6 rfl) (W := 0) (c1 := 5) (s1 := 15)
  have pre36 : Go p e below T24 (mkF m 76 (l354_11 p1 p2 p3 p4 p5 z2 z6 z10 b16 b23) [(.int 2), (.int 0), (.ref b16), (.int 0), (.ref b23)]) E0 := fun t k => by
   refine pre15 _ ?_
   refine yis X9 hx hby at_38 (l' := (l354_15 p1 p2 p3 p4 p5 z2 z6 z10)) rfl ?_
   refine XS.iconst X9.here hx rfl (hb hby at_40) ?_
   refine st16 _ ?_
   refine XS.dup X16.here hx rfl (hb hby at_43) rfl rfl ?_
   refine XS.iconst X16.here hx rfl (hb hby at_44) ?_
   refine yil X16 hx hby at_45 rfl ?_
   refine st18 _ ?_
   refine XS.dup X18.here hx rfl (hb hby at_48) rfl rfl ?_
   refine XS.iconst X18.here hx rfl (hb hby at_49) ?_
   refine yil X18 hx hby at_50 rfl ?_
   refine st20 _ ?_
   refine XS.dup X20.here hx rfl (hb hby at_53) rfl rfl ?_
   refine XS.iconst X20.here hx rfl (hb hby at_54) ?_
   show Steps p.tables e below (T20.setTop (mkF m 55 (l354_15 p1 p2 p3 p4 p5 z2 z6 z10) [(.int 2), (.ref b16), (.ref b16)])) _
   refine yil X20 hx hby at_55 rfl ?_
   refine st22 _ ?_
   refine XS.astore X22.here hx rfl (hb hby at_58) rfl rfl (l' := (l354_14 p1 p2 p3 p4 p5 z2 z6 z10 b16)) rfl ?_
   refine st23 _ ?_
   refine XS.dup X23.here hx rfl (hb hby at_63) rfl rfl ?_
   refine st24 _ ?_
   refine XS.astore X24.here hx rfl (hb hby at_67) rfl rfl (l' := (l354_11 p1 p2 p3 p4 p5 z2 z6 z10 b16 b23)) rfl ?_
   refine yal X24 hx hby at_69 rfl rfl ?_
   refine XS.iconst X24.here hx rfl (hb hby at_71) ?_
   refine yal X24 hx hby at_72 rfl rfl ?_
   refine XS.iconst X24.here hx rfl (hb hby at_74) ?_
   refine XS.iconst X24.here hx rfl (hb hby at_75) ?_
   exact k
  rcases hQ35 with ⟨b37, k38, hc39, hc40, rfl, Nq41, K42, sz_b37, f43, f44, f45, f46, f47, f48⟩ | ⟨b49, k50, hc51, hc52, rfl, Nq53, K54, sz_b49, f55, f56, f57, f58, f59, f60⟩ | ⟨b61, k62, rfl, Nq63, K64, sz_b61, f65, f66, f67, f68, f69, f70⟩
  ·
   have N35 := Fr.app N24 Nq41
   have g_b37 : n0 ≤ b37 := Nat.le_trans (own_oz O24) sz_b37
   have O35 := Old.keep O24 K42 (allS g_b23 all0)
   have f71 := (f33.keep K42 (ninS ne32 nin0))
   have f72 := (f34.keep K42)
   obtain ⟨_, T73, L73, X73, hQ73, st73⟩ := own_vb X35 hx hZ hown (y := yn8) (own_w hw 22 rfl) (own_w hw 23 rfl) (w_25 hw) (own_w hw 24 rfl) (own_w hw 26 rfl) (w_9 hw) rfl f43 (argsL := [(.int 0), (.ref b16), (.int 2), (.int 1)]) (rest := []) (rm28 l Z a0 hw w1 kw1 G [] b23 b16 b37 k16 z2 z6 z10 k38 (z2.toInt8.toInt32) (z6.toInt8.toInt32) T35.heap n0 O35 g_b23 g_b16 g_b37 f43 f44 f45 f46 f71 f72 f47 f48) (g := (mkF m 87 (l354_11 p1 p2 p3 p4 p5 z2 z6 z10 b16 b23) [(.int 1), (.int 2), (.ref b16), (.int 0), (.ref b23)])) rfl (by rw [hml]; rfl) rfl (hb hby at_87) (lenOf pd6 rfl) (W := 0) (c1 := 8) (s1 := 33)
   have pre74 : Go p e below T35 (mkF m 87 (l354_11 p1 p2 p3 p4 p5 z2 z6 z10 b16 b23) [(.int 1), (.int 2), (.ref b16), (.int 0), (.ref b23)]) E0 := fun t k => by
    refine pre36 _ ?_
    refine st35 _ ?_
    refine yal X35 hx hby at_79 rfl rfl ?_
    refine yil X35 hx hby at_81 rfl ?_
    refine yal X35 hx hby at_83 rfl rfl ?_
    refine XS.iconst X35.here hx rfl (hb hby at_85) ?_
    refine XS.iconst X35.here hx rfl (hb hby at_86) ?_
    exact k
   rcases hQ73 with ⟨b75, k76, hc77, rfl, Nq78, K79, sz_b75, f80, f81, f82, f83, f84, f85⟩ | ⟨b86, k87, hc88, rfl, Nq89, K90, sz_b86, f91, f92, f93, f94, f95, f96⟩ | ⟨b97, k98, rfl, Nq99, K100, sz_b97, f101, f102, f103, f104, f105, f106⟩
   ·
    have N73 := Fr.app N35 Nq78
    have g_b75 : n0 ≤ b75 := Nat.le_trans (own_oz O35) sz_b75
    have O73 := Old.keep O35 K79 (allS g_b23 all0)
    have pre107 : Go p e below T73 (mkF m 143 (l354_2 p1 p2 p3 p4 p5 z2 z6 z10 b16 b23) []) E0 := fun t k => by
     refine pre74 _ ?_
     refine st73 _ ?_
     refine yil X73 hx hby at_90 rfl ?_
     refine XS.ifNo X73.here hx rfl (hb hby at_92) rfl ((if0 _ _).trans (teq (by decide : (0 : Int32) = (0 : Int32))).2) ?_
     refine yil X73 hx hby at_95 rfl ?_
     refine yis X73 hx hby at_97 (l' := (l354_8 p1 p2 p3 p4 p5 z2 z6 z10 b16 b23)) rfl ?_
     refine yil X73 hx hby at_99 rfl ?_
     refine yis X73 hx hby at_101 (l' := (l354_5 p1 p2 p3 p4 p5 z2 z6 z10 b16 b23)) rfl ?_
     refine yil X73 hx hby at_103 rfl ?_
     refine yis X73 hx hby at_105 (l' := (l354_2 p1 p2 p3 p4 p5 z2 z6 z10 b16 b23)) rfl ?_
     refine ygo X73 hx hby 107 143 rfl at_107 (by decide) ?_
     exact k
    exact ct1 hw b23 b75 k76 z10 z2 z6 p1 p2 p3 p4 p5 z2 z6 z10 ((0 : Int32)) b16 p1 p2 p3 p4 p5 T73.heap n0 O73 hx hby hml hown hret hlk hZ (X73.more (by decide) (by decide)) rfl N73 pre107 g_b23 g_b75 f80 f81 f82 f83 f84 hc77 hc39 hc40 bz10 bz2 bz6
   ·
    have N73 := Fr.app N35 Nq89
    have g_b86 : n0 ≤ b86 := Nat.le_trans (own_oz O35) sz_b86
    have O73 := Old.keep O35 K90 (allS g_b23 all0)
    have pre108 : Go p e below T73 (mkF m 143 (l354_2 p1 p2 p3 p4 p5 z2 z6 z10 b16 b23) []) E0 := fun t k => by
     refine pre74 _ ?_
     refine st73 _ ?_
     refine yil X73 hx hby at_90 rfl ?_
     refine XS.ifNo X73.here hx rfl (hb hby at_92) rfl ((if0 _ _).trans (teq (by decide : (0 : Int32) = (0 : Int32))).2) ?_
     refine yil X73 hx hby at_95 rfl ?_
     refine yis X73 hx hby at_97 (l' := (l354_8 p1 p2 p3 p4 p5 z2 z6 z10 b16 b23)) rfl ?_
     refine yil X73 hx hby at_99 rfl ?_
     refine yis X73 hx hby at_101 (l' := (l354_5 p1 p2 p3 p4 p5 z2 z6 z10 b16 b23)) rfl ?_
     refine yil X73 hx hby at_103 rfl ?_
     refine yis X73 hx hby at_105 (l' := (l354_2 p1 p2 p3 p4 p5 z2 z6 z10 b16 b23)) rfl ?_
     refine ygo X73 hx hby 107 143 rfl at_107 (by decide) ?_
     exact k
    have hz109 : z2 < (65536 : Int32) := (own_glt1 (n := 65536) (k := (65536 : Int32)) (by decide) (by have q0 := bz2; have q1 := own_lt1 (n := 256) (k := (256 : Int32)) (by decide) hc39; omega))
    have hz110 : z6 < (65536 : Int32) := (own_glt1 (n := 65536) (k := (65536 : Int32)) (by decide) (by have q0 := bz6; have q1 := own_lt1 (n := 256) (k := (256 : Int32)) (by decide) hc40; omega))
    have f111 : Arv Z T73.heap b86 k87 .byte (6 : Int32) [(.int (((z10.toUInt32 >>> ((8 : Int32) &&& 31).toUInt32).toInt32).toInt8.toInt32)), (.int (z10.toInt8.toInt32)), (.int (((z2.toUInt32 >>> ((8 : Int32) &&& 31).toUInt32).toInt32).toInt8.toInt32)), (.int (z2.toInt8.toInt32)), (.int (((z6.toUInt32 >>> ((8 : Int32) &&& 31).toUInt32).toInt32).toInt8.toInt32)), (.int (z6.toInt8.toInt32))] (.int 0) := by have q := f95; rw [own_g1 (x := z2) (by have q0 := bz2; have q1 := own_lt1 (n := 256) (k := (256 : Int32)) (by decide) hc39; have q2 := own_lt1 (n := 65536) (k := (65536 : Int32)) (by decide) hz109; omega), own_g1 (x := z6) (by have q0 := bz6; have q1 := own_lt1 (n := 256) (k := (256 : Int32)) (by decide) hc40; have q2 := own_lt1 (n := 65536) (k := (65536 : Int32)) (by decide) hz110; omega)] at q; exact q
    exact ct2 hw b23 b86 k87 z10 z2 z6 p1 p2 p3 p4 p5 z2 z6 z10 ((0 : Int32)) b16 p1 p2 p3 p4 p5 T73.heap n0 O73 hx hby hml hown hret hlk hZ (X73.more (by decide) (by decide)) rfl N73 pre108 g_b23 g_b86 f91 f92 f93 f94 f111 hc88 hz109 hz110 bz10 bz2 bz6
   ·
    have N73 := Fr.app N35 Nq99
    have g_b97 : n0 ≤ b97 := Nat.le_trans (own_oz O35) sz_b97
    have O73 := Old.keep O35 K100 (allS g_b23 all0)
    have pre112 : Go p e below T73 (mkF m 143 (l354_2 p1 p2 p3 p4 p5 z2 z6 z10 b16 b23) []) E0 := fun t k => by
     refine pre74 _ ?_
     refine st73 _ ?_
     refine yil X73 hx hby at_90 rfl ?_
     refine XS.ifNo X73.here hx rfl (hb hby at_92) rfl ((if0 _ _).trans (teq (by decide : (0 : Int32) = (0 : Int32))).2) ?_
     refine yil X73 hx hby at_95 rfl ?_
     refine yis X73 hx hby at_97 (l' := (l354_8 p1 p2 p3 p4 p5 z2 z6 z10 b16 b23)) rfl ?_
     refine yil X73 hx hby at_99 rfl ?_
     refine yis X73 hx hby at_101 (l' := (l354_5 p1 p2 p3 p4 p5 z2 z6 z10 b16 b23)) rfl ?_
     refine yil X73 hx hby at_103 rfl ?_
     refine yis X73 hx hby at_105 (l' := (l354_2 p1 p2 p3 p4 p5 z2 z6 z10 b16 b23)) rfl ?_
     refine ygo X73 hx hby 107 143 rfl at_107 (by decide) ?_
     exact k
    have f113 : Arv Z T73.heap b97 k98 .byte (9 : Int32) [(.int (((((z10.toUInt32 >>> ((8 : Int32) &&& 31).toUInt32).toInt32).toUInt32 >>> ((8 : Int32) &&& 31).toUInt32).toInt32).toInt8.toInt32)), (.int (((z10.toUInt32 >>> ((8 : Int32) &&& 31).toUInt32).toInt32).toInt8.toInt32)), (.int (z10.toInt8.toInt32)), (.int (((((z2.toUInt32 >>> ((8 : Int32) &&& 31).toUInt32).toInt32).toUInt32 >>> ((8 : Int32) &&& 31).toUInt32).toInt32).toInt8.toInt32)), (.int (((z2.toUInt32 >>> ((8 : Int32) &&& 31).toUInt32).toInt32).toInt8.toInt32)), (.int (z2.toInt8.toInt32)), (.int (((((z6.toUInt32 >>> ((8 : Int32) &&& 31).toUInt32).toInt32).toUInt32 >>> ((8 : Int32) &&& 31).toUInt32).toInt32).toInt8.toInt32)), (.int (((z6.toUInt32 >>> ((8 : Int32) &&& 31).toUInt32).toInt32).toInt8.toInt32)), (.int (z6.toInt8.toInt32))] (.int 0) := by have q := f105; rw [own_g1 (x := z2) (by have q0 := bz2; have q1 := own_lt1 (n := 256) (k := (256 : Int32)) (by decide) hc39; omega), own_g1 (x := z6) (by have q0 := bz6; have q1 := own_lt1 (n := 256) (k := (256 : Int32)) (by decide) hc40; omega)] at q; exact q
    exact ct3 hw b23 b97 k98 z10 z2 z6 p1 p2 p3 p4 p5 z2 z6 z10 ((0 : Int32)) b16 p1 p2 p3 p4 p5 T73.heap n0 O73 hx hby hml hown hret hlk hZ (X73.more (by decide) (by decide)) rfl N73 pre112 g_b23 g_b97 f101 f102 f103 f104 f113 bz10 bz2 bz6
  ·
   have N35 := Fr.app N24 Nq53
   have g_b49 : n0 ≤ b49 := Nat.le_trans (own_oz O24) sz_b49
   have O35 := Old.keep O24 K54 (allS g_b23 all0)
   have f114 := (f33.keep K54 (ninS ne32 nin0))
   have f115 := (f34.keep K54)
   obtain ⟨_, T116, L116, X116, hQ116, st116⟩ := own_vb X35 hx hZ hown (y := yn8) (own_w hw 22 rfl) (own_w hw 23 rfl) (w_25 hw) (own_w hw 24 rfl) (own_w hw 26 rfl) (w_9 hw) rfl f55 (argsL := [(.int 0), (.ref b16), (.int 2), (.int 1)]) (rest := []) (rm44 l Z a0 hw w1 kw1 G [] b23 b16 b49 k16 z2 z6 z10 k50 ((((z2.toUInt32 >>> ((8 : Int32) &&& 31).toUInt32).toInt32).toInt8.toInt32)) (z2.toInt8.toInt32) ((((z6.toUInt32 >>> ((8 : Int32) &&& 31).toUInt32).toInt32).toInt8.toInt32)) (z6.toInt8.toInt32) T35.heap n0 O35 g_b23 g_b16 g_b49 f55 f56 f57 f58 f114 f115 f59 f60) (g := (mkF m 87 (l354_11 p1 p2 p3 p4 p5 z2 z6 z10 b16 b23) [(.int 1), (.int 2), (.ref b16), (.int 0), (.ref b23)])) rfl (by rw [hml]; rfl) rfl (hb hby at_87) (lenOf pd6 rfl) (W := 0) (c1 := 8) (s1 := 33)
   have pre117 : Go p e below T35 (mkF m 87 (l354_11 p1 p2 p3 p4 p5 z2 z6 z10 b16 b23) [(.int 1), (.int 2), (.ref b16), (.int 0), (.ref b23)]) E0 := fun t k => by
    refine pre36 _ ?_
    refine st35 _ ?_
    refine yal X35 hx hby at_79 rfl rfl ?_
    refine yil X35 hx hby at_81 rfl ?_
    refine yal X35 hx hby at_83 rfl rfl ?_
    refine XS.iconst X35.here hx rfl (hb hby at_85) ?_
    refine XS.iconst X35.here hx rfl (hb hby at_86) ?_
    exact k
   rcases hQ116 with ⟨b118, k119, hc120, rfl, Nq121, K122, sz_b118, f123, f124, f125, f126, f127, f128⟩ | ⟨b129, k130, rfl, Nq131, K132, sz_b129, f133, f134, f135, f136, f137, f138⟩
   ·
    have N116 := Fr.app N35 Nq121
    have g_b118 : n0 ≤ b118 := Nat.le_trans (own_oz O35) sz_b118
    have O116 := Old.keep O35 K122 (allS g_b23 all0)
    have pre139 : Go p e below T116 (mkF m 143 (l354_2 p1 p2 p3 p4 p5 z2 z6 z10 b16 b23) []) E0 := fun t k => by
     refine pre117 _ ?_
     refine st116 _ ?_
     refine yil X116 hx hby at_90 rfl ?_
     refine XS.ifNo X116.here hx rfl (hb hby at_92) rfl ((if0 _ _).trans (teq (by decide : (0 : Int32) = (0 : Int32))).2) ?_
     refine yil X116 hx hby at_95 rfl ?_
     refine yis X116 hx hby at_97 (l' := (l354_8 p1 p2 p3 p4 p5 z2 z6 z10 b16 b23)) rfl ?_
     refine yil X116 hx hby at_99 rfl ?_
     refine yis X116 hx hby at_101 (l' := (l354_5 p1 p2 p3 p4 p5 z2 z6 z10 b16 b23)) rfl ?_
     refine yil X116 hx hby at_103 rfl ?_
     refine yis X116 hx hby at_105 (l' := (l354_2 p1 p2 p3 p4 p5 z2 z6 z10 b16 b23)) rfl ?_
     refine ygo X116 hx hby 107 143 rfl at_107 (by decide) ?_
     exact k
    exact ct2 hw b23 b118 k119 z10 z2 z6 p1 p2 p3 p4 p5 z2 z6 z10 ((0 : Int32)) b16 p1 p2 p3 p4 p5 T116.heap n0 O116 hx hby hml hown hret hlk hZ (X116.more (by decide) (by decide)) rfl N116 pre139 g_b23 g_b118 f123 f124 f125 f126 f127 hc120 hc51 hc52 bz10 bz2 bz6
   ·
    have N116 := Fr.app N35 Nq131
    have g_b129 : n0 ≤ b129 := Nat.le_trans (own_oz O35) sz_b129
    have O116 := Old.keep O35 K132 (allS g_b23 all0)
    have pre140 : Go p e below T116 (mkF m 143 (l354_2 p1 p2 p3 p4 p5 z2 z6 z10 b16 b23) []) E0 := fun t k => by
     refine pre117 _ ?_
     refine st116 _ ?_
     refine yil X116 hx hby at_90 rfl ?_
     refine XS.ifNo X116.here hx rfl (hb hby at_92) rfl ((if0 _ _).trans (teq (by decide : (0 : Int32) = (0 : Int32))).2) ?_
     refine yil X116 hx hby at_95 rfl ?_
     refine yis X116 hx hby at_97 (l' := (l354_8 p1 p2 p3 p4 p5 z2 z6 z10 b16 b23)) rfl ?_
     refine yil X116 hx hby at_99 rfl ?_
     refine yis X116 hx hby at_101 (l' := (l354_5 p1 p2 p3 p4 p5 z2 z6 z10 b16 b23)) rfl ?_
     refine yil X116 hx hby at_103 rfl ?_
     refine yis X116 hx hby at_105 (l' := (l354_2 p1 p2 p3 p4 p5 z2 z6 z10 b16 b23)) rfl ?_
     refine ygo X116 hx hby 107 143 rfl at_107 (by decide) ?_
     exact k
    have f141 : Arv Z T116.heap b129 k130 .byte (9 : Int32) [(.int (((((z10.toUInt32 >>> ((8 : Int32) &&& 31).toUInt32).toInt32).toUInt32 >>> ((8 : Int32) &&& 31).toUInt32).toInt32).toInt8.toInt32)), (.int (((z10.toUInt32 >>> ((8 : Int32) &&& 31).toUInt32).toInt32).toInt8.toInt32)), (.int (z10.toInt8.toInt32)), (.int (((((z2.toUInt32 >>> ((8 : Int32) &&& 31).toUInt32).toInt32).toUInt32 >>> ((8 : Int32) &&& 31).toUInt32).toInt32).toInt8.toInt32)), (.int (((z2.toUInt32 >>> ((8 : Int32) &&& 31).toUInt32).toInt32).toInt8.toInt32)), (.int (z2.toInt8.toInt32)), (.int (((((z6.toUInt32 >>> ((8 : Int32) &&& 31).toUInt32).toInt32).toUInt32 >>> ((8 : Int32) &&& 31).toUInt32).toInt32).toInt8.toInt32)), (.int (((z6.toUInt32 >>> ((8 : Int32) &&& 31).toUInt32).toInt32).toInt8.toInt32)), (.int (z6.toInt8.toInt32))] (.int 0) := by have q := f137; rw [own_g2 (x := z2) (by have q0 := bz2; have q1 := own_lt1 (n := 65536) (k := (65536 : Int32)) (by decide) hc51; omega), own_g2 (x := z6) (by have q0 := bz6; have q1 := own_lt1 (n := 65536) (k := (65536 : Int32)) (by decide) hc52; omega)] at q; exact q
    exact ct3 hw b23 b129 k130 z10 z2 z6 p1 p2 p3 p4 p5 z2 z6 z10 ((0 : Int32)) b16 p1 p2 p3 p4 p5 T116.heap n0 O116 hx hby hml hown hret hlk hZ (X116.more (by decide) (by decide)) rfl N116 pre140 g_b23 g_b129 f133 f134 f135 f136 f141 bz10 bz2 bz6
  ·
   have N35 := Fr.app N24 Nq63
   have g_b61 : n0 ≤ b61 := Nat.le_trans (own_oz O24) sz_b61
   have O35 := Old.keep O24 K64 (allS g_b23 all0)
   have f142 := (f33.keep K64 (ninS ne32 nin0))
   have f143 := (f34.keep K64)
   obtain ⟨_, T144, L144, X144, hQ144, st144⟩ := own_vb X35 hx hZ hown (y := yn8) (own_w hw 22 rfl) (own_w hw 23 rfl) (w_25 hw) (own_w hw 24 rfl) (own_w hw 26 rfl) (w_9 hw) rfl f65 (argsL := [(.int 0), (.ref b16), (.int 2), (.int 1)]) (rest := []) (rm45 l Z a0 hw [] b23 b16 b61 k16 z2 z6 z10 k62 ((((((z2.toUInt32 >>> ((8 : Int32) &&& 31).toUInt32).toInt32).toUInt32 >>> ((8 : Int32) &&& 31).toUInt32).toInt32).toInt8.toInt32)) ((((z2.toUInt32 >>> ((8 : Int32) &&& 31).toUInt32).toInt32).toInt8.toInt32)) (z2.toInt8.toInt32) ((((((z6.toUInt32 >>> ((8 : Int32) &&& 31).toUInt32).toInt32).toUInt32 >>> ((8 : Int32) &&& 31).toUInt32).toInt32).toInt8.toInt32)) ((((z6.toUInt32 >>> ((8 : Int32) &&& 31).toUInt32).toInt32).toInt8.toInt32)) (z6.toInt8.toInt32) T35.heap n0 O35 g_b23 g_b16 g_b61 f65 f66 f67 f68 f142 f143 f69) (g := (mkF m 87 (l354_11 p1 p2 p3 p4 p5 z2 z6 z10 b16 b23) [(.int 1), (.int 2), (.ref b16), (.int 0), (.ref b23)])) rfl (by rw [hml]; rfl) rfl (hb hby at_87) (lenOf pd6 rfl) (W := 0) (c1 := 6) (s1 := 24)
   obtain ⟨b145, k146, rfl, Nq147, K148, sz_b145, f149, f150, f151, f152, f153, f154⟩ := hQ144
   have N144 := Fr.app N35 Nq147
   have g_b145 : n0 ≤ b145 := Nat.le_trans (own_oz O35) sz_b145
   have O144 := Old.keep O35 K148 (allS g_b23 all0)
   have pre155 : Go p e below T144 (mkF m 143 (l354_2 p1 p2 p3 p4 p5 z2 z6 z10 b16 b23) []) E0 := fun t k => by
    refine pre36 _ ?_
    refine st35 _ ?_
    refine yal X35 hx hby at_79 rfl rfl ?_
    refine yil X35 hx hby at_81 rfl ?_
    refine yal X35 hx hby at_83 rfl rfl ?_
    refine XS.iconst X35.here hx rfl (hb hby at_85) ?_
    refine XS.iconst X35.here hx rfl (hb hby at_86) ?_
    refine st144 _ ?_
    refine yil X144 hx hby at_90 rfl ?_
    refine XS.ifNo X144.here hx rfl (hb hby at_92) rfl ((if0 _ _).trans (teq (by decide : (0 : Int32) = (0 : Int32))).2) ?_
    refine yil X144 hx hby at_95 rfl ?_
    refine yis X144 hx hby at_97 (l' := (l354_8 p1 p2 p3 p4 p5 z2 z6 z10 b16 b23)) rfl ?_
    refine yil X144 hx hby at_99 rfl ?_
    refine yis X144 hx hby at_101 (l' := (l354_5 p1 p2 p3 p4 p5 z2 z6 z10 b16 b23)) rfl ?_
    refine yil X144 hx hby at_103 rfl ?_
    refine yis X144 hx hby at_105 (l' := (l354_2 p1 p2 p3 p4 p5 z2 z6 z10 b16 b23)) rfl ?_
    refine ygo X144 hx hby 107 143 rfl at_107 (by decide) ?_
    exact k
   exact ct3 hw b23 b145 k146 z10 z2 z6 p1 p2 p3 p4 p5 z2 z6 z10 ((0 : Int32)) b16 p1 p2 p3 p4 p5 T144.heap n0 O144 hx hby hml hown hret hlk hZ (X144.more (by decide) (by decide)) rfl N144 pre155 g_b23 g_b145 f149 f150 f151 f152 f153 bz10 bz2 bz6
 ·
  by_cases hc156 : ((p5 &&& (2147483647 : Int32)) % (3 : Int32)) = (1 : Int32)
  ·
   have pre157 : Go p e below T9 (mkF m 38 (l354_18 p1 p2 p3 p4 p5 z2 z6 z10) [(.int 1)]) E0 := fun t k => pre13 t (by rw [hc156]; exact k)
   obtain ⟨T158, h158, k158, X158, e158, E158, A158, EX158, st158⟩ := newPE X9 hx hZ (own_w hw 6 rfl) e12 (g := (mkF m 41 (l354_16 p1 p2 p3 p4 p5 z2 z6 z10) [(.int 3)])) rfl (hb hby at_41) rfl (by decide) (cap := 3) (by decide) (by decide) (by decide) (by decide) (ad := "[I") (by decide)
   obtain ⟨b158, g158⟩ : ∃ z, z = h0.size := ⟨_, rfl⟩
   rw [← g158] at A158 EX158 st158
   have M158 : h0.size ≤ h158.size := Nat.le_trans (Nat.le_refl _) E158.1
   have O158 := Old.ext O0 E158
   have sz_b158 : h0.size ≤ b158 := Nat.le_of_eq g158.symm
   have g_b158 : n0 ≤ b158 := Nat.le_trans (own_oz O0) (Nat.le_trans (Nat.le_refl _) sz_b158)
   have V158_0 := Arv.new A158 (by decide)
   have V158 : Arv Z h158 b158 k158 .int (3 : Int32) [(.int 0), (.int 0), (.int 0)] (.int 0) := V158_0.pad (pad_rep [] (.int 0) 3)
   obtain ⟨cl159, Ar159, qa159, Sa159, Na159, Ha159, Ga159⟩ := id (V158)
   have hin159 := inb_of (j := (0 : Int32)) Sa159 ⟨by decide, by decide⟩
   obtain ⟨T160, h160, X160, e160, W160, st160⟩ := stI X158 hx hZ e158 Ar159 (j := (0 : Int32)) hin159 (g := (mkF m 47 (l354_16 p1 p2 p3 p4 p5 z2 z6 z10) [(.int z2), (.int 0), (.ref b158), (.ref b158)])) rfl rfl (hb hby at_47)
   have V160 : Arv Z h160 b158 k158 .int (3 : Int32) [(.int z2), (.int 0), (.int 0)] (.int 0) := Arv.set Ar159 qa159 Sa159 Na159 Ha159 Ga159 rfl W160 0 rfl (Nat.le_of_ble_eq_true rfl)
   have N160 := Fr.snoc X160 N9 g_b158
   have M160 : h0.size ≤ h160.size := Nat.le_trans M158 (Nat.le_of_eq W160.size.symm)
   have O160 := Old.wr O158 W160 g_b158
   obtain ⟨cl161, Ar161, qa161, Sa161, Na161, Ha161, Ga161⟩ := id (V160)
   have hin161 := inb_of (j := (1 : Int32)) Sa161 ⟨by decide, by decide⟩
   obtain ⟨T162, h162, X162, e162, W162, st162⟩ := stI X160 hx hZ e160 Ar161 (j := (1 : Int32)) hin161 (g := (mkF m 52 (l354_16 p1 p2 p3 p4 p5 z2 z6 z10) [(.int z6), (.int 1), (.ref b158), (.ref b158)])) rfl rfl (hb hby at_52)
   have V162 : Arv Z h162 b158 k158 .int (3 : Int32) [(.int z2), (.int z6), (.int 0)] (.int 0) := Arv.set Ar161 qa161 Sa161 Na161 Ha161 Ga161 rfl W162 1 rfl (Nat.le_of_ble_eq_true rfl)
   have N162 := Fr.snoc X162 N160 g_b158
   have M162 : h0.size ≤ h162.size := Nat.le_trans M160 (Nat.le_of_eq W162.size.symm)
   have O162 := Old.wr O160 W162 g_b158
   obtain ⟨cl163, Ar163, qa163, Sa163, Na163, Ha163, Ga163⟩ := id (V162)
   have hin163 := inb_of (j := (2 : Int32)) Sa163 ⟨by decide, by decide⟩
   obtain ⟨T164, h164, X164, e164, W164, st164⟩ := stI X162 hx hZ e162 Ar163 (j := (2 : Int32)) hin163 (g := (mkF m 57 (l354_16 p1 p2 p3 p4 p5 z2 z6 z10) [(.int z10), (.int 2), (.ref b158), (.ref b158)])) rfl rfl (hb hby at_57)
   have V164 : Arv Z h164 b158 k158 .int (3 : Int32) [(.int z2), (.int z6), (.int z10)] (.int 0) := Arv.set Ar163 qa163 Sa163 Na163 Ha163 Ga163 rfl W164 2 rfl (Nat.le_of_ble_eq_true rfl)
   have N164 := Fr.snoc X164 N162 g_b158
   have M164 : h0.size ≤ h164.size := Nat.le_trans M162 (Nat.le_of_eq W164.size.symm)
   have O164 := Old.wr O162 W164 g_b158
   obtain ⟨T165, h165, X165, e165, E165, A165, D165, -, st165⟩ := newO X164 hx hZ hown (own_w hw 7 rfl) (w_8 hw) (w_9 hw) e164 (g := (mkF m 60 (l354_12 p1 p2 p3 p4 p5 z2 z6 z10 b158) [])) rfl (hb hby at_60) (by decide) (by decide)
   obtain ⟨b165, g165⟩ : ∃ z, z = h164.size := ⟨_, rfl⟩
   rw [← g165] at A165 D165 st165
   have O165 := Old.ext O164 E165
   have sz_b165 : h164.size ≤ b165 := Nat.le_of_eq g165.symm
   have g_b165 : n0 ≤ b165 := Nat.le_trans (own_oz O0) (Nat.le_trans M164 sz_b165)
   have F165_19 : Fld Z h165 b165 "com/example/driftless/driftless/CodePoints" "bytes" "[B" .null := D165 (Or.inl (w_19 hw)) (ty := (.array .byte)) (by decide)
   have F165_21 : Fld Z h165 b165 "com/example/driftless/driftless/CodePoints" "width" "I" (.int 0) := D165 (Or.inl (w_21 hw)) (ty := .int) (by decide)
   have F165_35 : Fld Z h165 b165 "com/example/driftless/driftless/CodePoints" "length" "I" (.int 0) := D165 (Or.inl (w_35 hw)) (ty := .int) (by decide)
   obtain ⟨_, T166, L166, X166, hQ166, st166⟩ := own_sb X165 hx hZ hown (y := yn1) (own_w hw 10 rfl) (own_w hw 11 rfl) (own_w hw 12 rfl) (w_9 hw) e165 (a := b165) (argsL := []) (rest := [(.ref b165)]) (rm2 l Z a0 hw w1 kw1 G [] b165 h165 n0 O165 g_b165 A165 F165_19 F165_35 F165_21) (g := (mkF m 64 (l354_12 p1 p2 p3 p4 p5 z2 z6 z10 b158) [(.ref b165), (.ref b165)])) rfl (by rw [hml]; rfl) rfl (hb hby at_64) (lenOf pd1 rfl) (W := 1) (c1 := 2) (s1 := 6)
   obtain ⟨rfl, Nq167, K168, f169, f170, f171, f172⟩ := hQ166
   have N166 := Fr.app N164 Nq167
   have O166 := Old.keep O165 K168 (allS g_b165 all0)
   have lt173 : b158 < h164.size := (Nat.lt_of_lt_of_le (Nat.lt_of_lt_of_le (Nat.lt_of_lt_of_le V158.lt (Nat.le_of_eq W160.size.symm)) (Nat.le_of_eq W162.size.symm)) (Nat.le_of_eq W164.size.symm))
   have ne174 : b158 ≠ b165 := Nat.ne_of_lt (Nat.lt_of_lt_of_le lt173 sz_b165)
   have f175 := ((V164.ext E165).keep K168 (ninS ne174 nin0))
   have f176 := (((((EX158.wr W160).wr W162).wr W164).ext E165).keep K168)
   obtain ⟨_, T177, L177, X177, hQ177, st177⟩ := own_vb X166 hx hZ hown (y := yn8) (own_w hw 22 rfl) (own_w hw 23 rfl) (w_25 hw) (own_w hw 24 rfl) (own_w hw 26 rfl) (w_9 hw) rfl f169 (argsL := [(.int 0), (.ref b158), (.int 0), (.int 2)]) (rest := []) (rm17 l Z a0 hw w1 kw1 G [] b165 b158 k158 z2 z6 z10 T166.heap n0 O166 g_b165 g_b158 f169 f170 f171 f172 f175 f176) (g := (mkF m 76 (l354_9 p1 p2 p3 p4 p5 z2 z6 z10 b158 b165) [(.int 2), (.int 0), (.ref b158), (.int 0), (.ref b165)])) rfl (by rw [hml]; rfl) rfl (hb hby at_76) (lenOf pd6 rfl) (W := 0) (c1 := 5) (s1 := 15)
   have pre178 : Go p e below T166 (mkF m 76 (l354_9 p1 p2 p3 p4 p5 z2 z6 z10 b158 b165) [(.int 2), (.int 0), (.ref b158), (.int 0), (.ref b165)]) E0 := fun t k => by
    refine pre157 _ ?_
    refine yis X9 hx hby at_38 (l' := (l354_16 p1 p2 p3 p4 p5 z2 z6 z10)) rfl ?_
    refine XS.iconst X9.here hx rfl (hb hby at_40) ?_
    refine st158 _ ?_
    refine XS.dup X158.here hx rfl (hb hby at_43) rfl rfl ?_
    refine XS.iconst X158.here hx rfl (hb hby at_44) ?_
    refine yil X158 hx hby at_45 rfl ?_
    refine st160 _ ?_
    refine XS.dup X160.here hx rfl (hb hby at_48) rfl rfl ?_
    refine XS.iconst X160.here hx rfl (hb hby at_49) ?_
    refine yil X160 hx hby at_50 rfl ?_
    refine st162 _ ?_
    refine XS.dup X162.here hx rfl (hb hby at_53) rfl rfl ?_
    refine XS.iconst X162.here hx rfl (hb hby at_54) ?_
    show Steps p.tables e below (T162.setTop (mkF m 55 (l354_16 p1 p2 p3 p4 p5 z2 z6 z10) [(.int 2), (.ref b158), (.ref b158)])) _
    refine yil X162 hx hby at_55 rfl ?_
    refine st164 _ ?_
    refine XS.astore X164.here hx rfl (hb hby at_58) rfl rfl (l' := (l354_12 p1 p2 p3 p4 p5 z2 z6 z10 b158)) rfl ?_
    refine st165 _ ?_
    refine XS.dup X165.here hx rfl (hb hby at_63) rfl rfl ?_
    refine st166 _ ?_
    refine XS.astore X166.here hx rfl (hb hby at_67) rfl rfl (l' := (l354_9 p1 p2 p3 p4 p5 z2 z6 z10 b158 b165)) rfl ?_
    refine yal X166 hx hby at_69 rfl rfl ?_
    refine XS.iconst X166.here hx rfl (hb hby at_71) ?_
    refine yal X166 hx hby at_72 rfl rfl ?_
    refine XS.iconst X166.here hx rfl (hb hby at_74) ?_
    refine XS.iconst X166.here hx rfl (hb hby at_75) ?_
    exact k
   rcases hQ177 with ⟨b179, k180, hc181, hc182, rfl, Nq183, K184, sz_b179, f185, f186, f187, f188, f189, f190⟩ | ⟨b191, k192, hc193, hc194, rfl, Nq195, K196, sz_b191, f197, f198, f199, f200, f201, f202⟩ | ⟨b203, k204, rfl, Nq205, K206, sz_b203, f207, f208, f209, f210, f211, f212⟩
   ·
    have N177 := Fr.app N166 Nq183
    have g_b179 : n0 ≤ b179 := Nat.le_trans (own_oz O166) sz_b179
    have O177 := Old.keep O166 K184 (allS g_b165 all0)
    have f213 := (f175.keep K184 (ninS ne174 nin0))
    have f214 := (f176.keep K184)
    obtain ⟨_, T215, L215, X215, hQ215, st215⟩ := own_vb X177 hx hZ hown (y := yn8) (own_w hw 22 rfl) (own_w hw 23 rfl) (w_25 hw) (own_w hw 24 rfl) (own_w hw 26 rfl) (w_9 hw) rfl f185 (argsL := [(.int 1), (.ref b158), (.int 2), (.int 1)]) (rest := []) (rm49 l Z a0 hw w1 kw1 G [] b165 b158 b179 k158 z2 z6 z10 k180 (z2.toInt8.toInt32) (z6.toInt8.toInt32) T177.heap n0 O177 g_b165 g_b158 g_b179 f185 f186 f187 f188 f213 f214 f189 f190) (g := (mkF m 87 (l354_9 p1 p2 p3 p4 p5 z2 z6 z10 b158 b165) [(.int 1), (.int 2), (.ref b158), (.int 1), (.ref b165)])) rfl (by rw [hml]; rfl) rfl (hb hby at_87) (lenOf pd6 rfl) (W := 0) (c1 := 8) (s1 := 33)
    have pre216 : Go p e below T177 (mkF m 87 (l354_9 p1 p2 p3 p4 p5 z2 z6 z10 b158 b165) [(.int 1), (.int 2), (.ref b158), (.int 1), (.ref b165)]) E0 := fun t k => by
     refine pre178 _ ?_
     refine st177 _ ?_
     refine yal X177 hx hby at_79 rfl rfl ?_
     refine yil X177 hx hby at_81 rfl ?_
     refine yal X177 hx hby at_83 rfl rfl ?_
     refine XS.iconst X177.here hx rfl (hb hby at_85) ?_
     refine XS.iconst X177.here hx rfl (hb hby at_86) ?_
     exact k
    rcases hQ215 with ⟨b217, k218, hc219, rfl, Nq220, K221, sz_b217, f222, f223, f224, f225, f226, f227⟩ | ⟨b228, k229, hc230, rfl, Nq231, K232, sz_b228, f233, f234, f235, f236, f237, f238⟩ | ⟨b239, k240, rfl, Nq241, K242, sz_b239, f243, f244, f245, f246, f247, f248⟩
    ·
     have N215 := Fr.app N177 Nq220
     have g_b217 : n0 ≤ b217 := Nat.le_trans (own_oz O177) sz_b217
     have O215 := Old.keep O177 K221 (allS g_b165 all0)
     have pre249 : Go p e below T215 (mkF m 143 (l354_0 p1 p2 p3 p4 p5 z2 z6 z10 b158 b165) []) E0 := fun t k => by
      refine pre216 _ ?_
      refine st215 _ ?_
      refine yil X215 hx hby at_90 rfl ?_
      refine XS.ifYes X215.here hx rfl (pc0 := 92) (pc' := 110) rfl (hb hby at_92) rfl ((if0 _ _).trans (feq (by decide : ¬ ((1 : Int32) = (0 : Int32)))).2) (by decide) (by decide) ?_
      refine yil X215 hx hby at_110 rfl ?_
      refine XS.iconst X215.here hx rfl (hb hby at_112) ?_
      refine yno X215 hx hby at_113 (teq (by decide : (1 : Int32) = (1 : Int32))).2 ?_
      refine yil X215 hx hby at_116 rfl ?_
      refine yis X215 hx hby at_118 (l' := (l354_6 p1 p2 p3 p4 p5 z2 z6 z10 b158 b165)) rfl ?_
      refine yil X215 hx hby at_120 rfl ?_
      refine yis X215 hx hby at_122 (l' := (l354_3 p1 p2 p3 p4 p5 z2 z6 z10 b158 b165)) rfl ?_
      refine yil X215 hx hby at_124 rfl ?_
      refine yis X215 hx hby at_126 (l' := (l354_0 p1 p2 p3 p4 p5 z2 z6 z10 b158 b165)) rfl ?_
      refine ygo X215 hx hby 128 143 rfl at_128 (by decide) ?_
      exact k
     exact ct1 hw b165 b217 k218 z2 z10 z6 p1 p2 p3 p4 p5 z2 z6 z10 ((1 : Int32)) b158 p1 p2 p3 p4 p5 T215.heap n0 O215 hx hby hml hown hret hlk hZ (X215.more (by decide) (by decide)) rfl N215 pre249 g_b165 g_b217 f222 f223 f224 f225 f226 hc181 hc219 hc182 bz2 bz10 bz6
    ·
     have N215 := Fr.app N177 Nq231
     have g_b228 : n0 ≤ b228 := Nat.le_trans (own_oz O177) sz_b228
     have O215 := Old.keep O177 K232 (allS g_b165 all0)
     have pre250 : Go p e below T215 (mkF m 143 (l354_0 p1 p2 p3 p4 p5 z2 z6 z10 b158 b165) []) E0 := fun t k => by
      refine pre216 _ ?_
      refine st215 _ ?_
      refine yil X215 hx hby at_90 rfl ?_
      refine XS.ifYes X215.here hx rfl (pc0 := 92) (pc' := 110) rfl (hb hby at_92) rfl ((if0 _ _).trans (feq (by decide : ¬ ((1 : Int32) = (0 : Int32)))).2) (by decide) (by decide) ?_
      refine yil X215 hx hby at_110 rfl ?_
      refine XS.iconst X215.here hx rfl (hb hby at_112) ?_
      refine yno X215 hx hby at_113 (teq (by decide : (1 : Int32) = (1 : Int32))).2 ?_
      refine yil X215 hx hby at_116 rfl ?_
      refine yis X215 hx hby at_118 (l' := (l354_6 p1 p2 p3 p4 p5 z2 z6 z10 b158 b165)) rfl ?_
      refine yil X215 hx hby at_120 rfl ?_
      refine yis X215 hx hby at_122 (l' := (l354_3 p1 p2 p3 p4 p5 z2 z6 z10 b158 b165)) rfl ?_
      refine yil X215 hx hby at_124 rfl ?_
      refine yis X215 hx hby at_126 (l' := (l354_0 p1 p2 p3 p4 p5 z2 z6 z10 b158 b165)) rfl ?_
      refine ygo X215 hx hby 128 143 rfl at_128 (by decide) ?_
      exact k
     have hz251 : z2 < (65536 : Int32) := (own_glt1 (n := 65536) (k := (65536 : Int32)) (by decide) (by have q0 := bz2; have q1 := own_lt1 (n := 256) (k := (256 : Int32)) (by decide) hc181; omega))
     have hz252 : z6 < (65536 : Int32) := (own_glt1 (n := 65536) (k := (65536 : Int32)) (by decide) (by have q0 := bz6; have q1 := own_lt1 (n := 256) (k := (256 : Int32)) (by decide) hc182; omega))
     have f253 : Arv Z T215.heap b228 k229 .byte (6 : Int32) [(.int (((z2.toUInt32 >>> ((8 : Int32) &&& 31).toUInt32).toInt32).toInt8.toInt32)), (.int (z2.toInt8.toInt32)), (.int (((z10.toUInt32 >>> ((8 : Int32) &&& 31).toUInt32).toInt32).toInt8.toInt32)), (.int (z10.toInt8.toInt32)), (.int (((z6.toUInt32 >>> ((8 : Int32) &&& 31).toUInt32).toInt32).toInt8.toInt32)), (.int (z6.toInt8.toInt32))] (.int 0) := by have q := f237; rw [own_g1 (x := z2) (by have q0 := bz2; have q1 := own_lt1 (n := 256) (k := (256 : Int32)) (by decide) hc181; have q2 := own_lt1 (n := 65536) (k := (65536 : Int32)) (by decide) hz251; omega), own_g1 (x := z6) (by have q0 := bz6; have q1 := own_lt1 (n := 256) (k := (256 : Int32)) (by decide) hc182; have q2 := own_lt1 (n := 65536) (k := (65536 : Int32)) (by decide) hz252; omega)] at q; exact q
     exact ct2 hw b165 b228 k229 z2 z10 z6 p1 p2 p3 p4 p5 z2 z6 z10 ((1 : Int32)) b158 p1 p2 p3 p4 p5 T215.heap n0 O215 hx hby hml hown hret hlk hZ (X215.more (by decide) (by decide)) rfl N215 pre250 g_b165 g_b228 f233 f234 f235 f236 f253 hz251 hc230 hz252 bz2 bz10 bz6
    ·
     have N215 := Fr.app N177 Nq241
     have g_b239 : n0 ≤ b239 := Nat.le_trans (own_oz O177) sz_b239
     have O215 := Old.keep O177 K242 (allS g_b165 all0)
     have pre254 : Go p e below T215 (mkF m 143 (l354_0 p1 p2 p3 p4 p5 z2 z6 z10 b158 b165) []) E0 := fun t k => by
      refine pre216 _ ?_
      refine st215 _ ?_
      refine yil X215 hx hby at_90 rfl ?_
      refine XS.ifYes X215.here hx rfl (pc0 := 92) (pc' := 110) rfl (hb hby at_92) rfl ((if0 _ _).trans (feq (by decide : ¬ ((1 : Int32) = (0 : Int32)))).2) (by decide) (by decide) ?_
      refine yil X215 hx hby at_110 rfl ?_
      refine XS.iconst X215.here hx rfl (hb hby at_112) ?_
      refine yno X215 hx hby at_113 (teq (by decide : (1 : Int32) = (1 : Int32))).2 ?_
      refine yil X215 hx hby at_116 rfl ?_
      refine yis X215 hx hby at_118 (l' := (l354_6 p1 p2 p3 p4 p5 z2 z6 z10 b158 b165)) rfl ?_
      refine yil X215 hx hby at_120 rfl ?_
      refine yis X215 hx hby at_122 (l' := (l354_3 p1 p2 p3 p4 p5 z2 z6 z10 b158 b165)) rfl ?_
      refine yil X215 hx hby at_124 rfl ?_
      refine yis X215 hx hby at_126 (l' := (l354_0 p1 p2 p3 p4 p5 z2 z6 z10 b158 b165)) rfl ?_
      refine ygo X215 hx hby 128 143 rfl at_128 (by decide) ?_
      exact k
     have f255 : Arv Z T215.heap b239 k240 .byte (9 : Int32) [(.int (((((z2.toUInt32 >>> ((8 : Int32) &&& 31).toUInt32).toInt32).toUInt32 >>> ((8 : Int32) &&& 31).toUInt32).toInt32).toInt8.toInt32)), (.int (((z2.toUInt32 >>> ((8 : Int32) &&& 31).toUInt32).toInt32).toInt8.toInt32)), (.int (z2.toInt8.toInt32)), (.int (((((z10.toUInt32 >>> ((8 : Int32) &&& 31).toUInt32).toInt32).toUInt32 >>> ((8 : Int32) &&& 31).toUInt32).toInt32).toInt8.toInt32)), (.int (((z10.toUInt32 >>> ((8 : Int32) &&& 31).toUInt32).toInt32).toInt8.toInt32)), (.int (z10.toInt8.toInt32)), (.int (((((z6.toUInt32 >>> ((8 : Int32) &&& 31).toUInt32).toInt32).toUInt32 >>> ((8 : Int32) &&& 31).toUInt32).toInt32).toInt8.toInt32)), (.int (((z6.toUInt32 >>> ((8 : Int32) &&& 31).toUInt32).toInt32).toInt8.toInt32)), (.int (z6.toInt8.toInt32))] (.int 0) := by have q := f247; rw [own_g1 (x := z2) (by have q0 := bz2; have q1 := own_lt1 (n := 256) (k := (256 : Int32)) (by decide) hc181; omega), own_g1 (x := z6) (by have q0 := bz6; have q1 := own_lt1 (n := 256) (k := (256 : Int32)) (by decide) hc182; omega)] at q; exact q
     exact ct3 hw b165 b239 k240 z2 z10 z6 p1 p2 p3 p4 p5 z2 z6 z10 ((1 : Int32)) b158 p1 p2 p3 p4 p5 T215.heap n0 O215 hx hby hml hown hret hlk hZ (X215.more (by decide) (by decide)) rfl N215 pre254 g_b165 g_b239 f243 f244 f245 f246 f255 bz2 bz10 bz6
   ·
    have N177 := Fr.app N166 Nq195
    have g_b191 : n0 ≤ b191 := Nat.le_trans (own_oz O166) sz_b191
    have O177 := Old.keep O166 K196 (allS g_b165 all0)
    have f256 := (f175.keep K196 (ninS ne174 nin0))
    have f257 := (f176.keep K196)
    obtain ⟨_, T258, L258, X258, hQ258, st258⟩ := own_vb X177 hx hZ hown (y := yn8) (own_w hw 22 rfl) (own_w hw 23 rfl) (w_25 hw) (own_w hw 24 rfl) (own_w hw 26 rfl) (w_9 hw) rfl f197 (argsL := [(.int 1), (.ref b158), (.int 2), (.int 1)]) (rest := []) (rm50 l Z a0 hw w1 kw1 G [] b165 b158 b191 k158 z2 z6 z10 k192 ((((z2.toUInt32 >>> ((8 : Int32) &&& 31).toUInt32).toInt32).toInt8.toInt32)) (z2.toInt8.toInt32) ((((z6.toUInt32 >>> ((8 : Int32) &&& 31).toUInt32).toInt32).toInt8.toInt32)) (z6.toInt8.toInt32) T177.heap n0 O177 g_b165 g_b158 g_b191 f197 f198 f199 f200 f256 f257 f201 f202) (g := (mkF m 87 (l354_9 p1 p2 p3 p4 p5 z2 z6 z10 b158 b165) [(.int 1), (.int 2), (.ref b158), (.int 1), (.ref b165)])) rfl (by rw [hml]; rfl) rfl (hb hby at_87) (lenOf pd6 rfl) (W := 0) (c1 := 8) (s1 := 33)
    have pre259 : Go p e below T177 (mkF m 87 (l354_9 p1 p2 p3 p4 p5 z2 z6 z10 b158 b165) [(.int 1), (.int 2), (.ref b158), (.int 1), (.ref b165)]) E0 := fun t k => by
     refine pre178 _ ?_
     refine st177 _ ?_
     refine yal X177 hx hby at_79 rfl rfl ?_
     refine yil X177 hx hby at_81 rfl ?_
     refine yal X177 hx hby at_83 rfl rfl ?_
     refine XS.iconst X177.here hx rfl (hb hby at_85) ?_
     refine XS.iconst X177.here hx rfl (hb hby at_86) ?_
     exact k
    rcases hQ258 with ⟨b260, k261, hc262, rfl, Nq263, K264, sz_b260, f265, f266, f267, f268, f269, f270⟩ | ⟨b271, k272, rfl, Nq273, K274, sz_b271, f275, f276, f277, f278, f279, f280⟩
    ·
     have N258 := Fr.app N177 Nq263
     have g_b260 : n0 ≤ b260 := Nat.le_trans (own_oz O177) sz_b260
     have O258 := Old.keep O177 K264 (allS g_b165 all0)
     have pre281 : Go p e below T258 (mkF m 143 (l354_0 p1 p2 p3 p4 p5 z2 z6 z10 b158 b165) []) E0 := fun t k => by
      refine pre259 _ ?_
      refine st258 _ ?_
      refine yil X258 hx hby at_90 rfl ?_
      refine XS.ifYes X258.here hx rfl (pc0 := 92) (pc' := 110) rfl (hb hby at_92) rfl ((if0 _ _).trans (feq (by decide : ¬ ((1 : Int32) = (0 : Int32)))).2) (by decide) (by decide) ?_
      refine yil X258 hx hby at_110 rfl ?_
      refine XS.iconst X258.here hx rfl (hb hby at_112) ?_
      refine yno X258 hx hby at_113 (teq (by decide : (1 : Int32) = (1 : Int32))).2 ?_
      refine yil X258 hx hby at_116 rfl ?_
      refine yis X258 hx hby at_118 (l' := (l354_6 p1 p2 p3 p4 p5 z2 z6 z10 b158 b165)) rfl ?_
      refine yil X258 hx hby at_120 rfl ?_
      refine yis X258 hx hby at_122 (l' := (l354_3 p1 p2 p3 p4 p5 z2 z6 z10 b158 b165)) rfl ?_
      refine yil X258 hx hby at_124 rfl ?_
      refine yis X258 hx hby at_126 (l' := (l354_0 p1 p2 p3 p4 p5 z2 z6 z10 b158 b165)) rfl ?_
      refine ygo X258 hx hby 128 143 rfl at_128 (by decide) ?_
      exact k
     exact ct2 hw b165 b260 k261 z2 z10 z6 p1 p2 p3 p4 p5 z2 z6 z10 ((1 : Int32)) b158 p1 p2 p3 p4 p5 T258.heap n0 O258 hx hby hml hown hret hlk hZ (X258.more (by decide) (by decide)) rfl N258 pre281 g_b165 g_b260 f265 f266 f267 f268 f269 hc193 hc262 hc194 bz2 bz10 bz6
    ·
     have N258 := Fr.app N177 Nq273
     have g_b271 : n0 ≤ b271 := Nat.le_trans (own_oz O177) sz_b271
     have O258 := Old.keep O177 K274 (allS g_b165 all0)
     have pre282 : Go p e below T258 (mkF m 143 (l354_0 p1 p2 p3 p4 p5 z2 z6 z10 b158 b165) []) E0 := fun t k => by
      refine pre259 _ ?_
      refine st258 _ ?_
      refine yil X258 hx hby at_90 rfl ?_
      refine XS.ifYes X258.here hx rfl (pc0 := 92) (pc' := 110) rfl (hb hby at_92) rfl ((if0 _ _).trans (feq (by decide : ¬ ((1 : Int32) = (0 : Int32)))).2) (by decide) (by decide) ?_
      refine yil X258 hx hby at_110 rfl ?_
      refine XS.iconst X258.here hx rfl (hb hby at_112) ?_
      refine yno X258 hx hby at_113 (teq (by decide : (1 : Int32) = (1 : Int32))).2 ?_
      refine yil X258 hx hby at_116 rfl ?_
      refine yis X258 hx hby at_118 (l' := (l354_6 p1 p2 p3 p4 p5 z2 z6 z10 b158 b165)) rfl ?_
      refine yil X258 hx hby at_120 rfl ?_
      refine yis X258 hx hby at_122 (l' := (l354_3 p1 p2 p3 p4 p5 z2 z6 z10 b158 b165)) rfl ?_
      refine yil X258 hx hby at_124 rfl ?_
      refine yis X258 hx hby at_126 (l' := (l354_0 p1 p2 p3 p4 p5 z2 z6 z10 b158 b165)) rfl ?_
      refine ygo X258 hx hby 128 143 rfl at_128 (by decide) ?_
      exact k
     have f283 : Arv Z T258.heap b271 k272 .byte (9 : Int32) [(.int (((((z2.toUInt32 >>> ((8 : Int32) &&& 31).toUInt32).toInt32).toUInt32 >>> ((8 : Int32) &&& 31).toUInt32).toInt32).toInt8.toInt32)), (.int (((z2.toUInt32 >>> ((8 : Int32) &&& 31).toUInt32).toInt32).toInt8.toInt32)), (.int (z2.toInt8.toInt32)), (.int (((((z10.toUInt32 >>> ((8 : Int32) &&& 31).toUInt32).toInt32).toUInt32 >>> ((8 : Int32) &&& 31).toUInt32).toInt32).toInt8.toInt32)), (.int (((z10.toUInt32 >>> ((8 : Int32) &&& 31).toUInt32).toInt32).toInt8.toInt32)), (.int (z10.toInt8.toInt32)), (.int (((((z6.toUInt32 >>> ((8 : Int32) &&& 31).toUInt32).toInt32).toUInt32 >>> ((8 : Int32) &&& 31).toUInt32).toInt32).toInt8.toInt32)), (.int (((z6.toUInt32 >>> ((8 : Int32) &&& 31).toUInt32).toInt32).toInt8.toInt32)), (.int (z6.toInt8.toInt32))] (.int 0) := by have q := f279; rw [own_g2 (x := z2) (by have q0 := bz2; have q1 := own_lt1 (n := 65536) (k := (65536 : Int32)) (by decide) hc193; omega), own_g2 (x := z6) (by have q0 := bz6; have q1 := own_lt1 (n := 65536) (k := (65536 : Int32)) (by decide) hc194; omega)] at q; exact q
     exact ct3 hw b165 b271 k272 z2 z10 z6 p1 p2 p3 p4 p5 z2 z6 z10 ((1 : Int32)) b158 p1 p2 p3 p4 p5 T258.heap n0 O258 hx hby hml hown hret hlk hZ (X258.more (by decide) (by decide)) rfl N258 pre282 g_b165 g_b271 f275 f276 f277 f278 f283 bz2 bz10 bz6
   ·
    have N177 := Fr.app N166 Nq205
    have g_b203 : n0 ≤ b203 := Nat.le_trans (own_oz O166) sz_b203
    have O177 := Old.keep O166 K206 (allS g_b165 all0)
    have f284 := (f175.keep K206 (ninS ne174 nin0))
    have f285 := (f176.keep K206)
    obtain ⟨_, T286, L286, X286, hQ286, st286⟩ := own_vb X177 hx hZ hown (y := yn8) (own_w hw 22 rfl) (own_w hw 23 rfl) (w_25 hw) (own_w hw 24 rfl) (own_w hw 26 rfl) (w_9 hw) rfl f207 (argsL := [(.int 1), (.ref b158), (.int 2), (.int 1)]) (rest := []) (rm51 l Z a0 hw [] b165 b158 b203 k158 z2 z6 z10 k204 ((((((z2.toUInt32 >>> ((8 : Int32) &&& 31).toUInt32).toInt32).toUInt32 >>> ((8 : Int32) &&& 31).toUInt32).toInt32).toInt8.toInt32)) ((((z2.toUInt32 >>> ((8 : Int32) &&& 31).toUInt32).toInt32).toInt8.toInt32)) (z2.toInt8.toInt32) ((((((z6.toUInt32 >>> ((8 : Int32) &&& 31).toUInt32).toInt32).toUInt32 >>> ((8 : Int32) &&& 31).toUInt32).toInt32).toInt8.toInt32)) ((((z6.toUInt32 >>> ((8 : Int32) &&& 31).toUInt32).toInt32).toInt8.toInt32)) (z6.toInt8.toInt32) T177.heap n0 O177 g_b165 g_b158 g_b203 f207 f208 f209 f210 f284 f285 f211) (g := (mkF m 87 (l354_9 p1 p2 p3 p4 p5 z2 z6 z10 b158 b165) [(.int 1), (.int 2), (.ref b158), (.int 1), (.ref b165)])) rfl (by rw [hml]; rfl) rfl (hb hby at_87) (lenOf pd6 rfl) (W := 0) (c1 := 6) (s1 := 24)
    obtain ⟨b287, k288, rfl, Nq289, K290, sz_b287, f291, f292, f293, f294, f295, f296⟩ := hQ286
    have N286 := Fr.app N177 Nq289
    have g_b287 : n0 ≤ b287 := Nat.le_trans (own_oz O177) sz_b287
    have O286 := Old.keep O177 K290 (allS g_b165 all0)
    have pre297 : Go p e below T286 (mkF m 143 (l354_0 p1 p2 p3 p4 p5 z2 z6 z10 b158 b165) []) E0 := fun t k => by
     refine pre178 _ ?_
     refine st177 _ ?_
     refine yal X177 hx hby at_79 rfl rfl ?_
     refine yil X177 hx hby at_81 rfl ?_
     refine yal X177 hx hby at_83 rfl rfl ?_
     refine XS.iconst X177.here hx rfl (hb hby at_85) ?_
     refine XS.iconst X177.here hx rfl (hb hby at_86) ?_
     refine st286 _ ?_
     refine yil X286 hx hby at_90 rfl ?_
     refine XS.ifYes X286.here hx rfl (pc0 := 92) (pc' := 110) rfl (hb hby at_92) rfl ((if0 _ _).trans (feq (by decide : ¬ ((1 : Int32) = (0 : Int32)))).2) (by decide) (by decide) ?_
     refine yil X286 hx hby at_110 rfl ?_
     refine XS.iconst X286.here hx rfl (hb hby at_112) ?_
     refine yno X286 hx hby at_113 (teq (by decide : (1 : Int32) = (1 : Int32))).2 ?_
     refine yil X286 hx hby at_116 rfl ?_
     refine yis X286 hx hby at_118 (l' := (l354_6 p1 p2 p3 p4 p5 z2 z6 z10 b158 b165)) rfl ?_
     refine yil X286 hx hby at_120 rfl ?_
     refine yis X286 hx hby at_122 (l' := (l354_3 p1 p2 p3 p4 p5 z2 z6 z10 b158 b165)) rfl ?_
     refine yil X286 hx hby at_124 rfl ?_
     refine yis X286 hx hby at_126 (l' := (l354_0 p1 p2 p3 p4 p5 z2 z6 z10 b158 b165)) rfl ?_
     refine ygo X286 hx hby 128 143 rfl at_128 (by decide) ?_
     exact k
    exact ct3 hw b165 b287 k288 z2 z10 z6 p1 p2 p3 p4 p5 z2 z6 z10 ((1 : Int32)) b158 p1 p2 p3 p4 p5 T286.heap n0 O286 hx hby hml hown hret hlk hZ (X286.more (by decide) (by decide)) rfl N286 pre297 g_b165 g_b287 f291 f292 f293 f294 f295 bz2 bz10 bz6
  ·
   have hq298 : ((p5 &&& (2147483647 : Int32)) % (3 : Int32)) = (2 : Int32) := (own_geq (n := 2) (k := (2 : Int32)) (by decide) (by have q0 := own_rem (x := (p5 &&& (2147483647 : Int32))) (k := (3 : Int32)) (n := 3) (by decide) (by decide) (by have q0 := own_and (x := p5) (k := (2147483647 : Int32)) (n := 2147483647) (by decide) (by decide); omega); have q1 := own_neq (n := 0) (k := (0 : Int32)) (by decide) hc14; have q2 := own_neq (n := 1) (k := (1 : Int32)) (by decide) hc156; omega))
   have pre299 : Go p e below T9 (mkF m 38 (l354_18 p1 p2 p3 p4 p5 z2 z6 z10) [(.int 2)]) E0 := fun t k => pre13 t (by rw [hq298]; exact k)
   obtain ⟨T300, h300, k300, X300, e300, E300, A300, EX300, st300⟩ := newPE X9 hx hZ (own_w hw 6 rfl) e12 (g := (mkF m 41 (l354_17 p1 p2 p3 p4 p5 z2 z6 z10) [(.int 3)])) rfl (hb hby at_41) rfl (by decide) (cap := 3) (by decide) (by decide) (by decide) (by decide) (ad := "[I") (by decide)
   obtain ⟨b300, g300⟩ : ∃ z, z = h0.size := ⟨_, rfl⟩
   rw [← g300] at A300 EX300 st300
   have M300 : h0.size ≤ h300.size := Nat.le_trans (Nat.le_refl _) E300.1
   have O300 := Old.ext O0 E300
   have sz_b300 : h0.size ≤ b300 := Nat.le_of_eq g300.symm
   have g_b300 : n0 ≤ b300 := Nat.le_trans (own_oz O0) (Nat.le_trans (Nat.le_refl _) sz_b300)
   have V300_0 := Arv.new A300 (by decide)
   have V300 : Arv Z h300 b300 k300 .int (3 : Int32) [(.int 0), (.int 0), (.int 0)] (.int 0) := V300_0.pad (pad_rep [] (.int 0) 3)
   obtain ⟨cl301, Ar301, qa301, Sa301, Na301, Ha301, Ga301⟩ := id (V300)
   have hin301 := inb_of (j := (0 : Int32)) Sa301 ⟨by decide, by decide⟩
   obtain ⟨T302, h302, X302, e302, W302, st302⟩ := stI X300 hx hZ e300 Ar301 (j := (0 : Int32)) hin301 (g := (mkF m 47 (l354_17 p1 p2 p3 p4 p5 z2 z6 z10) [(.int z2), (.int 0), (.ref b300), (.ref b300)])) rfl rfl (hb hby at_47)
   have V302 : Arv Z h302 b300 k300 .int (3 : Int32) [(.int z2), (.int 0), (.int 0)] (.int 0) := Arv.set Ar301 qa301 Sa301 Na301 Ha301 Ga301 rfl W302 0 rfl (Nat.le_of_ble_eq_true rfl)
   have N302 := Fr.snoc X302 N9 g_b300
   have M302 : h0.size ≤ h302.size := Nat.le_trans M300 (Nat.le_of_eq W302.size.symm)
   have O302 := Old.wr O300 W302 g_b300
   obtain ⟨cl303, Ar303, qa303, Sa303, Na303, Ha303, Ga303⟩ := id (V302)
   have hin303 := inb_of (j := (1 : Int32)) Sa303 ⟨by decide, by decide⟩
   obtain ⟨T304, h304, X304, e304, W304, st304⟩ := stI X302 hx hZ e302 Ar303 (j := (1 : Int32)) hin303 (g := (mkF m 52 (l354_17 p1 p2 p3 p4 p5 z2 z6 z10) [(.int z6), (.int 1), (.ref b300), (.ref b300)])) rfl rfl (hb hby at_52)
   have V304 : Arv Z h304 b300 k300 .int (3 : Int32) [(.int z2), (.int z6), (.int 0)] (.int 0) := Arv.set Ar303 qa303 Sa303 Na303 Ha303 Ga303 rfl W304 1 rfl (Nat.le_of_ble_eq_true rfl)
   have N304 := Fr.snoc X304 N302 g_b300
   have M304 : h0.size ≤ h304.size := Nat.le_trans M302 (Nat.le_of_eq W304.size.symm)
   have O304 := Old.wr O302 W304 g_b300
   obtain ⟨cl305, Ar305, qa305, Sa305, Na305, Ha305, Ga305⟩ := id (V304)
   have hin305 := inb_of (j := (2 : Int32)) Sa305 ⟨by decide, by decide⟩
   obtain ⟨T306, h306, X306, e306, W306, st306⟩ := stI X304 hx hZ e304 Ar305 (j := (2 : Int32)) hin305 (g := (mkF m 57 (l354_17 p1 p2 p3 p4 p5 z2 z6 z10) [(.int z10), (.int 2), (.ref b300), (.ref b300)])) rfl rfl (hb hby at_57)
   have V306 : Arv Z h306 b300 k300 .int (3 : Int32) [(.int z2), (.int z6), (.int z10)] (.int 0) := Arv.set Ar305 qa305 Sa305 Na305 Ha305 Ga305 rfl W306 2 rfl (Nat.le_of_ble_eq_true rfl)
   have N306 := Fr.snoc X306 N304 g_b300
   have M306 : h0.size ≤ h306.size := Nat.le_trans M304 (Nat.le_of_eq W306.size.symm)
   have O306 := Old.wr O304 W306 g_b300
   obtain ⟨T307, h307, X307, e307, E307, A307, D307, -, st307⟩ := newO X306 hx hZ hown (own_w hw 7 rfl) (w_8 hw) (w_9 hw) e306 (g := (mkF m 60 (l354_13 p1 p2 p3 p4 p5 z2 z6 z10 b300) [])) rfl (hb hby at_60) (by decide) (by decide)
   obtain ⟨b307, g307⟩ : ∃ z, z = h306.size := ⟨_, rfl⟩
   rw [← g307] at A307 D307 st307
   have O307 := Old.ext O306 E307
   have sz_b307 : h306.size ≤ b307 := Nat.le_of_eq g307.symm
   have g_b307 : n0 ≤ b307 := Nat.le_trans (own_oz O0) (Nat.le_trans M306 sz_b307)
   have F307_19 : Fld Z h307 b307 "com/example/driftless/driftless/CodePoints" "bytes" "[B" .null := D307 (Or.inl (w_19 hw)) (ty := (.array .byte)) (by decide)
   have F307_21 : Fld Z h307 b307 "com/example/driftless/driftless/CodePoints" "width" "I" (.int 0) := D307 (Or.inl (w_21 hw)) (ty := .int) (by decide)
   have F307_35 : Fld Z h307 b307 "com/example/driftless/driftless/CodePoints" "length" "I" (.int 0) := D307 (Or.inl (w_35 hw)) (ty := .int) (by decide)
   obtain ⟨_, T308, L308, X308, hQ308, st308⟩ := own_sb X307 hx hZ hown (y := yn1) (own_w hw 10 rfl) (own_w hw 11 rfl) (own_w hw 12 rfl) (w_9 hw) e307 (a := b307) (argsL := []) (rest := [(.ref b307)]) (rm2 l Z a0 hw w1 kw1 G [] b307 h307 n0 O307 g_b307 A307 F307_19 F307_35 F307_21) (g := (mkF m 64 (l354_13 p1 p2 p3 p4 p5 z2 z6 z10 b300) [(.ref b307), (.ref b307)])) rfl (by rw [hml]; rfl) rfl (hb hby at_64) (lenOf pd1 rfl) (W := 1) (c1 := 2) (s1 := 6)
   obtain ⟨rfl, Nq309, K310, f311, f312, f313, f314⟩ := hQ308
   have N308 := Fr.app N306 Nq309
   have O308 := Old.keep O307 K310 (allS g_b307 all0)
   have lt315 : b300 < h306.size := (Nat.lt_of_lt_of_le (Nat.lt_of_lt_of_le (Nat.lt_of_lt_of_le V300.lt (Nat.le_of_eq W302.size.symm)) (Nat.le_of_eq W304.size.symm)) (Nat.le_of_eq W306.size.symm))
   have ne316 : b300 ≠ b307 := Nat.ne_of_lt (Nat.lt_of_lt_of_le lt315 sz_b307)
   have f317 := ((V306.ext E307).keep K310 (ninS ne316 nin0))
   have f318 := (((((EX300.wr W302).wr W304).wr W306).ext E307).keep K310)
   obtain ⟨_, T319, L319, X319, hQ319, st319⟩ := own_vb X308 hx hZ hown (y := yn8) (own_w hw 22 rfl) (own_w hw 23 rfl) (w_25 hw) (own_w hw 24 rfl) (own_w hw 26 rfl) (w_9 hw) rfl f311 (argsL := [(.int 0), (.ref b300), (.int 0), (.int 2)]) (rest := []) (rm17 l Z a0 hw w1 kw1 G [] b307 b300 k300 z2 z6 z10 T308.heap n0 O308 g_b307 g_b300 f311 f312 f313 f314 f317 f318) (g := (mkF m 76 (l354_10 p1 p2 p3 p4 p5 z2 z6 z10 b300 b307) [(.int 2), (.int 0), (.ref b300), (.int 0), (.ref b307)])) rfl (by rw [hml]; rfl) rfl (hb hby at_76) (lenOf pd6 rfl) (W := 0) (c1 := 5) (s1 := 15)
   have pre320 : Go p e below T308 (mkF m 76 (l354_10 p1 p2 p3 p4 p5 z2 z6 z10 b300 b307) [(.int 2), (.int 0), (.ref b300), (.int 0), (.ref b307)]) E0 := fun t k => by
    refine pre299 _ ?_
    refine yis X9 hx hby at_38 (l' := (l354_17 p1 p2 p3 p4 p5 z2 z6 z10)) rfl ?_
    refine XS.iconst X9.here hx rfl (hb hby at_40) ?_
    refine st300 _ ?_
    refine XS.dup X300.here hx rfl (hb hby at_43) rfl rfl ?_
    refine XS.iconst X300.here hx rfl (hb hby at_44) ?_
    refine yil X300 hx hby at_45 rfl ?_
    refine st302 _ ?_
    refine XS.dup X302.here hx rfl (hb hby at_48) rfl rfl ?_
    refine XS.iconst X302.here hx rfl (hb hby at_49) ?_
    refine yil X302 hx hby at_50 rfl ?_
    refine st304 _ ?_
    refine XS.dup X304.here hx rfl (hb hby at_53) rfl rfl ?_
    refine XS.iconst X304.here hx rfl (hb hby at_54) ?_
    show Steps p.tables e below (T304.setTop (mkF m 55 (l354_17 p1 p2 p3 p4 p5 z2 z6 z10) [(.int 2), (.ref b300), (.ref b300)])) _
    refine yil X304 hx hby at_55 rfl ?_
    refine st306 _ ?_
    refine XS.astore X306.here hx rfl (hb hby at_58) rfl rfl (l' := (l354_13 p1 p2 p3 p4 p5 z2 z6 z10 b300)) rfl ?_
    refine st307 _ ?_
    refine XS.dup X307.here hx rfl (hb hby at_63) rfl rfl ?_
    refine st308 _ ?_
    refine XS.astore X308.here hx rfl (hb hby at_67) rfl rfl (l' := (l354_10 p1 p2 p3 p4 p5 z2 z6 z10 b300 b307)) rfl ?_
    refine yal X308 hx hby at_69 rfl rfl ?_
    refine XS.iconst X308.here hx rfl (hb hby at_71) ?_
    refine yal X308 hx hby at_72 rfl rfl ?_
    refine XS.iconst X308.here hx rfl (hb hby at_74) ?_
    refine XS.iconst X308.here hx rfl (hb hby at_75) ?_
    exact k
   rcases hQ319 with ⟨b321, k322, hc323, hc324, rfl, Nq325, K326, sz_b321, f327, f328, f329, f330, f331, f332⟩ | ⟨b333, k334, hc335, hc336, rfl, Nq337, K338, sz_b333, f339, f340, f341, f342, f343, f344⟩ | ⟨b345, k346, rfl, Nq347, K348, sz_b345, f349, f350, f351, f352, f353, f354⟩
   ·
    have N319 := Fr.app N308 Nq325
    have g_b321 : n0 ≤ b321 := Nat.le_trans (own_oz O308) sz_b321
    have O319 := Old.keep O308 K326 (allS g_b307 all0)
    have f355 := (f317.keep K326 (ninS ne316 nin0))
    have f356 := (f318.keep K326)
    obtain ⟨_, T357, L357, X357, hQ357, st357⟩ := own_vb X319 hx hZ hown (y := yn8) (own_w hw 22 rfl) (own_w hw 23 rfl) (w_25 hw) (own_w hw 24 rfl) (own_w hw 26 rfl) (w_9 hw) rfl f327 (argsL := [(.int 2), (.ref b300), (.int 2), (.int 1)]) (rest := []) (rm55 l Z a0 hw w1 kw1 G [] b307 b300 b321 k300 z2 z6 z10 k322 (z2.toInt8.toInt32) (z6.toInt8.toInt32) T319.heap n0 O319 g_b307 g_b300 g_b321 f327 f328 f329 f330 f355 f356 f331 f332) (g := (mkF m 87 (l354_10 p1 p2 p3 p4 p5 z2 z6 z10 b300 b307) [(.int 1), (.int 2), (.ref b300), (.int 2), (.ref b307)])) rfl (by rw [hml]; rfl) rfl (hb hby at_87) (lenOf pd6 rfl) (W := 0) (c1 := 8) (s1 := 33)
    have pre358 : Go p e below T319 (mkF m 87 (l354_10 p1 p2 p3 p4 p5 z2 z6 z10 b300 b307) [(.int 1), (.int 2), (.ref b300), (.int 2), (.ref b307)]) E0 := fun t k => by
     refine pre320 _ ?_
     refine st319 _ ?_
     refine yal X319 hx hby at_79 rfl rfl ?_
     refine yil X319 hx hby at_81 rfl ?_
     refine yal X319 hx hby at_83 rfl rfl ?_
     refine XS.iconst X319.here hx rfl (hb hby at_85) ?_
     refine XS.iconst X319.here hx rfl (hb hby at_86) ?_
     exact k
    rcases hQ357 with ⟨b359, k360, hc361, rfl, Nq362, K363, sz_b359, f364, f365, f366, f367, f368, f369⟩ | ⟨b370, k371, hc372, rfl, Nq373, K374, sz_b370, f375, f376, f377, f378, f379, f380⟩ | ⟨b381, k382, rfl, Nq383, K384, sz_b381, f385, f386, f387, f388, f389, f390⟩
    ·
     have N357 := Fr.app N319 Nq362
     have g_b359 : n0 ≤ b359 := Nat.le_trans (own_oz O319) sz_b359
     have O357 := Old.keep O319 K363 (allS g_b307 all0)
     have pre391 : Go p e below T357 (mkF m 143 (l354_1 p1 p2 p3 p4 p5 z2 z6 z10 b300 b307) []) E0 := fun t k => by
      refine pre358 _ ?_
      refine st357 _ ?_
      refine yil X357 hx hby at_90 rfl ?_
      refine XS.ifYes X357.here hx rfl (pc0 := 92) (pc' := 110) rfl (hb hby at_92) rfl ((if0 _ _).trans (feq (by decide : ¬ ((2 : Int32) = (0 : Int32)))).2) (by decide) (by decide) ?_
      refine yil X357 hx hby at_110 rfl ?_
      refine XS.iconst X357.here hx rfl (hb hby at_112) ?_
      refine yye X357 hx hby 113 131 rfl at_113 (feq (by decide : ¬ ((2 : Int32) = (1 : Int32)))).2 (by decide) ?_
      refine yil X357 hx hby at_131 rfl ?_
      refine yis X357 hx hby at_133 (l' := (l354_7 p1 p2 p3 p4 p5 z2 z6 z10 b300 b307)) rfl ?_
      refine yil X357 hx hby at_135 rfl ?_
      refine yis X357 hx hby at_137 (l' := (l354_4 p1 p2 p3 p4 p5 z2 z6 z10 b300 b307)) rfl ?_
      refine yil X357 hx hby at_139 rfl ?_
      refine yis X357 hx hby at_141 (l' := (l354_1 p1 p2 p3 p4 p5 z2 z6 z10 b300 b307)) rfl ?_
      exact k
     exact ct1 hw b307 b359 k360 z2 z6 z10 p1 p2 p3 p4 p5 z2 z6 z10 ((2 : Int32)) b300 p1 p2 p3 p4 p5 T357.heap n0 O357 hx hby hml hown hret hlk hZ (X357.more (by decide) (by decide)) rfl N357 pre391 g_b307 g_b359 f364 f365 f366 f367 f368 hc323 hc324 hc361 bz2 bz6 bz10
    ·
     have N357 := Fr.app N319 Nq373
     have g_b370 : n0 ≤ b370 := Nat.le_trans (own_oz O319) sz_b370
     have O357 := Old.keep O319 K374 (allS g_b307 all0)
     have pre392 : Go p e below T357 (mkF m 143 (l354_1 p1 p2 p3 p4 p5 z2 z6 z10 b300 b307) []) E0 := fun t k => by
      refine pre358 _ ?_
      refine st357 _ ?_
      refine yil X357 hx hby at_90 rfl ?_
      refine XS.ifYes X357.here hx rfl (pc0 := 92) (pc' := 110) rfl (hb hby at_92) rfl ((if0 _ _).trans (feq (by decide : ¬ ((2 : Int32) = (0 : Int32)))).2) (by decide) (by decide) ?_
      refine yil X357 hx hby at_110 rfl ?_
      refine XS.iconst X357.here hx rfl (hb hby at_112) ?_
      refine yye X357 hx hby 113 131 rfl at_113 (feq (by decide : ¬ ((2 : Int32) = (1 : Int32)))).2 (by decide) ?_
      refine yil X357 hx hby at_131 rfl ?_
      refine yis X357 hx hby at_133 (l' := (l354_7 p1 p2 p3 p4 p5 z2 z6 z10 b300 b307)) rfl ?_
      refine yil X357 hx hby at_135 rfl ?_
      refine yis X357 hx hby at_137 (l' := (l354_4 p1 p2 p3 p4 p5 z2 z6 z10 b300 b307)) rfl ?_
      refine yil X357 hx hby at_139 rfl ?_
      refine yis X357 hx hby at_141 (l' := (l354_1 p1 p2 p3 p4 p5 z2 z6 z10 b300 b307)) rfl ?_
      exact k
     have hz393 : z2 < (65536 : Int32) := (own_glt1 (n := 65536) (k := (65536 : Int32)) (by decide) (by have q0 := bz2; have q1 := own_lt1 (n := 256) (k := (256 : Int32)) (by decide) hc323; omega))
     have hz394 : z6 < (65536 : Int32) := (own_glt1 (n := 65536) (k := (65536 : Int32)) (by decide) (by have q0 := bz6; have q1 := own_lt1 (n := 256) (k := (256 : Int32)) (by decide) hc324; omega))
     have f395 : Arv Z T357.heap b370 k371 .byte (6 : Int32) [(.int (((z2.toUInt32 >>> ((8 : Int32) &&& 31).toUInt32).toInt32).toInt8.toInt32)), (.int (z2.toInt8.toInt32)), (.int (((z6.toUInt32 >>> ((8 : Int32) &&& 31).toUInt32).toInt32).toInt8.toInt32)), (.int (z6.toInt8.toInt32)), (.int (((z10.toUInt32 >>> ((8 : Int32) &&& 31).toUInt32).toInt32).toInt8.toInt32)), (.int (z10.toInt8.toInt32))] (.int 0) := by have q := f379; rw [own_g1 (x := z2) (by have q0 := bz2; have q1 := own_lt1 (n := 256) (k := (256 : Int32)) (by decide) hc323; have q2 := own_lt1 (n := 65536) (k := (65536 : Int32)) (by decide) hz393; omega), own_g1 (x := z6) (by have q0 := bz6; have q1 := own_lt1 (n := 256) (k := (256 : Int32)) (by decide) hc324; have q2 := own_lt1 (n := 65536) (k := (65536 : Int32)) (by decide) hz394; omega)] at q; exact q
     exact ct2 hw b307 b370 k371 z2 z6 z10 p1 p2 p3 p4 p5 z2 z6 z10 ((2 : Int32)) b300 p1 p2 p3 p4 p5 T357.heap n0 O357 hx hby hml hown hret hlk hZ (X357.more (by decide) (by decide)) rfl N357 pre392 g_b307 g_b370 f375 f376 f377 f378 f395 hz393 hz394 hc372 bz2 bz6 bz10
    ·
     have N357 := Fr.app N319 Nq383
     have g_b381 : n0 ≤ b381 := Nat.le_trans (own_oz O319) sz_b381
     have O357 := Old.keep O319 K384 (allS g_b307 all0)
     have pre396 : Go p e below T357 (mkF m 143 (l354_1 p1 p2 p3 p4 p5 z2 z6 z10 b300 b307) []) E0 := fun t k => by
      refine pre358 _ ?_
      refine st357 _ ?_
      refine yil X357 hx hby at_90 rfl ?_
      refine XS.ifYes X357.here hx rfl (pc0 := 92) (pc' := 110) rfl (hb hby at_92) rfl ((if0 _ _).trans (feq (by decide : ¬ ((2 : Int32) = (0 : Int32)))).2) (by decide) (by decide) ?_
      refine yil X357 hx hby at_110 rfl ?_
      refine XS.iconst X357.here hx rfl (hb hby at_112) ?_
      refine yye X357 hx hby 113 131 rfl at_113 (feq (by decide : ¬ ((2 : Int32) = (1 : Int32)))).2 (by decide) ?_
      refine yil X357 hx hby at_131 rfl ?_
      refine yis X357 hx hby at_133 (l' := (l354_7 p1 p2 p3 p4 p5 z2 z6 z10 b300 b307)) rfl ?_
      refine yil X357 hx hby at_135 rfl ?_
      refine yis X357 hx hby at_137 (l' := (l354_4 p1 p2 p3 p4 p5 z2 z6 z10 b300 b307)) rfl ?_
      refine yil X357 hx hby at_139 rfl ?_
      refine yis X357 hx hby at_141 (l' := (l354_1 p1 p2 p3 p4 p5 z2 z6 z10 b300 b307)) rfl ?_
      exact k
     have f397 : Arv Z T357.heap b381 k382 .byte (9 : Int32) [(.int (((((z2.toUInt32 >>> ((8 : Int32) &&& 31).toUInt32).toInt32).toUInt32 >>> ((8 : Int32) &&& 31).toUInt32).toInt32).toInt8.toInt32)), (.int (((z2.toUInt32 >>> ((8 : Int32) &&& 31).toUInt32).toInt32).toInt8.toInt32)), (.int (z2.toInt8.toInt32)), (.int (((((z6.toUInt32 >>> ((8 : Int32) &&& 31).toUInt32).toInt32).toUInt32 >>> ((8 : Int32) &&& 31).toUInt32).toInt32).toInt8.toInt32)), (.int (((z6.toUInt32 >>> ((8 : Int32) &&& 31).toUInt32).toInt32).toInt8.toInt32)), (.int (z6.toInt8.toInt32)), (.int (((((z10.toUInt32 >>> ((8 : Int32) &&& 31).toUInt32).toInt32).toUInt32 >>> ((8 : Int32) &&& 31).toUInt32).toInt32).toInt8.toInt32)), (.int (((z10.toUInt32 >>> ((8 : Int32) &&& 31).toUInt32).toInt32).toInt8.toInt32)), (.int (z10.toInt8.toInt32))] (.int 0) := by have q := f389; rw [own_g1 (x := z2) (by have q0 := bz2; have q1 := own_lt1 (n := 256) (k := (256 : Int32)) (by decide) hc323; omega), own_g1 (x := z6) (by have q0 := bz6; have q1 := own_lt1 (n := 256) (k := (256 : Int32)) (by decide) hc324; omega)] at q; exact q
     exact ct3 hw b307 b381 k382 z2 z6 z10 p1 p2 p3 p4 p5 z2 z6 z10 ((2 : Int32)) b300 p1 p2 p3 p4 p5 T357.heap n0 O357 hx hby hml hown hret hlk hZ (X357.more (by decide) (by decide)) rfl N357 pre396 g_b307 g_b381 f385 f386 f387 f388 f397 bz2 bz6 bz10
   ·
    have N319 := Fr.app N308 Nq337
    have g_b333 : n0 ≤ b333 := Nat.le_trans (own_oz O308) sz_b333
    have O319 := Old.keep O308 K338 (allS g_b307 all0)
    have f398 := (f317.keep K338 (ninS ne316 nin0))
    have f399 := (f318.keep K338)
    obtain ⟨_, T400, L400, X400, hQ400, st400⟩ := own_vb X319 hx hZ hown (y := yn8) (own_w hw 22 rfl) (own_w hw 23 rfl) (w_25 hw) (own_w hw 24 rfl) (own_w hw 26 rfl) (w_9 hw) rfl f339 (argsL := [(.int 2), (.ref b300), (.int 2), (.int 1)]) (rest := []) (rm56 l Z a0 hw w1 kw1 G [] b307 b300 b333 k300 z2 z6 z10 k334 ((((z2.toUInt32 >>> ((8 : Int32) &&& 31).toUInt32).toInt32).toInt8.toInt32)) (z2.toInt8.toInt32) ((((z6.toUInt32 >>> ((8 : Int32) &&& 31).toUInt32).toInt32).toInt8.toInt32)) (z6.toInt8.toInt32) T319.heap n0 O319 g_b307 g_b300 g_b333 f339 f340 f341 f342 f398 f399 f343 f344) (g := (mkF m 87 (l354_10 p1 p2 p3 p4 p5 z2 z6 z10 b300 b307) [(.int 1), (.int 2), (.ref b300), (.int 2), (.ref b307)])) rfl (by rw [hml]; rfl) rfl (hb hby at_87) (lenOf pd6 rfl) (W := 0) (c1 := 8) (s1 := 33)
    have pre401 : Go p e below T319 (mkF m 87 (l354_10 p1 p2 p3 p4 p5 z2 z6 z10 b300 b307) [(.int 1), (.int 2), (.ref b300), (.int 2), (.ref b307)]) E0 := fun t k => by
     refine pre320 _ ?_
     refine st319 _ ?_
     refine yal X319 hx hby at_79 rfl rfl ?_
     refine yil X319 hx hby at_81 rfl ?_
     refine yal X319 hx hby at_83 rfl rfl ?_
     refine XS.iconst X319.here hx rfl (hb hby at_85) ?_
     refine XS.iconst X319.here hx rfl (hb hby at_86) ?_
     exact k
    rcases hQ400 with ⟨b402, k403, hc404, rfl, Nq405, K406, sz_b402, f407, f408, f409, f410, f411, f412⟩ | ⟨b413, k414, rfl, Nq415, K416, sz_b413, f417, f418, f419, f420, f421, f422⟩
    ·
     have N400 := Fr.app N319 Nq405
     have g_b402 : n0 ≤ b402 := Nat.le_trans (own_oz O319) sz_b402
     have O400 := Old.keep O319 K406 (allS g_b307 all0)
     have pre423 : Go p e below T400 (mkF m 143 (l354_1 p1 p2 p3 p4 p5 z2 z6 z10 b300 b307) []) E0 := fun t k => by
      refine pre401 _ ?_
      refine st400 _ ?_
      refine yil X400 hx hby at_90 rfl ?_
      refine XS.ifYes X400.here hx rfl (pc0 := 92) (pc' := 110) rfl (hb hby at_92) rfl ((if0 _ _).trans (feq (by decide : ¬ ((2 : Int32) = (0 : Int32)))).2) (by decide) (by decide) ?_
      refine yil X400 hx hby at_110 rfl ?_
      refine XS.iconst X400.here hx rfl (hb hby at_112) ?_
      refine yye X400 hx hby 113 131 rfl at_113 (feq (by decide : ¬ ((2 : Int32) = (1 : Int32)))).2 (by decide) ?_
      refine yil X400 hx hby at_131 rfl ?_
      refine yis X400 hx hby at_133 (l' := (l354_7 p1 p2 p3 p4 p5 z2 z6 z10 b300 b307)) rfl ?_
      refine yil X400 hx hby at_135 rfl ?_
      refine yis X400 hx hby at_137 (l' := (l354_4 p1 p2 p3 p4 p5 z2 z6 z10 b300 b307)) rfl ?_
      refine yil X400 hx hby at_139 rfl ?_
      refine yis X400 hx hby at_141 (l' := (l354_1 p1 p2 p3 p4 p5 z2 z6 z10 b300 b307)) rfl ?_
      exact k
     exact ct2 hw b307 b402 k403 z2 z6 z10 p1 p2 p3 p4 p5 z2 z6 z10 ((2 : Int32)) b300 p1 p2 p3 p4 p5 T400.heap n0 O400 hx hby hml hown hret hlk hZ (X400.more (by decide) (by decide)) rfl N400 pre423 g_b307 g_b402 f407 f408 f409 f410 f411 hc335 hc336 hc404 bz2 bz6 bz10
    ·
     have N400 := Fr.app N319 Nq415
     have g_b413 : n0 ≤ b413 := Nat.le_trans (own_oz O319) sz_b413
     have O400 := Old.keep O319 K416 (allS g_b307 all0)
     have pre424 : Go p e below T400 (mkF m 143 (l354_1 p1 p2 p3 p4 p5 z2 z6 z10 b300 b307) []) E0 := fun t k => by
      refine pre401 _ ?_
      refine st400 _ ?_
      refine yil X400 hx hby at_90 rfl ?_
      refine XS.ifYes X400.here hx rfl (pc0 := 92) (pc' := 110) rfl (hb hby at_92) rfl ((if0 _ _).trans (feq (by decide : ¬ ((2 : Int32) = (0 : Int32)))).2) (by decide) (by decide) ?_
      refine yil X400 hx hby at_110 rfl ?_
      refine XS.iconst X400.here hx rfl (hb hby at_112) ?_
      refine yye X400 hx hby 113 131 rfl at_113 (feq (by decide : ¬ ((2 : Int32) = (1 : Int32)))).2 (by decide) ?_
      refine yil X400 hx hby at_131 rfl ?_
      refine yis X400 hx hby at_133 (l' := (l354_7 p1 p2 p3 p4 p5 z2 z6 z10 b300 b307)) rfl ?_
      refine yil X400 hx hby at_135 rfl ?_
      refine yis X400 hx hby at_137 (l' := (l354_4 p1 p2 p3 p4 p5 z2 z6 z10 b300 b307)) rfl ?_
      refine yil X400 hx hby at_139 rfl ?_
      refine yis X400 hx hby at_141 (l' := (l354_1 p1 p2 p3 p4 p5 z2 z6 z10 b300 b307)) rfl ?_
      exact k
     have f425 : Arv Z T400.heap b413 k414 .byte (9 : Int32) [(.int (((((z2.toUInt32 >>> ((8 : Int32) &&& 31).toUInt32).toInt32).toUInt32 >>> ((8 : Int32) &&& 31).toUInt32).toInt32).toInt8.toInt32)), (.int (((z2.toUInt32 >>> ((8 : Int32) &&& 31).toUInt32).toInt32).toInt8.toInt32)), (.int (z2.toInt8.toInt32)), (.int (((((z6.toUInt32 >>> ((8 : Int32) &&& 31).toUInt32).toInt32).toUInt32 >>> ((8 : Int32) &&& 31).toUInt32).toInt32).toInt8.toInt32)), (.int (((z6.toUInt32 >>> ((8 : Int32) &&& 31).toUInt32).toInt32).toInt8.toInt32)), (.int (z6.toInt8.toInt32)), (.int (((((z10.toUInt32 >>> ((8 : Int32) &&& 31).toUInt32).toInt32).toUInt32 >>> ((8 : Int32) &&& 31).toUInt32).toInt32).toInt8.toInt32)), (.int (((z10.toUInt32 >>> ((8 : Int32) &&& 31).toUInt32).toInt32).toInt8.toInt32)), (.int (z10.toInt8.toInt32))] (.int 0) := by have q := f421; rw [own_g2 (x := z2) (by have q0 := bz2; have q1 := own_lt1 (n := 65536) (k := (65536 : Int32)) (by decide) hc335; omega), own_g2 (x := z6) (by have q0 := bz6; have q1 := own_lt1 (n := 65536) (k := (65536 : Int32)) (by decide) hc336; omega)] at q; exact q
     exact ct3 hw b307 b413 k414 z2 z6 z10 p1 p2 p3 p4 p5 z2 z6 z10 ((2 : Int32)) b300 p1 p2 p3 p4 p5 T400.heap n0 O400 hx hby hml hown hret hlk hZ (X400.more (by decide) (by decide)) rfl N400 pre424 g_b307 g_b413 f417 f418 f419 f420 f425 bz2 bz6 bz10
   ·
    have N319 := Fr.app N308 Nq347
    have g_b345 : n0 ≤ b345 := Nat.le_trans (own_oz O308) sz_b345
    have O319 := Old.keep O308 K348 (allS g_b307 all0)
    have f426 := (f317.keep K348 (ninS ne316 nin0))
    have f427 := (f318.keep K348)
    obtain ⟨_, T428, L428, X428, hQ428, st428⟩ := own_vb X319 hx hZ hown (y := yn8) (own_w hw 22 rfl) (own_w hw 23 rfl) (w_25 hw) (own_w hw 24 rfl) (own_w hw 26 rfl) (w_9 hw) rfl f349 (argsL := [(.int 2), (.ref b300), (.int 2), (.int 1)]) (rest := []) (rm57 l Z a0 hw [] b307 b300 b345 k300 z2 z6 z10 k346 ((((((z2.toUInt32 >>> ((8 : Int32) &&& 31).toUInt32).toInt32).toUInt32 >>> ((8 : Int32) &&& 31).toUInt32).toInt32).toInt8.toInt32)) ((((z2.toUInt32 >>> ((8 : Int32) &&& 31).toUInt32).toInt32).toInt8.toInt32)) (z2.toInt8.toInt32) ((((((z6.toUInt32 >>> ((8 : Int32) &&& 31).toUInt32).toInt32).toUInt32 >>> ((8 : Int32) &&& 31).toUInt32).toInt32).toInt8.toInt32)) ((((z6.toUInt32 >>> ((8 : Int32) &&& 31).toUInt32).toInt32).toInt8.toInt32)) (z6.toInt8.toInt32) T319.heap n0 O319 g_b307 g_b300 g_b345 f349 f350 f351 f352 f426 f427 f353) (g := (mkF m 87 (l354_10 p1 p2 p3 p4 p5 z2 z6 z10 b300 b307) [(.int 1), (.int 2), (.ref b300), (.int 2), (.ref b307)])) rfl (by rw [hml]; rfl) rfl (hb hby at_87) (lenOf pd6 rfl) (W := 0) (c1 := 6) (s1 := 24)
    obtain ⟨b429, k430, rfl, Nq431, K432, sz_b429, f433, f434, f435, f436, f437, f438⟩ := hQ428
    have N428 := Fr.app N319 Nq431
    have g_b429 : n0 ≤ b429 := Nat.le_trans (own_oz O319) sz_b429
    have O428 := Old.keep O319 K432 (allS g_b307 all0)
    have pre439 : Go p e below T428 (mkF m 143 (l354_1 p1 p2 p3 p4 p5 z2 z6 z10 b300 b307) []) E0 := fun t k => by
     refine pre320 _ ?_
     refine st319 _ ?_
     refine yal X319 hx hby at_79 rfl rfl ?_
     refine yil X319 hx hby at_81 rfl ?_
     refine yal X319 hx hby at_83 rfl rfl ?_
     refine XS.iconst X319.here hx rfl (hb hby at_85) ?_
     refine XS.iconst X319.here hx rfl (hb hby at_86) ?_
     refine st428 _ ?_
     refine yil X428 hx hby at_90 rfl ?_
     refine XS.ifYes X428.here hx rfl (pc0 := 92) (pc' := 110) rfl (hb hby at_92) rfl ((if0 _ _).trans (feq (by decide : ¬ ((2 : Int32) = (0 : Int32)))).2) (by decide) (by decide) ?_
     refine yil X428 hx hby at_110 rfl ?_
     refine XS.iconst X428.here hx rfl (hb hby at_112) ?_
     refine yye X428 hx hby 113 131 rfl at_113 (feq (by decide : ¬ ((2 : Int32) = (1 : Int32)))).2 (by decide) ?_
     refine yil X428 hx hby at_131 rfl ?_
     refine yis X428 hx hby at_133 (l' := (l354_7 p1 p2 p3 p4 p5 z2 z6 z10 b300 b307)) rfl ?_
     refine yil X428 hx hby at_135 rfl ?_
     refine yis X428 hx hby at_137 (l' := (l354_4 p1 p2 p3 p4 p5 z2 z6 z10 b300 b307)) rfl ?_
     refine yil X428 hx hby at_139 rfl ?_
     refine yis X428 hx hby at_141 (l' := (l354_1 p1 p2 p3 p4 p5 z2 z6 z10 b300 b307)) rfl ?_
     exact k
    exact ct3 hw b307 b429 k430 z2 z6 z10 p1 p2 p3 p4 p5 z2 z6 z10 ((2 : Int32)) b300 p1 p2 p3 p4 p5 T428.heap n0 O428 hx hby hml hown hret hlk hZ (X428.more (by decide) (by decide)) rfl N428 pre439 g_b307 g_b429 f433 f434 f435 f436 f437 bz2 bz6 bz10
set_option maxRecDepth 65536 in
set_option maxHeartbeats 40000000 in
theorem comes_1 {Post : Tables → Env → Array Value → State → Outcome → State → Prop} (hpost : ∀ tb e args s v u, (limb_1_1.after args s (.returned v) u = true ∧ limb_1_2.after args s (.returned v) u = true ∧ True) → FrameEnd s (.returned v) u (Jvm.fieldLocs frame_1_writes args s ++ Jvm.arrayLocs frame_1_arrays args s ++ Jvm.staticLocs frame_1_statics s) 24 128 → Post tb e args s (.returned v) u) :
    ArmFor flags0 classFile x code maxLocals ret World_1 tables_1 room_1 Calls_1 rest_1 Pre_1 Post := by
  intro l hfl _ _ p e ha hc hk s m args below hf hA hF happ hP
  obtain ⟨hcalls, hrest, hpre⟩ := hP
  obtain ⟨-, -, -, hnamed, -, -, -, hat⟩ := (Spec.applies_iff hf).mp happ
  obtain ⟨hg, hn⟩ := and_e (Cond.before_iff.mp (show (Jvm.Cond.and given_1 narrow_1).before args s = true from hpre))
  obtain ⟨hcount, hk0⟩ := and_e hg
  obtain ⟨hi0, hk1⟩ := and_e hk0
  obtain ⟨hi1, hk2⟩ := and_e hk1
  obtain ⟨hi2, hk3⟩ := and_e hk2
  obtain ⟨hi3, hk4⟩ := and_e hk3
  have hi4 := hk4
  obtain ⟨w_a0, w_a1, w_a2, w_a3, w_a4, rfl⟩ : ∃ w_a0 w_a1 w_a2 w_a3 w_a4 : Value, args = #[w_a0, w_a1, w_a2, w_a3, w_a4] := by
    have hs : args.size = 5 := by simpa [Cond.value, given_1] using hcount
    obtain ⟨L⟩ := args
    match L, hs with
    | [w_a0, w_a1, w_a2, w_a3, w_a4], _ => exact ⟨w_a0, w_a1, w_a2, w_a3, w_a4, rfl⟩
  have hw := fun d (hd : d ∈ tables_1) => atoms_spec (ws := Jvm.Cond.code x code maxLocals ret :: tables_1) hat d (List.mem_cons_of_mem _ hd)
  have hfit : Fit s := fun {y c} hc i hi => by
    obtain ⟨ha, rfl⟩ := Array.getElem?_eq_some_iff.mp hc
    have q := List.all_eq_true.mp ((Array.all_eq_true_iff_forall_mem.mp hF) _ (Array.getElem_mem ha)) i (List.mem_range.mpr hi)
    simpa [Array.getElem?_eq_getElem hi] using q
  obtain ⟨i0, ei0⟩ := is_v hi0
  obtain rfl : w_a0 = (.int i0) := Option.some.inj ei0
  obtain ⟨i1, ei1⟩ := is_v hi1
  obtain rfl : w_a1 = (.int i1) := Option.some.inj ei1
  obtain ⟨i2, ei2⟩ := is_v hi2
  obtain rfl : w_a2 = (.int i2) := Option.some.inj ei2
  obtain ⟨i3, ei3⟩ := is_v hi3
  obtain rfl : w_a3 = (.int i3) := Option.some.inj ei3
  obtain ⟨i4, ei4⟩ := is_v hi4
  obtain rfl : w_a4 = (.int i4) := Option.some.inj ei4
  obtain ⟨gl0, gr0⟩ := and_e hn
  obtain ⟨gl1, gr1⟩ := and_e gr0
  obtain ⟨w1, ev_w1⟩ := exa_v gl1
  have S_w1 : Sta s s.heap "com/example/driftless/driftless/CodePoints" "NONE" "[B" (.ref w1) := Sta.start ev_w1 (Or.inr ⟨(own_w hw 9 rfl), (own_w hw 17 rfl)⟩)
  have E_w1 : Exa s s.heap w1 "[B" := Exa.start ev_w1 gl1
  obtain ⟨cl_w1, Ar_w1⟩ := Arr.start ev_w1 gl0
  obtain ⟨lz_w1, ln_w1⟩ := own_len Ar_w1 ev_w1 (eqv_i rfl gr1)
  obtain ⟨kw1, hk_w1⟩ : ∃ k, k = cl_w1.cls := ⟨_, rfl⟩
  have A_w1 : Arv s s.heap w1 kw1 .byte (0 : Int32) [] (.int 0) := hk_w1 ▸ Arv.start hfit Ar_w1 lz_w1 ln_w1 (by decide) rfl trivial
  have G : GW s w1 kw1 := ⟨S_w1, E_w1, A_w1⟩
  obtain ⟨n, o, h1, h2, h3, _, L, rfl, ⟨rfl, N⟩, hq⟩ := rm0 l s _ hw w1 kw1 G tables_1 i0 i1 i2 i3 i4 s.heap s.heap.size (Old.start s) p e ha hc hk s m _ below hf ((Spec.applies_iff_loose hf).mp happ).1 ⟨rfl, State.Warmed39.refl s, rfl⟩ trivial
  refine ⟨n, _, h1, h2, h3, hpost _ _ _ _ _ _ ⟨Cond.after_iff.mpr rfl, Cond.after_iff.mpr (eq_i res_at (Term.int_eval (1)) rfl), trivial⟩ ⟨hq.1, hq.2.1, (hq.2.2.sift fun y hy => Or.inr (N y hy)).mono (by decide) (by decide)⟩⟩
theorem main_1_1 : Claimed_1_1 := comes_1 fun _ _ _ _ _ _ h hF => ⟨h.1, hF⟩
theorem main_1_2 : Claimed_1_2 := comes_1 fun _ _ _ _ _ _ h hF => ⟨h.2.1, hF⟩
end Jvm.Pilot.@@N@@
namespace Jvm.Pilot.@@N@@
open Jvm Jvm.ClassFile Sem Op Lib Jvm.Free Jvm.Stand Jvm.Pilot.@@N@@.Jvm.D
/-! MADE BY PROGRAM (witnessworld.py) out of the Statement's table words and the real class files: 12 classes; the members and pool entries that the words name. The judged class is class 1, her method 2. -/
namespace start1
open Jvm.ClassFile
def u (s : String) : CpInfo := .utf8 (stringToUtf16 s)
/-- a pool by its gaps: so many unusable entries, then the entry; so many at the end -/
def gap : Nat → List CpInfo → List CpInfo
  | 0, r => r
  | n + 1, r => .unusable :: gap n r
def poolList (es : List (Nat × CpInfo)) (last : Nat) : List CpInfo := es.foldr (fun e r => gap e.1 (e.2 :: r)) (gap last [])
def pool (es : List (Nat × CpInfo)) (last : Nat) : Array CpInfo := ⟨poolList es last⟩
def fileOf (pool : Array CpInfo) (this : Nat) (attrs : Array Attribute := #[]) (ms : Array MethodInfo := #[]) (fl : Nat := 33) (sup : Nat := 0) (ifs : Array Nat := #[]) (fds : Array FieldInfo := #[]) : ClassFile where
  minorVersion := 0
  majorVersion := 65
  constantPool := pool
  accessFlags := fl
  thisClass := this
  superClass := sup
  interfaces := ifs
  fields := fds
  methods := ms
  attributes := attrs
def plain (name : String) (sup : Option ClassId) : Class where
  name := name
  kind := .ordinary
  loader := none
  accessFlags := 33
  super := sup
  interfaces := #[]
  cf := none
  fields := #[]
  methods := #[]
  instanceTypes := #[]
  staticTypes := #[]
  resolved := #[]
  callSites := []
  init := .initialized
  statics := none
  mirror := none

def pool0 : Array CpInfo := pool [(5, u "<init>"), (0, u "()V"), (1, .class_ 10), (1, u "java/lang/Object")] 113

def k0c0 : Code := { maxStack := 0, maxLocals := 1, code := object_method_1_code, exceptionTable := #[], attributes := #[] }
def k0m0 : Method := { name := "<init>", desc := "()V", sig := { parameters := [], returnType := none }, accessFlags := 1, code := some k0c0 }
/-- java/lang/Object -/
def k0 : Class := { plain "java/lang/Object" none with
  accessFlags := 33
  interfaces := #[]
  cf := some (fileOf pool0 8 #[] #[{ accessFlags := 1, nameIndex := 5, descriptorIndex := 6, attributes := #[] }] 33 0 #[] #[])
  fields := #[]
  methods := #[k0m0]
  instanceTypes := #[]
  staticTypes := #[]
  resolved := Array.replicate 124 none
  statics := none }

def pool1 : Array CpInfo := pool [(2, .class_ 4), (0, .nameAndType 5 6), (0, u "java/lang/Object"), (0, u "<init>"), (0, u "()V"), (0, .integer 65535), (0, .integer 2147483647), (0, .integer 1114112), (0, .methodref 11 12), (0, .class_ 13), (0, .nameAndType 14 15), (0, u "com/example/driftless/driftless/CodePointsGetPinLaw"), (0, u "cp"), (0, u "(II)I"), (0, .class_ 17), (0, u "com/example/driftless/driftless/CodePoints"), (0, .methodref 16 3), (0, .methodref 16 20), (0, .nameAndType 21 22), (0, u "insert"), (0, u "(I[III)V"), (0, .methodref 16 24), (0, .nameAndType 25 26), (0, u "length"), (0, u "()I"), (0, .methodref 16 28), (0, .nameAndType 29 30), (0, u "get"), (0, u "(I)I"), (3, u "law"), (0, u "(IIIII)Z")] 4

def k1m0 : Method := { name := "<init>", desc := "()V", sig := { parameters := [], returnType := none }, accessFlags := 1, code := none }
def k1c1 : Code := { maxStack := 2, maxLocals := 2, code := method_2_code, exceptionTable := #[], attributes := #[] }
def k1m1 : Method := { name := "cp", desc := "(II)I", sig := { parameters := [.int, .int], returnType := some .int }, accessFlags := 10, code := some k1c1 }
def k1c2 : Code := { maxStack := 5, maxLocals := 14, code := code, exceptionTable := #[], attributes := #[] }
def k1m2 : Method := { name := "law", desc := "(IIIII)Z", sig := { parameters := [.int, .int, .int, .int, .int], returnType := some .boolean }, accessFlags := 9, code := some k1c2 }
/-- com/example/driftless/driftless/CodePointsGetPinLaw -/
def k1 : Class := { plain "com/example/driftless/driftless/CodePointsGetPinLaw" (some 0) with
  accessFlags := 49
  interfaces := #[]
  cf := some (fileOf pool1 11 #[] #[{ accessFlags := 1, nameIndex := 5, descriptorIndex := 6, attributes := #[] }, { accessFlags := 10, nameIndex := 14, descriptorIndex := 15, attributes := #[] }, { accessFlags := 9, nameIndex := 34, descriptorIndex := 35, attributes := #[] }] 49 2 #[] #[])
  fields := #[]
  methods := #[k1m0, k1m1, k1m2]
  instanceTypes := #[]
  staticTypes := #[]
  resolved := Array.replicate 40 none
  statics := none }

def pool2 : Array CpInfo := pool [(1, .methodref 2 3), (0, .class_ 4), (0, .nameAndType 5 6), (0, u "java/lang/Object"), (0, u "<init>"), (0, u "()V"), (0, .fieldref 8 9), (0, .class_ 10), (0, .nameAndType 11 12), (0, u "com/example/driftless/driftless/CodePoints"), (0, u "NONE"), (0, u "[B"), (0, .fieldref 8 14), (0, .nameAndType 15 12), (0, u "bytes"), (0, .fieldref 8 17), (0, .nameAndType 18 19), (0, u "width"), (0, u "I"), (0, .methodref 8 3), (0, .methodref 8 22), (0, .nameAndType 23 24), (0, u "widthOf"), (0, u "(I)I"), (0, .fieldref 8 26), (0, .nameAndType 27 19), (0, u "length"), (0, .methodref 8 29), (0, .nameAndType 30 31), (0, u "set"), (0, u "(II)V"), (0, .methodref 33 34), (0, .class_ 35), (0, .nameAndType 36 37), (0, u "java/lang/Math"), (0, u "max"), (0, u "(II)I"), (0, .methodref 8 39), (0, .nameAndType 40 41), (0, u "widen"), (0, u "(I)V"), (0, .methodref 43 44), (0, .class_ 45), (0, .nameAndType 46 47), (0, u "java/util/Arrays"), (0, u "copyOf"), (0, u "([BI)[B"), (0, .methodref 49 50), (0, .class_ 51), (0, .nameAndType 52 53), (0, u "java/lang/System"), (0, u "arraycopy"), (0, u "(Ljava/lang/Object;ILjava/lang/Object;II)V"), (0, .methodref 8 55), (0, .nameAndType 56 24), (0, u "get"), (6, .integer 65536), (5, u "()I"), (0, u "insert"), (0, u "(I[III)V")] 7

def k2c0 : Code := { maxStack := 2, maxLocals := 1, code := prog_6_method_1_code, exceptionTable := #[], attributes := #[] }
def k2m0 : Method := { name := "<init>", desc := "()V", sig := { parameters := [], returnType := none }, accessFlags := 0, code := some k2c0 }
def k2c1 : Code := { maxStack := 1, maxLocals := 1, code := prog_6_method_3_code, exceptionTable := #[], attributes := #[] }
def k2m1 : Method := { name := "length", desc := "()I", sig := { parameters := [], returnType := some .int }, accessFlags := 0, code := some k2c1 }
def k2c2 : Code := { maxStack := 4, maxLocals := 5, code := prog_6_method_4_code, exceptionTable := #[], attributes := #[] }
def k2m2 : Method := { name := "get", desc := "(I)I", sig := { parameters := [.int], returnType := some .int }, accessFlags := 0, code := some k2c2 }
def k2c3 : Code := { maxStack := 6, maxLocals := 8, code := prog_6_method_5_code, exceptionTable := #[], attributes := #[] }
def k2m3 : Method := { name := "insert", desc := "(I[III)V", sig := { parameters := [.int, (.array .int), .int, .int], returnType := none }, accessFlags := 0, code := some k2c3 }
def k2c4 : Code := { maxStack := 3, maxLocals := 5, code := prog_6_method_9_code, exceptionTable := #[], attributes := #[] }
def k2m4 : Method := { name := "set", desc := "(II)V", sig := { parameters := [.int, .int], returnType := none }, accessFlags := 2, code := some k2c4 }
def k2c5 : Code := { maxStack := 4, maxLocals := 4, code := prog_6_method_10_code, exceptionTable := #[], attributes := #[] }
def k2m5 : Method := { name := "widen", desc := "(I)V", sig := { parameters := [.int], returnType := none }, accessFlags := 2, code := some k2c5 }
def k2c6 : Code := { maxStack := 2, maxLocals := 2, code := prog_6_method_11_code, exceptionTable := #[], attributes := #[] }
def k2m6 : Method := { name := "widthOf", desc := "(I)I", sig := { parameters := [.int], returnType := some .int }, accessFlags := 10, code := some k2c6 }
/-- com/example/driftless/driftless/CodePoints -/
def k2 : Class := { plain "com/example/driftless/driftless/CodePoints" (some 0) with
  accessFlags := 48
  interfaces := #[]
  cf := some (fileOf pool2 8 #[] #[{ accessFlags := 0, nameIndex := 5, descriptorIndex := 6, attributes := #[] }, { accessFlags := 0, nameIndex := 27, descriptorIndex := 69, attributes := #[] }, { accessFlags := 0, nameIndex := 56, descriptorIndex := 24, attributes := #[] }, { accessFlags := 0, nameIndex := 70, descriptorIndex := 71, attributes := #[] }, { accessFlags := 2, nameIndex := 30, descriptorIndex := 31, attributes := #[] }, { accessFlags := 2, nameIndex := 40, descriptorIndex := 41, attributes := #[] }, { accessFlags := 10, nameIndex := 23, descriptorIndex := 24, attributes := #[] }] 48 2 #[] #[{ accessFlags := 26, nameIndex := 11, descriptorIndex := 12, attributes := #[] }, { accessFlags := 2, nameIndex := 15, descriptorIndex := 12, attributes := #[] }, { accessFlags := 2, nameIndex := 18, descriptorIndex := 19, attributes := #[] }, { accessFlags := 2, nameIndex := 27, descriptorIndex := 19, attributes := #[] }])
  fields := #[{ name := "NONE", type := (.array .byte), accessFlags := 26, slot := 0, constantValue := 0 }, { name := "bytes", type := (.array .byte), accessFlags := 2, slot := 0, constantValue := 0 }, { name := "width", type := .int, accessFlags := 2, slot := 1, constantValue := 0 }, { name := "length", type := .int, accessFlags := 2, slot := 2, constantValue := 0 }]
  methods := #[k2m0, k2m1, k2m2, k2m3, k2m4, k2m5, k2m6]
  instanceTypes := #[(.array .byte), .int, .int]
  staticTypes := #[(.array .byte)]
  resolved := Array.replicate 79 none
  statics := some 0 }

def pool3 : Array CpInfo := pool [(1, .class_ 2), (0, u "java/lang/Math"), (1, .class_ 6), (1, u "java/lang/Object"), (0, u "<init>"), (0, u "()V"), (89, .class_ 100), (1, u "java/lang/Math$RandomNumberGeneratorHolder"), (71, u "negativeZeroFloatBits"), (0, u "J"), (2, u "negativeZeroDoubleBits"), (21, u "max"), (2, u "min"), (43, u "$assertionsDisabled"), (0, u "Z"), (88, u "(II)I"), (2, u "twoToTheDoubleScaleDown"), (0, u "D"), (4, u "twoToTheDoubleScaleUp"), (9, u "E"), (3, u "PI"), (2, u "TAU"), (2, u "DEGREES_TO_RADIANS"), (0, u "RADIANS_TO_DEGREES")] 94

def k3m0 : Method := { name := "<init>", desc := "()V", sig := { parameters := [], returnType := none }, accessFlags := 2, code := none }
def k3c1 : Code := { maxStack := 2, maxLocals := 2, code := jdk_29_method_65_code, exceptionTable := #[], attributes := #[] }
def k3m1 : Method := { name := "max", desc := "(II)I", sig := { parameters := [.int, .int], returnType := some .int }, accessFlags := 9, code := some k3c1 }
def k3c2 : Code := { maxStack := 2, maxLocals := 2, code := jdk_29_method_69_code, exceptionTable := #[], attributes := #[] }
def k3m2 : Method := { name := "min", desc := "(II)I", sig := { parameters := [.int, .int], returnType := some .int }, accessFlags := 9, code := some k3c2 }
/-- java/lang/Math -/
def k3 : Class := { plain "java/lang/Math" (some 0) with
  accessFlags := 49
  interfaces := #[]
  cf := some (fileOf pool3 1 #[.nestMembers #[98]] #[{ accessFlags := 2, nameIndex := 7, descriptorIndex := 8, attributes := #[] }, { accessFlags := 9, nameIndex := 198, descriptorIndex := 335, attributes := #[] }, { accessFlags := 9, nameIndex := 201, descriptorIndex := 335, attributes := #[] }] 49 4 #[] #[{ accessFlags := 25, nameIndex := 354, descriptorIndex := 339, attributes := #[] }, { accessFlags := 25, nameIndex := 358, descriptorIndex := 339, attributes := #[] }, { accessFlags := 25, nameIndex := 361, descriptorIndex := 339, attributes := #[] }, { accessFlags := 26, nameIndex := 364, descriptorIndex := 339, attributes := #[] }, { accessFlags := 26, nameIndex := 365, descriptorIndex := 339, attributes := #[] }, { accessFlags := 26, nameIndex := 172, descriptorIndex := 173, attributes := #[] }, { accessFlags := 26, nameIndex := 176, descriptorIndex := 173, attributes := #[] }, { accessFlags := 8, nameIndex := 344, descriptorIndex := 339, attributes := #[] }, { accessFlags := 8, nameIndex := 338, descriptorIndex := 339, attributes := #[] }, { accessFlags := 4120, nameIndex := 245, descriptorIndex := 246, attributes := #[] }])
  fields := #[{ name := "E", type := .double, accessFlags := 25, slot := 0, constantValue := 0 }, { name := "PI", type := .double, accessFlags := 25, slot := 1, constantValue := 0 }, { name := "TAU", type := .double, accessFlags := 25, slot := 2, constantValue := 0 }, { name := "DEGREES_TO_RADIANS", type := .double, accessFlags := 26, slot := 3, constantValue := 0 }, { name := "RADIANS_TO_DEGREES", type := .double, accessFlags := 26, slot := 4, constantValue := 0 }, { name := "negativeZeroFloatBits", type := .long, accessFlags := 26, slot := 5, constantValue := 0 }, { name := "negativeZeroDoubleBits", type := .long, accessFlags := 26, slot := 6, constantValue := 0 }, { name := "twoToTheDoubleScaleUp", type := .double, accessFlags := 8, slot := 7, constantValue := 0 }, { name := "twoToTheDoubleScaleDown", type := .double, accessFlags := 8, slot := 8, constantValue := 0 }, { name := "$assertionsDisabled", type := .boolean, accessFlags := 4120, slot := 9, constantValue := 0 }]
  methods := #[k3m0, k3m1, k3m2]
  instanceTypes := #[]
  staticTypes := #[.double, .double, .double, .double, .double, .long, .long, .double, .double, .boolean]
  resolved := Array.replicate 460 none
  statics := none }

def pool4 : Array CpInfo := pool [(2, .class_ 4), (1, u "java/lang/Object"), (0, u "<init>"), (0, u "()V"), (7, .class_ 16), (1, u "java/util/Arrays"), (57, .class_ 76), (1, u "java/util/Arrays$NaturalOrder"), (36, .class_ 115), (1, u "java/util/Arrays$LegacyMergeSort"), (1, u "Z"), (32, .methodref 151 152), (0, .class_ 153), (0, .nameAndType 154 155), (0, u "java/lang/System"), (0, u "arraycopy"), (0, u "(Ljava/lang/Object;ILjava/lang/Object;II)V"), (146, u "copyOf"), (1, .methodref 305 306), (0, .class_ 307), (0, .nameAndType 308 309), (0, u "java/lang/Math"), (0, u "min"), (0, u "(II)I"), (65, .class_ 376), (0, u "java/util/Arrays$ArrayList"), (68, u "$assertionsDisabled"), (269, u "MIN_ARRAY_SORT_GRAN"), (0, u "I"), (2, u "INSERTIONSORT_THRESHOLD"), (149, u "([BI)[B"), (105, .class_ 976), (0, u "java/util/Arrays$ArrayItr")] 52

def k4m0 : Method := { name := "<init>", desc := "()V", sig := { parameters := [], returnType := none }, accessFlags := 2, code := none }
def k4c1 : Code := { maxStack := 6, maxLocals := 3, code := jdk_65_method_121_code, exceptionTable := #[], attributes := #[] }
def k4m1 : Method := { name := "copyOf", desc := "([BI)[B", sig := { parameters := [(.array .byte), .int], returnType := some (.array .byte) }, accessFlags := 9, code := some k4c1 }
/-- java/util/Arrays -/
def k4 : Class := { plain "java/util/Arrays" (some 0) with
  accessFlags := 49
  interfaces := #[]
  cf := some (fileOf pool4 14 #[.nestMembers #[975, 375, 113, 74]] #[{ accessFlags := 2, nameIndex := 5, descriptorIndex := 6, attributes := #[] }, { accessFlags := 9, nameIndex := 302, descriptorIndex := 869, attributes := #[] }] 49 2 #[] #[{ accessFlags := 26, nameIndex := 715, descriptorIndex := 716, attributes := #[] }, { accessFlags := 26, nameIndex := 719, descriptorIndex := 716, attributes := #[] }, { accessFlags := 4120, nameIndex := 445, descriptorIndex := 117, attributes := #[] }])
  fields := #[{ name := "MIN_ARRAY_SORT_GRAN", type := .int, accessFlags := 26, slot := 0, constantValue := 0 }, { name := "INSERTIONSORT_THRESHOLD", type := .int, accessFlags := 26, slot := 1, constantValue := 0 }, { name := "$assertionsDisabled", type := .boolean, accessFlags := 4120, slot := 2, constantValue := 0 }]
  methods := #[k4m0, k4m1]
  instanceTypes := #[]
  staticTypes := #[.int, .int, .boolean]
  resolved := Array.replicate 1029 none
  statics := none }

def pool5 : Array CpInfo := pool [(2, .class_ 4), (1, u "java/lang/Object"), (0, u "<init>"), (0, u "()V"), (1, .class_ 10), (1, u "java/lang/System"), (0, u "allowSecurityManager"), (0, u "I"), (16, u "cons"), (0, u "Ljava/io/Console;"), (77, .class_ 110), (1, u "java/lang/System$CallersHolder"), (43, u "initialErrStream"), (0, u "Ljava/io/PrintStream;"), (19, u "security"), (0, u "Ljava/lang/SecurityManager;"), (31, .class_ 209), (0, u "java/lang/System$1"), (7, u "props"), (0, u "Ljava/util/Properties;"), (2, u "lineSeparator"), (0, u "Ljava/lang/String;"), (96, .class_ 321), (1, u "java/lang/System$LoggerFinder"), (5, .class_ 328), (0, u "java/lang/System$Logger"), (67, u "err"), (2, u "out"), (91, u "notSupportedJnuEncoding"), (15, u "in"), (17, u "initialIn"), (0, u "Ljava/io/InputStream;"), (35, u "bootLayer"), (0, u "Ljava/lang/ModuleLayer;"), (99, .class_ 664), (0, u "java/lang/System$2"), (9, u "NEVER"), (2, u "MAYBE"), (49, u "arraycopy"), (0, u "(Ljava/lang/Object;ILjava/lang/Object;II)V"), (72, .class_ 802), (0, u "java/lang/System$Logger$Level")] 31

def k5m0 : Method := { name := "<init>", desc := "()V", sig := { parameters := [], returnType := none }, accessFlags := 2, code := none }
def k5m1 : Method := { name := "arraycopy", desc := "(Ljava/lang/Object;ILjava/lang/Object;II)V", sig := { parameters := [(.object "java/lang/Object"), .int, (.object "java/lang/Object"), .int, .int], returnType := none }, accessFlags := 265, code := none }
/-- java/lang/System -/
def k5 : Class := { plain "java/lang/System" (some 0) with
  accessFlags := 49
  interfaces := #[]
  cf := some (fileOf pool5 8 #[.nestMembers #[319, 327, 801, 108, 663, 208]] #[{ accessFlags := 2, nameIndex := 5, descriptorIndex := 6, attributes := #[] }, { accessFlags := 265, nameIndex := 727, descriptorIndex := 728, attributes := #[] }] 49 2 #[] #[{ accessFlags := 25, nameIndex := 507, descriptorIndex := 526, attributes := #[] }, { accessFlags := 25, nameIndex := 399, descriptorIndex := 155, attributes := #[] }, { accessFlags := 25, nameIndex := 396, descriptorIndex := 155, attributes := #[] }, { accessFlags := 10, nameIndex := 525, descriptorIndex := 526, attributes := #[] }, { accessFlags := 26, nameIndex := 674, descriptorIndex := 12, attributes := #[] }, { accessFlags := 26, nameIndex := 677, descriptorIndex := 12, attributes := #[] }, { accessFlags := 10, nameIndex := 11, descriptorIndex := 12, attributes := #[] }, { accessFlags := 74, nameIndex := 175, descriptorIndex := 176, attributes := #[] }, { accessFlags := 10, nameIndex := 491, descriptorIndex := 222, attributes := #[] }, { accessFlags := 74, nameIndex := 29, descriptorIndex := 30, attributes := #[] }, { accessFlags := 74, nameIndex := 154, descriptorIndex := 155, attributes := #[] }, { accessFlags := 10, nameIndex := 217, descriptorIndex := 218, attributes := #[] }, { accessFlags := 10, nameIndex := 221, descriptorIndex := 222, attributes := #[] }, { accessFlags := 8, nameIndex := 562, descriptorIndex := 563, attributes := #[] }])
  fields := #[{ name := "in", type := (.object "java/io/InputStream"), accessFlags := 25, slot := 0, constantValue := 0 }, { name := "out", type := (.object "java/io/PrintStream"), accessFlags := 25, slot := 1, constantValue := 0 }, { name := "err", type := (.object "java/io/PrintStream"), accessFlags := 25, slot := 2, constantValue := 0 }, { name := "initialIn", type := (.object "java/io/InputStream"), accessFlags := 10, slot := 3, constantValue := 0 }, { name := "NEVER", type := .int, accessFlags := 26, slot := 4, constantValue := 0 }, { name := "MAYBE", type := .int, accessFlags := 26, slot := 5, constantValue := 0 }, { name := "allowSecurityManager", type := .int, accessFlags := 10, slot := 6, constantValue := 0 }, { name := "security", type := (.object "java/lang/SecurityManager"), accessFlags := 74, slot := 7, constantValue := 0 }, { name := "notSupportedJnuEncoding", type := (.object "java/lang/String"), accessFlags := 10, slot := 8, constantValue := 0 }, { name := "cons", type := (.object "java/io/Console"), accessFlags := 74, slot := 9, constantValue := 0 }, { name := "initialErrStream", type := (.object "java/io/PrintStream"), accessFlags := 74, slot := 10, constantValue := 0 }, { name := "props", type := (.object "java/util/Properties"), accessFlags := 10, slot := 11, constantValue := 0 }, { name := "lineSeparator", type := (.object "java/lang/String"), accessFlags := 10, slot := 12, constantValue := 0 }, { name := "bootLayer", type := (.object "java/lang/ModuleLayer"), accessFlags := 8, slot := 13, constantValue := 0 }]
  methods := #[k5m0, k5m1]
  instanceTypes := #[]
  staticTypes := #[(.object "java/io/InputStream"), (.object "java/io/PrintStream"), (.object "java/io/PrintStream"), (.object "java/io/InputStream"), .int, .int, .int, (.object "java/lang/SecurityManager"), (.object "java/lang/String"), (.object "java/io/Console"), (.object "java/io/PrintStream"), (.object "java/util/Properties"), (.object "java/lang/String"), (.object "java/lang/ModuleLayer")]
  resolved := Array.replicate 834 none
  statics := none }

def pool6 : Array CpInfo := pool [(1, u "java/lang/Cloneable"), (0, .class_ 1), (0, u "java/lang/Object"), (0, .class_ 3)] 3

/-- java/lang/Cloneable -/
def k6 : Class := { plain "java/lang/Cloneable" (some 0) with
  accessFlags := 1537
  interfaces := #[]
  cf := some (fileOf pool6 2 #[] #[] 1537 4 #[] #[])
  fields := #[]
  methods := #[]
  instanceTypes := #[]
  staticTypes := #[]
  resolved := Array.replicate 8 none
  statics := none }

def pool7 : Array CpInfo := pool [(1, u "java/io/Serializable"), (0, .class_ 1), (0, u "java/lang/Object"), (0, .class_ 3)] 3

/-- java/io/Serializable -/
def k7 : Class := { plain "java/io/Serializable" (some 0) with
  accessFlags := 1537
  interfaces := #[]
  cf := some (fileOf pool7 2 #[] #[] 1537 4 #[] #[])
  fields := #[]
  methods := #[]
  instanceTypes := #[]
  staticTypes := #[]
  resolved := Array.replicate 8 none
  statics := none }

/-- the primitive byte -/
def k8 : Class := { plain "byte" none with kind := .primitive 'B', accessFlags := 0x411 }
/-- [B -/
def k9 : Class := { plain "[B" (some 0) with kind := .array 8 .byte, interfaces := #[6, 7], accessFlags := 1041 }

/-- the primitive int -/
def k10 : Class := { plain "int" none with kind := .primitive 'I', accessFlags := 0x411 }
/-- [I -/
def k11 : Class := { plain "[I" (some 0) with kind := .array 10 .int, interfaces := #[6, 7], accessFlags := 1041 }

def heap : Heap := #[{ cls := 2, slots := #[.ref 1], vm := .statics 2 },
  { cls := 9, slots := #[], vm := .none }]
def classes : Array Class := #[k0, k1, k2, k3, k4, k5, k6, k7, k8, k9, k10, k11]
def interned : List (Array UInt16 × Addr) := []
def slotsUsed : Nat := 1
def theMethod : MethodId := ⟨1, 2⟩
def args0 : Array Value := #[.int 5, .int 5, .int 5, .int 5, .int 5]
def aboutOver (below : List Frame) : State where
  vm := { classes := classes, interned := interned.toArray }
  heap := heap
  slotsUsed := slotsUsed
  threads := #[{ frames := .invoking theMethod args0 :: below }]
def below0 : List Frame := [.native { method := ⟨0, 0⟩, args := #[] }]
def about1 : State := aboutOver below0
def p0 : Program := .bare "" "" ""
def e0 : Env := launch0.env 0 0 0
theorem w_frames : about1.frames = Frame.invoking theMethod args0 :: below0 := rfl
set_option maxRecDepth 65536 in
theorem w_args : argsFit about1.vm theMethod args0 = true := by decide +kernel
set_option maxRecDepth 65536 in
theorem w_heap : heapFits about1 = true := by decide +kernel
set_option maxRecDepth 65536 in
theorem w_runnable : about1.curStatus? = some .runnable := by decide +kernel
set_option maxRecDepth 65536 in
theorem w_alone : about1.alone = true := by decide +kernel
set_option maxRecDepth 65536 in
theorem w_named : about1.methodNamed? x = some theMethod := by decide +kernel
set_option maxRecDepth 65536 in
theorem w_hears : about1.hears theMethod below0 = true := by decide +kernel
set_option maxRecDepth 65536 in
theorem w_ripe : about1.ripe theMethod args0 below0 = true := by decide +kernel
theorem w_running : about1.status = .running := rfl
set_option maxRecDepth 65536 in
theorem w_room : about1.hasRoom e0.platform room_1 = true :=
  launch0.hasRoom_least _ room_1 (by decide +kernel) (by decide +kernel) (by decide +kernel) (by decide +kernel) (by decide +kernel) (by decide +kernel)
theorem allAtoms_all (ts : List Jvm.Cond) (a : Array Jvm.Value) (st : Jvm.State) : (allAtoms ts).before a st = ts.all (fun c => c.before a st) := by
  induction ts with
  | nil => rfl
  | cons c t ih =>
    show (Jvm.Cond.and c (allAtoms t)).before a st = _
    rw [Jvm.Cond.before_and, ih, List.all_cons]
def words1 : List Jvm.Cond := Jvm.Cond.code x code maxLocals ret :: tables_1
/-- a 'code' word, met by the world's own term for the bytes: nothing is compared byte by byte -/
theorem code_word {y : MethodName} {bytes : ByteArray} {mx : Nat} {rt : Option FieldType} {a : Array Value} {s : State} {m : MethodId} {meth : Method} {c : Code} (h1 : s.methodNamed? y = some m) (h2 : s.vm.method? m = some meth) (h3 : meth.code = some c) (h4 : c.code = bytes)
    (h5 : (c.maxLocals == mx && c.exceptionTable.isEmpty && decide (c.maxStack ≤ mostOperands) && decide (meth.sig.returnType = rt) && !meth.locks && decide (parseMethodDescriptor y.desc = some meth.sig)) = true) : (Jvm.Cond.code y bytes mx rt).before a s = true := by
  simp only [Bool.and_eq_true, beq_iff_eq, Bool.not_eq_true', decide_eq_true_eq] at h5
  obtain ⟨⟨⟨⟨⟨g1, g2⟩, g3⟩, g4⟩, g5⟩, g6⟩ := h5
  simp [Cond.before, Cond.holds, Cond.value, h1, h2, h3, h4, g1, g2, g3, g4, g5, g6]
def isCode : Jvm.Cond → Bool
  | .code _ _ _ _ => true
  | _ => false
theorem all_split {L : List Jvm.Cond} {P : Jvm.Cond → Bool} (h1 : L.all (fun c => isCode c || P c) = true) (h2 : ∀ c ∈ L.filter isCode, P c = true) : L.all P = true := by
  refine List.all_eq_true.mpr fun c hc => ?_
  have h := List.all_eq_true.mp h1 c hc
  rcases Bool.eq_false_or_eq_true (isCode c) with hi | hi
  · exact h2 c (List.mem_filter.mpr ⟨hc, hi⟩)
  · simpa [hi] using h
set_option maxRecDepth 65536 in
theorem w_c0 : (Jvm.Cond.code x code maxLocals ret).before args0 about1 = true := code_word (m := ⟨1, 2⟩) (meth := k1m2) (c := k1c2) (by decide +kernel) rfl rfl rfl (by decide +kernel)
set_option maxRecDepth 65536 in
theorem w_c1 : (Jvm.Cond.code ({ cls := "com/example/driftless/driftless/CodePointsGetPinLaw", name := "cp", desc := "(II)I" } : Jvm.MethodName) method_2_code (2 : Nat) (Option.some Jvm.ClassFile.FieldType.int)).before args0 about1 = true := code_word (m := ⟨1, 1⟩) (meth := k1m1) (c := k1c1) (by decide +kernel) rfl rfl rfl (by decide +kernel)
set_option maxRecDepth 65536 in
theorem w_c2 : (Jvm.Cond.code ({ cls := "com/example/driftless/driftless/CodePoints", name := "<init>", desc := "()V" } : Jvm.MethodName) prog_6_method_1_code (1 : Nat) (Option.none : Option Jvm.ClassFile.FieldType)).before args0 about1 = true := code_word (m := ⟨2, 0⟩) (meth := k2m0) (c := k2c0) (by decide +kernel) rfl rfl rfl (by decide +kernel)
set_option maxRecDepth 65536 in
theorem w_c3 : (Jvm.Cond.code ({ cls := "java/lang/Object", name := "<init>", desc := "()V" } : Jvm.MethodName) object_method_1_code (1 : Nat) (Option.none : Option Jvm.ClassFile.FieldType)).before args0 about1 = true := code_word (m := ⟨0, 0⟩) (meth := k0m0) (c := k0c0) (by decide +kernel) rfl rfl rfl (by decide +kernel)
set_option maxRecDepth 65536 in
theorem w_c4 : (Jvm.Cond.code ({ cls := "com/example/driftless/driftless/CodePoints", name := "insert", desc := "(I[III)V" } : Jvm.MethodName) prog_6_method_5_code (8 : Nat) (Option.none : Option Jvm.ClassFile.FieldType)).before args0 about1 = true := code_word (m := ⟨2, 3⟩) (meth := k2m3) (c := k2c3) (by decide +kernel) rfl rfl rfl (by decide +kernel)
set_option maxRecDepth 65536 in
theorem w_c5 : (Jvm.Cond.code ({ cls := "com/example/driftless/driftless/CodePoints", name := "widthOf", desc := "(I)I" } : Jvm.MethodName) prog_6_method_11_code (2 : Nat) (Option.some Jvm.ClassFile.FieldType.int)).before args0 about1 = true := code_word (m := ⟨2, 6⟩) (meth := k2m6) (c := k2c6) (by decide +kernel) rfl rfl rfl (by decide +kernel)
set_option maxRecDepth 65536 in
theorem w_c6 : (Jvm.Cond.code ({ cls := "java/lang/Math", name := "max", desc := "(II)I" } : Jvm.MethodName) jdk_29_method_65_code (2 : Nat) (Option.some Jvm.ClassFile.FieldType.int)).before args0 about1 = true := code_word (m := ⟨3, 1⟩) (meth := k3m1) (c := k3c1) (by decide +kernel) rfl rfl rfl (by decide +kernel)
set_option maxRecDepth 65536 in
theorem w_c7 : (Jvm.Cond.code ({ cls := "java/util/Arrays", name := "copyOf", desc := "([BI)[B" } : Jvm.MethodName) jdk_65_method_121_code (3 : Nat) (Option.some (Jvm.ClassFile.FieldType.array Jvm.ClassFile.FieldType.byte))).before args0 about1 = true := code_word (m := ⟨4, 1⟩) (meth := k4m1) (c := k4c1) (by decide +kernel) rfl rfl rfl (by decide +kernel)
set_option maxRecDepth 65536 in
theorem w_c8 : (Jvm.Cond.code ({ cls := "java/lang/Math", name := "min", desc := "(II)I" } : Jvm.MethodName) jdk_29_method_69_code (2 : Nat) (Option.some Jvm.ClassFile.FieldType.int)).before args0 about1 = true := code_word (m := ⟨3, 2⟩) (meth := k3m2) (c := k3c2) (by decide +kernel) rfl rfl rfl (by decide +kernel)
set_option maxRecDepth 65536 in
theorem w_c9 : (Jvm.Cond.code ({ cls := "com/example/driftless/driftless/CodePoints", name := "set", desc := "(II)V" } : Jvm.MethodName) prog_6_method_9_code (5 : Nat) (Option.none : Option Jvm.ClassFile.FieldType)).before args0 about1 = true := code_word (m := ⟨2, 4⟩) (meth := k2m4) (c := k2c4) (by decide +kernel) rfl rfl rfl (by decide +kernel)
set_option maxRecDepth 65536 in
theorem w_c10 : (Jvm.Cond.code ({ cls := "com/example/driftless/driftless/CodePoints", name := "length", desc := "()I" } : Jvm.MethodName) prog_6_method_3_code (1 : Nat) (Option.some Jvm.ClassFile.FieldType.int)).before args0 about1 = true := code_word (m := ⟨2, 1⟩) (meth := k2m1) (c := k2c1) (by decide +kernel) rfl rfl rfl (by decide +kernel)
set_option maxRecDepth 65536 in
theorem w_c11 : (Jvm.Cond.code ({ cls := "com/example/driftless/driftless/CodePoints", name := "get", desc := "(I)I" } : Jvm.MethodName) prog_6_method_4_code (5 : Nat) (Option.some Jvm.ClassFile.FieldType.int)).before args0 about1 = true := code_word (m := ⟨2, 2⟩) (meth := k2m2) (c := k2c2) (by decide +kernel) rfl rfl rfl (by decide +kernel)
set_option maxRecDepth 65536 in
theorem w_c12 : (Jvm.Cond.code ({ cls := "com/example/driftless/driftless/CodePoints", name := "widen", desc := "(I)V" } : Jvm.MethodName) prog_6_method_10_code (4 : Nat) (Option.none : Option Jvm.ClassFile.FieldType)).before args0 about1 = true := code_word (m := ⟨2, 5⟩) (meth := k2m5) (c := k2c5) (by decide +kernel) rfl rfl rfl (by decide +kernel)
def codes1 : List Jvm.Cond := [Jvm.Cond.code x code maxLocals ret, Jvm.Cond.code ({ cls := "com/example/driftless/driftless/CodePointsGetPinLaw", name := "cp", desc := "(II)I" } : Jvm.MethodName) method_2_code (2 : Nat) (Option.some Jvm.ClassFile.FieldType.int), Jvm.Cond.code ({ cls := "com/example/driftless/driftless/CodePoints", name := "<init>", desc := "()V" } : Jvm.MethodName) prog_6_method_1_code (1 : Nat) (Option.none : Option Jvm.ClassFile.FieldType), Jvm.Cond.code ({ cls := "java/lang/Object", name := "<init>", desc := "()V" } : Jvm.MethodName) object_method_1_code (1 : Nat) (Option.none : Option Jvm.ClassFile.FieldType), Jvm.Cond.code ({ cls := "com/example/driftless/driftless/CodePoints", name := "insert", desc := "(I[III)V" } : Jvm.MethodName) prog_6_method_5_code (8 : Nat) (Option.none : Option Jvm.ClassFile.FieldType), Jvm.Cond.code ({ cls := "com/example/driftless/driftless/CodePoints", name := "widthOf", desc := "(I)I" } : Jvm.MethodName) prog_6_method_11_code (2 : Nat) (Option.some Jvm.ClassFile.FieldType.int), Jvm.Cond.code ({ cls := "java/lang/Math", name := "max", desc := "(II)I" } : Jvm.MethodName) jdk_29_method_65_code (2 : Nat) (Option.some Jvm.ClassFile.FieldType.int), Jvm.Cond.code ({ cls := "java/util/Arrays", name := "copyOf", desc := "([BI)[B" } : Jvm.MethodName) jdk_65_method_121_code (3 : Nat) (Option.some (Jvm.ClassFile.FieldType.array Jvm.ClassFile.FieldType.byte)), Jvm.Cond.code ({ cls := "java/lang/Math", name := "min", desc := "(II)I" } : Jvm.MethodName) jdk_29_method_69_code (2 : Nat) (Option.some Jvm.ClassFile.FieldType.int), Jvm.Cond.code ({ cls := "com/example/driftless/driftless/CodePoints", name := "set", desc := "(II)V" } : Jvm.MethodName) prog_6_method_9_code (5 : Nat) (Option.none : Option Jvm.ClassFile.FieldType), Jvm.Cond.code ({ cls := "com/example/driftless/driftless/CodePoints", name := "length", desc := "()I" } : Jvm.MethodName) prog_6_method_3_code (1 : Nat) (Option.some Jvm.ClassFile.FieldType.int), Jvm.Cond.code ({ cls := "com/example/driftless/driftless/CodePoints", name := "get", desc := "(I)I" } : Jvm.MethodName) prog_6_method_4_code (5 : Nat) (Option.some Jvm.ClassFile.FieldType.int), Jvm.Cond.code ({ cls := "com/example/driftless/driftless/CodePoints", name := "widen", desc := "(I)V" } : Jvm.MethodName) prog_6_method_10_code (4 : Nat) (Option.none : Option Jvm.ClassFile.FieldType)]
set_option maxRecDepth 65536 in
theorem codes_eq : words1.filter isCode = codes1 := rfl
theorem w_codes : ∀ c ∈ words1.filter isCode, c.before args0 about1 = true := by
  rw [codes_eq]
  intro c hc
  simp only [codes1, List.mem_cons, List.not_mem_nil, or_false] at hc
  rcases hc with rfl | rfl | rfl | rfl | rfl | rfl | rfl | rfl | rfl | rfl | rfl | rfl | rfl
  · exact w_c0
  · exact w_c1
  · exact w_c2
  · exact w_c3
  · exact w_c4
  · exact w_c5
  · exact w_c6
  · exact w_c7
  · exact w_c8
  · exact w_c9
  · exact w_c10
  · exact w_c11
  · exact w_c12
set_option maxRecDepth 65536 in
theorem w_t1 : (words1.take 24).all (fun c => isCode c || c.before args0 about1) = true := by decide +kernel
set_option maxRecDepth 65536 in
theorem w_t2 : ((words1.drop 24).take 24).all (fun c => isCode c || c.before args0 about1) = true := by decide +kernel
set_option maxRecDepth 65536 in
theorem w_t3 : (((words1.drop 24).drop 24).take 24).all (fun c => isCode c || c.before args0 about1) = true := by decide +kernel
set_option maxRecDepth 65536 in
theorem w_t4 : (((words1.drop 24).drop 24).drop 24).all (fun c => isCode c || c.before args0 about1) = true := by decide +kernel
theorem w_tables : (allAtoms (Jvm.Cond.code x code maxLocals ret :: tables_1)).before args0 about1 = true := by
  rw [allAtoms_all]
  show words1.all (fun c => c.before args0 about1) = true
  refine all_split ?_ w_codes
  rw [← List.take_append_drop 24 words1, List.all_append, w_t1, ← List.take_append_drop 24 (words1.drop 24), List.all_append, w_t2, ← List.take_append_drop 24 ((words1.drop 24).drop 24), List.all_append, w_t3, w_t4]
  rfl
set_option maxRecDepth 65536 in
theorem w_case : (Jvm.Cond.and given_1 narrow_1).before args0 about1 = true := by decide +kernel
theorem w_applies : (headSpec (Jvm.Cond.code x code maxLocals ret :: tables_1) room_1).applies x e0.platform about1 = true :=
  (Spec.applies_iff w_frames).mpr ⟨w_running, w_runnable, w_alone, w_named, w_hears, w_ripe, w_room, w_tables⟩
theorem atStart : AtStart classFile x code maxLocals ret World_1 tables_1 room_1 Calls_1 rest_1 Pre_1 launch0 p0 e0 about1 theMethod args0 below0 :=
  ⟨lists_1, trivial, launch0.admits_env _ _ _, launch0.least_env, fairChoices_fair.cas, fairChoices_fair.clock, w_frames, w_args, w_heap, w_applies, trivial, trivial, w_case⟩
end start1
theorem witness_1 : WitnessClaimed_1 := ⟨start1.p0, start1.e0, start1.about1, start1.theMethod, start1.args0, start1.below0, start1.atStart⟩
end Jvm.Pilot.@@N@@
