import JvmDerived
import JvmDerived.Pilot.@@N@@Statement
import JvmDerived.Pilot.@@N@@Code
set_option linter.unusedVariables false
set_option linter.unusedSimpArgs false
namespace Jvm.RoadKit
open Sem ClassFile Op Lib Jvm.Stand Jvm.Free Jvm.LawKit
section New
variable {p : Program} {l : Launch} {e : Env} {R : Room} {s : State} {m : MethodId} {args : Array Value} {below : List Frame} {meth : Method} {c : Code} {T : State} {locs : List Loc} {cells slots : Nat}
theorem retI (X : Stand p l e R s m args below meth c T locs cells slots) (hx : p.tables.exec = Jvm.exec) {pc : Nat} {Ls : Array Slot} {z : Int32} {rest : List Value} (hret : meth.sig.returnType = some .int) (hd : decode c.code pc = .ok (.ireturn, 1)) {fs : List Frame}
    (hl : ∀ (f : JFrame) (acts : List Action), f.method = m → f.locked = none → f.entered = [] → (doReturn e (T.setTop f) acts (some (.int z))).1 = T.setFrames fs) : Steps p.tables e below (T.setTop (mkF m pc Ls (.int z :: rest))) (T.setFrames fs) := by
  have hm' : T.vm.method? m = some meth := X.method'
  have hn : narrow .int (.int z) = .int z := rfl
  show Steps p.tables e below (T.setTop { method := m, pc := pc, locals := Ls, stack := _ :: rest, locked := none }) _
  jvm_step X.here [X.here.top, hx, hd, hm', hret, hn]
  first | (intro acts; rw [hl _ acts rfl rfl rfl]) | rw [hl _ _ rfl rfl rfl]
  exact Steps.refl _
end New
end Jvm.RoadKit
namespace Jvm.Pilot.@@N@@
open Jvm Jvm.ClassFile Sem Op Lib Jvm.Free Jvm.Stand Jvm.LawKit Jvm.RoadKit Bundle Jvm.Pilot.@@N@@.Jvm.D
theorem own_bd {p : Program} {l : Launch} {x : MethodName} {cd : List Jvm.Cond} {R : Room} {code : ByteArray} {maxL : Nat} {ret : Option FieldType} {e : Env} {s : State} {m : MethodId} {args : Array Value} {below : List Frame} {meth : Method} {c : Code} {s₁ : State} {h0 : Heap} (Bd : BodyLoose p l x (head1 cd R) code maxL ret e s m args below meth c s₁) (hh : s.heap = h0) (n0 : Nat) :
    p.tables.exec = Jvm.exec ∧ c.code = code ∧ s.vm.findClass x.cls = some m.cls ∧ meth.sig.returnType = ret ∧ meth.locks = false ∧ Stand p l e R s m args below meth c s₁ [] 0 0 ∧ s₁.heap = h0 ∧ Fr n0 [] :=
  ⟨Bd.exec, Bd.bytes, findClass_of_methodNamed Bd.named, Bd.returns, BodyLoose.notSynchronized Bd, Stand.of_body Bd, by rw [← hh, Bd.state]; rfl, Fr.nil n0⟩
theorem own_ct (s₁ : State) {p : Program} {e : Env} {below : List Frame} {f g : JFrame} (h : f = g) : ∀ t, Steps p.tables e below (s₁.setTop g) t → Steps p.tables e below (s₁.setTop f) t := fun t k => castTop h k
theorem own_w {a0 : Array Value} {Z : State} (hw : ∀ d ∈ tables_1, d.before a0 Z = true) {d : Jvm.Cond} (i : Nat) (h : tables_1[i]? = some d) : d.before a0 Z = true := hw d (List.mem_of_getElem? h)
section Calls
variable {p : Program} {l : Launch} {e : Env} {R : Room} {s : State} {m : MethodId} {args : Array Value} {below : List Frame} {meth : Method} {c : Code} {T : State} {locs : List Loc} {cells slots : Nat} {Z : State} {a0 : Array Value} {h : Heap}
variable {own C : String} {index : Nat} {y z : MethodName} {bytes : ByteArray} {maxL : Nat} {ret : Option FieldType} {rm : Room} {a : Addr} {Q : Option Value → Heap → List Loc → Prop} {argsL rest : List Value} {g : JFrame}
theorem own_vb (X : Stand p l e R s m args below meth c T locs cells slots) (hx : p.tables.exec = Jvm.exec) (hZ : Z.Warmed39 s.vm) (hown : s.vm.findClass own = some m.cls)
    (w1 : (Cond.methodLink own index y).before a0 Z = true) (w2 : (Cond.declares y).before a0 Z = true) (w3 : (Cond.selects C y y).before a0 Z = true) (w4 : (Cond.instanceMethod y).before a0 Z = true) (wc : (Cond.code y bytes maxL ret).before a0 Z = true) (wz : (Cond.initialized y.cls).before a0 Z = true)
    (eT : T.heap = h) (E : Exa Z h a C)
    (hM : MetFree l y (head1 [Cond.code y bytes maxL ret] rm) (fun a' U => a' = (Value.ref a :: argsL).toArray ∧ Z.Warmed39 U.vm ∧ U.heap = h) (fun _ _ _ _ _ => True) (fun _ U o U' => ∃ v L, o = .returned v ∧ Q v U'.heap L ∧ FrameEnd U o U' L rm.cells rm.slots))
    (hg : g.method = m) (hml : g.locals.size = c.maxLocals) (hs : g.stack = argsL.reverse ++ .ref a :: rest) (hd : decode c.code g.pc = .ok (.invokevirtual index, 3)) (hlen : ∀ sig, parseMethodDescriptor y.desc = some sig → argsL.length = sig.parameters.length)
    {W : Nat} {c1 s1 : Nat} (h1 : cells + rm.cells = c1 := by rfl) (h2 : slots + rm.slots = s1 := by rfl) (hW : 2 * g.monitorRoom + (rest.map fun v => v.category).sum ≤ W := by show 2 * 0 + _ ≤ _; exact Nat.le_of_eq rfl) (hf : rm.frames + 1 ≤ R.frames := by decide) (hl : W + (maxL + 11) + rm.locals ≤ R.locals := by decide) (hc : c1 ≤ R.cells := by decide) (hsl : s1 ≤ R.slots := by decide) (hy : y.cls ≠ "java/lang/invoke/MethodHandle" ∧ y.cls ≠ "java/lang/invoke/VarHandle" := by decide) :
    ∃ v T' L, Stand p l e R s m args below meth c T' (locs ++ L) c1 s1 ∧ Q v T'.heap L ∧ ∀ target, Steps p.tables e below (T'.setTop { g with pc := g.pc + 3, stack := v.toList ++ rest }) target → Steps p.tables e below (T.setTop g) target := by
  subst h1 h2
  obtain ⟨cB, kB, q1, q2, q3⟩ := isOf hZ eT E
  obtain ⟨v, _, ⟨T', L', k', n'⟩, -, X', ⟨L, hQ, l1, y1, z1⟩, st⟩ := X.virtualBack hx (y := y) (z := y) hown (mvT hZ w1) (mvT hZ w2) (notFace_of_selects (args := #[]) (mvT hZ w3)) (mvT hZ w3) (mvT hZ w4) hy (backOf (W := W) hM hZ wc wz hf hl) q1 q3 hg hml (Steps.refl _) hlen hs hW hd (fun _ _ => ⟨rfl, eT, hc, hsl⟩)
  dsimp only [Pt.U, Pt.locs, Pt.cells, Pt.slots] at X' l1 y1 z1 st hQ
  subst l1 y1 z1
  exact ⟨v, T', L, X', hQ, fun t k => st.trans k⟩
theorem own_vu {owner : String} (X : Stand p l e R s m args below meth c T locs cells slots) (hx : p.tables.exec = Jvm.exec) (hZ : Z.Warmed39 s.vm) (hown : s.vm.findClass own = some m.cls)
    (w1 : (Cond.methodLink own index z).before a0 Z = true) (w2 : (Cond.sameMethod z.cls owner z.name z.desc).before a0 Z = true) (w2' : (Cond.declares ⟨owner, z.name, z.desc⟩).before a0 Z = true) (w3 : (Cond.selects C z y).before a0 Z = true) (w4 : (Cond.instanceMethod y).before a0 Z = true) (wc : (Cond.code y bytes maxL ret).before a0 Z = true) (wz : (Cond.initialized y.cls).before a0 Z = true)
    (eT : T.heap = h) (E : Exa Z h a C)
    (hM : MetFree l y (head1 [Cond.code y bytes maxL ret] rm) (fun a' U => a' = (Value.ref a :: argsL).toArray ∧ Z.Warmed39 U.vm ∧ U.heap = h) (fun _ _ _ _ _ => True) (fun _ U o U' => ∃ v L, o = .returned v ∧ Q v U'.heap L ∧ FrameEnd U o U' L rm.cells rm.slots))
    (hg : g.method = m) (hml : g.locals.size = c.maxLocals) (hs : g.stack = argsL.reverse ++ .ref a :: rest) (hd : decode c.code g.pc = .ok (.invokevirtual index, 3)) (hlen : ∀ sig, parseMethodDescriptor z.desc = some sig → argsL.length = sig.parameters.length)
    {W : Nat} {c1 s1 : Nat} (h1 : cells + rm.cells = c1 := by rfl) (h2 : slots + rm.slots = s1 := by rfl) (hW : 2 * g.monitorRoom + (rest.map fun v => v.category).sum ≤ W := by show 2 * 0 + _ ≤ _; exact Nat.le_of_eq rfl) (hf : rm.frames + 1 ≤ R.frames := by decide) (hl : W + (maxL + 11) + rm.locals ≤ R.locals := by decide) (hc : c1 ≤ R.cells := by decide) (hsl : s1 ≤ R.slots := by decide) (hy : owner ≠ "java/lang/invoke/MethodHandle" ∧ owner ≠ "java/lang/invoke/VarHandle" := by decide) :
    ∃ v T' L, Stand p l e R s m args below meth c T' (locs ++ L) c1 s1 ∧ Q v T'.heap L ∧ ∀ target, Steps p.tables e below (T'.setTop { g with pc := g.pc + 3, stack := v.toList ++ rest }) target → Steps p.tables e below (T.setTop g) target := by
  subst h1 h2
  obtain ⟨cB, kB, q1, q2, q3⟩ := isOf hZ eT E
  obtain ⟨v, _, ⟨T', L', k', n'⟩, -, X', ⟨L, hQ, l1, y1, z1⟩, st⟩ := X.virtualBackUp hx (x := z) (y := y) (owner := owner) hown (mvT hZ w1) (mvT hZ w2) (mvT hZ w2') hy (mvT hZ w3) (mvT hZ w4) (backOf (W := W) hM hZ wc wz hf hl) q1 q3 hg hml (Steps.refl _) hlen hs hW hd (fun _ _ => ⟨rfl, eT, hc, hsl⟩)
  dsimp only [Pt.U, Pt.locs, Pt.cells, Pt.slots] at X' l1 y1 z1 st hQ
  subst l1 y1 z1
  exact ⟨v, T', L, X', hQ, fun t k => st.trans k⟩
theorem own_sb (X : Stand p l e R s m args below meth c T locs cells slots) (hx : p.tables.exec = Jvm.exec) (hZ : Z.Warmed39 s.vm) (hown : s.vm.findClass own = some m.cls)
    (w1 : (Cond.methodLink own index y).before a0 Z = true) (w4 : (Cond.instanceMethod y).before a0 Z = true) (wc : (Cond.code y bytes maxL none).before a0 Z = true) (wz : (Cond.initialized y.cls).before a0 Z = true)
    (eT : T.heap = h)
    (hM : MetFree l y (head1 [Cond.code y bytes maxL none] rm) (fun a' U => a' = (Value.ref a :: argsL).toArray ∧ Z.Warmed39 U.vm ∧ U.heap = h) (fun _ _ _ _ _ => True) (fun _ U o U' => ∃ v L, o = .returned v ∧ Q v U'.heap L ∧ FrameEnd U o U' L rm.cells rm.slots))
    (hg : g.method = m) (hml : g.locals.size = c.maxLocals) (hs : g.stack = argsL.reverse ++ .ref a :: rest) (hd : decode c.code g.pc = .ok (.invokespecial index, 3)) (hlen : ∀ sig, parseMethodDescriptor y.desc = some sig → argsL.length = sig.parameters.length)
    {W : Nat} {c1 s1 : Nat} (hn : y.name = "<init>" := by rfl) (h1 : cells + rm.cells = c1 := by rfl) (h2 : slots + rm.slots = s1 := by rfl) (hW : 2 * g.monitorRoom + (rest.map fun v => v.category).sum ≤ W := by show 2 * 0 + _ ≤ _; exact Nat.le_of_eq rfl) (hf : rm.frames + 1 ≤ R.frames := by decide) (hl : W + (maxL + 11) + rm.locals ≤ R.locals := by decide) (hc : c1 ≤ R.cells := by decide) (hsl : s1 ≤ R.slots := by decide) (hy : y.cls ≠ "java/lang/invoke/MethodHandle" ∧ y.cls ≠ "java/lang/invoke/VarHandle" := by decide) :
    ∃ v T' L, Stand p l e R s m args below meth c T' (locs ++ L) c1 s1 ∧ Q v T'.heap L ∧ ∀ target, Steps p.tables e below (T'.setTop { g with pc := g.pc + 3, stack := v.toList ++ rest }) target → Steps p.tables e below (T.setTop g) target := by
  subst h1 h2
  obtain ⟨v, _, ⟨T', L', k', n'⟩, -, X', ⟨L, hQ, l1, y1, z1⟩, st⟩ := X.specialBack hx (y := y) hn hown (mvT hZ w1) (mvT hZ w4) (mvT hZ wc) hy (backOf (W := W) hM hZ wc wz hf hl) hg hml (Steps.refl _) hlen hs hW hd (fun _ _ => ⟨rfl, eT, hc, hsl⟩)
  dsimp only [Pt.U, Pt.locs, Pt.cells, Pt.slots] at X' l1 y1 z1 st hQ
  subst l1 y1 z1
  exact ⟨v, T', L, X', hQ, fun t k => st.trans k⟩
theorem own_cs (X : Stand p l e R s m args below meth c T locs cells slots) (hx : p.tables.exec = Jvm.exec) (hZ : Z.Warmed39 s.vm) (hown : s.vm.findClass own = some m.cls)
    (w1 : (Cond.methodLink own index y).before a0 Z = true) (w4 : (Cond.static y).before a0 Z = true) (wc : (Cond.code y bytes maxL ret).before a0 Z = true) (wz : (Cond.initialized y.cls).before a0 Z = true)
    (eT : T.heap = h)
    (hM : MetFree l y (head1 [Cond.code y bytes maxL ret] rm) (fun a' U => a' = argsL.toArray ∧ Z.Warmed39 U.vm ∧ U.heap = h) (fun _ _ _ _ _ => True) (fun _ U o U' => ∃ v L, o = .returned v ∧ Q v U'.heap L ∧ FrameEnd U o U' L rm.cells rm.slots))
    (hg : g.method = m) (hml : g.locals.size = c.maxLocals) (hs : g.stack = argsL.reverse ++ rest) (hd : decode c.code g.pc = .ok (.invokestatic index, 3)) (hlen : ∀ sig, parseMethodDescriptor y.desc = some sig → argsL.length = sig.parameters.length)
    {W : Nat} {c1 s1 : Nat} (h1 : cells + rm.cells = c1 := by rfl) (h2 : slots + rm.slots = s1 := by rfl) (hW : 2 * g.monitorRoom + (rest.map fun v => v.category).sum ≤ W := by show 2 * 0 + _ ≤ _; exact Nat.le_of_eq rfl) (hf : rm.frames + 1 ≤ R.frames := by decide) (hl : W + (maxL + 11) + rm.locals ≤ R.locals := by decide) (hc : c1 ≤ R.cells := by decide) (hsl : s1 ≤ R.slots := by decide) (hy : y.cls ≠ "java/lang/invoke/MethodHandle" ∧ y.cls ≠ "java/lang/invoke/VarHandle" := by decide) :
    ∃ v T' L, Stand p l e R s m args below meth c T' (locs ++ L) c1 s1 ∧ Q v T'.heap L ∧ ∀ target, Steps p.tables e below (T'.setTop { g with pc := g.pc + 3, stack := v.toList ++ rest }) target → Steps p.tables e below (T.setTop g) target := by
  subst h1 h2
  obtain ⟨v, _, ⟨T', L', k', n'⟩, -, X', ⟨L, hQ, l1, y1, z1⟩, st⟩ := Jvm.LawKit.callS X hx (y := y) hown (mvT hZ w1) (mvT hZ w4) (mvT hZ wz) (mvT hZ wc) hy (backOf (W := W) hM hZ wc wz hf hl) hg hml hlen hs hW hd (fun _ _ => ⟨rfl, eT, hc, hsl⟩)
  dsimp only [Pt.U, Pt.locs, Pt.cells, Pt.slots] at X' l1 y1 z1 st hQ
  subst l1 y1 z1
  exact ⟨v, T', L, X', hQ, st⟩
theorem own_pb (X : Stand p l e R s m args below meth c T locs cells slots) (hx : p.tables.exec = Jvm.exec) (hZ : Z.Warmed39 s.vm) (hown : s.vm.findClass own = some m.cls)
    (w1 : (Cond.methodLink own index y).before a0 Z = true) (w4 : (Cond.instanceMethod y).before a0 Z = true) (w3 : (Cond.selects y.cls y y).before args s = true) (wp : (Cond.privateMethod y).before a0 Z = true) (wc : (Cond.code y bytes maxL ret).before a0 Z = true) (wz : (Cond.initialized y.cls).before a0 Z = true)
    (eT : T.heap = h) (E : Exa Z h a C)
    (hM : MetFree l y (head1 [Cond.code y bytes maxL ret] rm) (fun a' U => a' = (Value.ref a :: argsL).toArray ∧ Z.Warmed39 U.vm ∧ U.heap = h) (fun _ _ _ _ _ => True) (fun _ U o U' => ∃ v L, o = .returned v ∧ Q v U'.heap L ∧ FrameEnd U o U' L rm.cells rm.slots))
    (hg : g.method = m) (hml : g.locals.size = c.maxLocals) (hs : g.stack = argsL.reverse ++ .ref a :: rest) (hd : decode c.code g.pc = .ok (.invokevirtual index, 3)) (hlen : ∀ sig, parseMethodDescriptor y.desc = some sig → argsL.length = sig.parameters.length)
    {W : Nat} {c1 s1 : Nat} (h1 : cells + rm.cells = c1 := by rfl) (h2 : slots + rm.slots = s1 := by rfl) (hW : 2 * g.monitorRoom + (rest.map fun v => v.category).sum ≤ W := by show 2 * 0 + _ ≤ _; exact Nat.le_of_eq rfl) (hf : rm.frames + 1 ≤ R.frames := by decide) (hl : W + (maxL + 11) + rm.locals ≤ R.locals := by decide) (hc : c1 ≤ R.cells := by decide) (hsl : s1 ≤ R.slots := by decide) (hy : y.cls ≠ "java/lang/invoke/MethodHandle" ∧ y.cls ≠ "java/lang/invoke/VarHandle" := by decide) :
    ∃ v T' L, Stand p l e R s m args below meth c T' (locs ++ L) c1 s1 ∧ Q v T'.heap L ∧ ∀ target, Steps p.tables e below (T'.setTop { g with pc := g.pc + 3, stack := v.toList ++ rest }) target → Steps p.tables e below (T.setTop g) target := by
  subst h1 h2
  obtain ⟨cq, q1, q2⟩ := E.cell
  obtain ⟨v, _, ⟨T', L', k', n'⟩, -, X', ⟨L, hQ, l1, y1, z1⟩, st⟩ := X.privateBack hx (y := y) hown (mvT hZ w1) (mvT hZ w4) w3 (Cond.privateMethod_at (mvP hZ wp (args := #[]))) (mvT hZ wc) hy (backOf (W := W) hM hZ wc wz hf hl) hg hml (Steps.refl _) (a := a) (by rw [eT]; exact q1) q2 hlen hs hW hd (fun _ _ => ⟨rfl, eT, hc, hsl⟩)
  dsimp only [Pt.U, Pt.locs, Pt.cells, Pt.slots] at X' l1 y1 z1 st hQ
  subst l1 y1 z1
  exact ⟨v, T', L, X', hQ, fun t k => st.trans k⟩
theorem own_sr (X : Stand p l e R s m args below meth c T locs cells slots) (hx : p.tables.exec = Jvm.exec) (hZ : Z.Warmed39 s.vm) (hown : s.vm.findClass own = some m.cls)
    (w1 : (Cond.methodRef own index y).before a0 Z = true) (w4 : (Cond.instanceMethod y).before a0 Z = true) (wc : (Cond.code y bytes maxL none).before a0 Z = true) (wz : (Cond.initialized y.cls).before a0 Z = true)
    (eT : T.heap = h)
    (hM : MetFree l y (head1 [Cond.code y bytes maxL none] rm) (fun a' U => a' = (Value.ref a :: argsL).toArray ∧ Z.Warmed39 U.vm ∧ U.heap = h) (fun _ _ _ _ _ => True) (fun _ U o U' => ∃ v L, o = .returned v ∧ Q v U'.heap L ∧ FrameEnd U o U' L rm.cells rm.slots))
    (hg : g.method = m) (hml : g.locals.size = c.maxLocals) (hs : g.stack = argsL.reverse ++ .ref a :: rest) (hd : decode c.code g.pc = .ok (.invokespecial index, 3)) (hlen : ∀ sig, parseMethodDescriptor y.desc = some sig → argsL.length = sig.parameters.length)
    {W : Nat} {c1 s1 : Nat} (hn : y.name = "<init>" := by rfl) (h1 : cells + rm.cells = c1 := by rfl) (h2 : slots + rm.slots = s1 := by rfl) (hW : 2 * g.monitorRoom + (rest.map fun v => v.category).sum ≤ W := by show 2 * 0 + _ ≤ _; exact Nat.le_of_eq rfl) (hf : rm.frames + 1 ≤ R.frames := by decide) (hl : W + (maxL + 11) + rm.locals ≤ R.locals := by decide) (hc : c1 ≤ R.cells := by decide) (hsl : s1 ≤ R.slots := by decide) (hy : y.cls ≠ "java/lang/invoke/MethodHandle" ∧ y.cls ≠ "java/lang/invoke/VarHandle" := by decide) :
    ∃ v T' L, Stand p l e R s m args below meth c T' (locs ++ L) c1 s1 ∧ Q v T'.heap L ∧ ∀ target, Steps p.tables e below (T'.setTop { g with pc := g.pc + 3, stack := v.toList ++ rest }) target → Steps p.tables e below (T.setTop g) target := by
  subst h1 h2
  have hZT : Z.Warmed39 T.vm := wtrans hZ X.warmed
  obtain ⟨oz, mz, nz, -⟩ := Cond.instanceMethod_spec w4
  have r1 : (Cond.methodRef own index y).before a0 (Z.setVm T.vm) = true := Cond.methodRef_warmed39 hZT nz hy w1
  have fT : (Z.setVm T.vm).vm.findClass own = some m.cls := by show T.vm.findClass own = _; rw [X.warmed.alike.findClass]; exact hown
  obtain ⟨m1, c', hm1, hready, hfind, hnames⟩ := Cond.methodRef_named e fT r1
  obtain ⟨obj, methO, hnO, hmO, hstO, habO⟩ := Cond.instanceMethod_spec (mvT (args := args) hZ w4)
  obtain ⟨methO', cO, hmO', hcO, hbO, hlO, -, hlockO, -, hsigO⟩ := Cond.code_spec hnO (mvT (args := args) hZ wc)
  cases hmO.symm.trans hmO'
  have nT : (Z.setVm T.vm).methodNamed? y = some obj := X.named hnO
  obtain rfl : m1 = obj := (Option.some.inj ((State.methodFound?_of_named nT hy).symm.trans hm1)).symm
  have cT : (Z.setVm T.vm).vm.findClass y.cls = some m1.cls := findClass_of_methodNamed nT
  obtain rfl : c' = m1.cls := (Option.some.inj (cT.symm.trans hfind)).symm
  obtain ⟨kO, hkO, hnameO⟩ := className_of_methodNamed nT
  obtain ⟨hnameMO, hdescO⟩ := name_of_methodNamed hnO hmO
  have hmT : T.vm.method? m1 = some methO := by rw [X.warmed.alike.method?]; exact hmO
  have hfound : lookupSpecial T.vm m1.cls "<init>" methO.desc = .method m1 := by
    rw [X.warmed.alike.lookupSpecial, hdescO, ← hn]; exact lookupSpecial_of_named hnO hmO hstO
  have hstep : ∀ target, (∀ acts, Steps p.tables e below (doInvoke e (T.setTop { g with stack := rest }) acts m1 (.ref a :: argsL).toArray).1 target) → Steps p.tables e below (T.setTop g) target := by
    intro target hrest
    subst hg
    jvm_step X.here [hx, hd, invokespecial.wp_init (e := e) (s := T) (k := kO) (meth := methO) (m := m1) (a := a) (args := argsL) (rest := rest) (f := g) X.here.top hnames hready hkO hmT (by rw [hnameMO]; exact hn) hstO habO hfound (hlen _ hsigO) hs]
    exact hrest
  obtain ⟨v, ⟨T', L', k', n'⟩, X', ⟨L, hQ, l1, y1, z1⟩, st⟩ := backOf (len := 3) (W := W) (p := p) (e := e) (below := below) (args := args) (R := R) hM hZ wc wz hf hl m meth c ⟨T, locs, cells, slots⟩ { g with stack := rest } (.invokespecial index) m1 (.ref a :: argsL).toArray X hg hml hd hW (X.named hnO) ⟨rfl, eT, hc, hsl⟩
  dsimp only [Pt.U, Pt.locs, Pt.cells, Pt.slots] at X' l1 y1 z1 st hQ
  subst l1 y1 z1
  exact ⟨v, T', L, X', hQ, fun t k => (hstep _ fun acts => by rw [doInvoke_state]; exact Steps.refl _).trans (st.trans k)⟩
theorem own_ib {count : Nat} (X : Stand p l e R s m args below meth c T locs cells slots) (hx : p.tables.exec = Jvm.exec) (hZ : Z.Warmed39 s.vm) (hown : s.vm.findClass own = some m.cls)
    (w1 : (Cond.methodLink own index z).before a0 Z = true) (w2 : (Cond.declares z).before a0 Z = true) (w5 : (Cond.interfaceMethod z.cls z.cls z.name z.desc).before args s = true) (w3 : (Cond.selects C z y).before a0 Z = true) (w4 : (Cond.instanceMethod y).before a0 Z = true) (w6 : (Cond.publicMethod y).before a0 Z = true) (w7 : (Cond.unhidden C z.name z.desc).before args s = true) (w8 : (Cond.castable C z.cls).before a0 Z = true) (wc : (Cond.code y bytes maxL ret).before a0 Z = true) (wz : (Cond.initialized y.cls).before a0 Z = true)
    (eT : T.heap = h) (E : Exa Z h a C)
    (hM : MetFree l y (head1 [Cond.code y bytes maxL ret] rm) (fun a' U => a' = (Value.ref a :: argsL).toArray ∧ Z.Warmed39 U.vm ∧ U.heap = h) (fun _ _ _ _ _ => True) (fun _ U o U' => ∃ v L, o = .returned v ∧ Q v U'.heap L ∧ FrameEnd U o U' L rm.cells rm.slots))
    (hg : g.method = m) (hml : g.locals.size = c.maxLocals) (hs : g.stack = argsL.reverse ++ .ref a :: rest) (hd : decode c.code g.pc = .ok (.invokeinterface index count, 5)) (hlen : ∀ sig, parseMethodDescriptor z.desc = some sig → argsL.length = sig.parameters.length)
    {W : Nat} {c1 s1 : Nat} (h1 : cells + rm.cells = c1 := by rfl) (h2 : slots + rm.slots = s1 := by rfl) (hW : 2 * g.monitorRoom + (rest.map fun v => v.category).sum ≤ W := by show 2 * 0 + _ ≤ _; exact Nat.le_of_eq rfl) (hf : rm.frames + 1 ≤ R.frames := by decide) (hl : W + (maxL + 11) + rm.locals ≤ R.locals := by decide) (hc : c1 ≤ R.cells := by decide) (hsl : s1 ≤ R.slots := by decide) (hy : z.cls ≠ "java/lang/invoke/MethodHandle" ∧ z.cls ≠ "java/lang/invoke/VarHandle" := by decide) :
    ∃ v T' L, Stand p l e R s m args below meth c T' (locs ++ L) c1 s1 ∧ Q v T'.heap L ∧ ∀ target, Steps p.tables e below (T'.setTop { g with pc := g.pc + 5, stack := v.toList ++ rest }) target → Steps p.tables e below (T.setTop g) target := by
  subst h1 h2
  obtain ⟨cB, kB, q1, q2, q3⟩ := isOf hZ eT E
  obtain ⟨v, _, ⟨T', L', k', n'⟩, -, X', ⟨L, hQ, l1, y1, z1⟩, st⟩ := X.interfaceBack hx (xi := z) (y := y) hown (mvT hZ w1) (mvT hZ w2) w5 (mvT hZ w3) (mvT hZ w4) (mvT hZ w6) w7 (mvT hZ w8) hy (backOf (W := W) hM hZ wc wz hf hl) q1 q2 q3 hg hml (Steps.refl _) hlen hs hW hd (fun _ _ => ⟨rfl, eT, hc, hsl⟩)
  dsimp only [Pt.U, Pt.locs, Pt.cells, Pt.slots] at X' l1 y1 z1 st hQ
  subst l1 y1 z1
  exact ⟨v, T', L, X', hQ, fun t k => st.trans k⟩
end Calls
theorem own_oz {Z : State} {n0 : Nat} {h : Heap} (O : Old Z n0 h) : n0 ≤ h.size := by
  rw [← O.1]; exact O.2.1
theorem own_lsw {tb : Tables} [Ours tb] {e : Env} {below : List Frame} {T target : State} {m : MethodId} {c : Code} {g : JFrame} (h : At T m c below) (hx : tb.exec = Jvm.exec) (hg : g.method = m) {dflt : Int} {prs : Array (Int × Int)} {len : Nat} {o : Int} {pc0 pc' : Nat} (hpc : g.pc = pc0) (hd : decode c.code g.pc = .ok (.lookupswitch dflt prs, len)) {i : Int32} {rest : List Value} (hs : g.stack = .int i :: rest)
    (hsort : (prs.toList.zip (prs.toList.drop 1)).all (fun (a, next) => a.1 < next.1) = true) (hoff : lookupswitch.offset prs.toList dflt i.toInt = o) (ho : 0 ≤ (pc0 : Int) + o) (hp : ((pc0 : Int) + o).toNat = pc')
    (hr : Steps tb e below (T.setTop { g with pc := pc', stack := rest }) target) : Steps tb e below (T.setTop g) target := by
  subst hg hpc hp
  jvm_step h [h.top, hx, hd, hs, hoff, ho, lookupswitch.wp_chain]
  exact ⟨by simpa using hsort, hr⟩
section Nums
variable {x k : Int32} {n : Int}
theorem own_lt1 (hk : k.toInt = n) (h : x < k) : x.toInt < n := by rw [← hk]; exact Int32.lt_iff_toInt_lt.mp h
theorem own_lt2 (hk : k.toInt = n) (h : k < x) : n < x.toInt := by rw [← hk]; exact Int32.lt_iff_toInt_lt.mp h
theorem own_nlt1 (hk : k.toInt = n) (h : ¬ x < k) : n ≤ x.toInt := by rw [Int32.lt_iff_toInt_lt, hk] at h; omega
theorem own_nlt2 (hk : k.toInt = n) (h : ¬ k < x) : x.toInt ≤ n := by rw [Int32.lt_iff_toInt_lt, hk] at h; omega
theorem own_eq (hk : k.toInt = n) (h : x = k) : x.toInt = n := by rw [← hk, h]
theorem own_neq (hk : k.toInt = n) (h : ¬ x = k) : x.toInt ≠ n := fun q => h (Int32.toInt_inj.mp (by rw [hk, q]))
theorem own_glt1 (hk : k.toInt = n) (h : x.toInt < n) : x < k := Int32.lt_iff_toInt_lt.mpr (by rw [hk]; exact h)
theorem own_glt2 (hk : k.toInt = n) (h : n < x.toInt) : k < x := Int32.lt_iff_toInt_lt.mpr (by rw [hk]; exact h)
theorem own_gnlt1 (hk : k.toInt = n) (h : n ≤ x.toInt) : ¬ x < k := fun q => by have := own_lt1 hk q; omega
theorem own_gnlt2 (hk : k.toInt = n) (h : x.toInt ≤ n) : ¬ k < x := fun q => by have := own_lt2 hk q; omega
theorem own_geq (hk : k.toInt = n) (h : x.toInt = n) : x = k := Int32.toInt_inj.mp (by rw [hk, h])
theorem own_gneq (hk : k.toInt = n) (h : x.toInt ≠ n) : ¬ x = k := fun q => h (own_eq hk q)
theorem own_and (hk : k.toInt = n) (h0 : 0 ≤ n) : 0 ≤ (x &&& k).toInt ∧ (x &&& k).toInt ≤ n := by have := c_and x k (by rw [hk]; exact h0); rw [hk] at this; exact this
theorem own_and2 (hk : k.toInt = n) (h0 : 0 ≤ n) : 0 ≤ (k &&& x).toInt ∧ (k &&& x).toInt ≤ n := by have := c_and' k x (by rw [hk]; exact h0); rw [hk] at this; exact this
theorem own_rem (hk : k.toInt = n) (h0 : 0 < n) (hx : 0 ≤ x.toInt) : 0 ≤ (x % k).toInt ∧ (x % k).toInt < n ∧ (x % k).toInt ≤ x.toInt := by
  have := (c_iremV x k).1 hx (by rw [hk]; exact h0); rw [hk] at this; exact ⟨this.1, this.2.1, this.2.2.1⟩
theorem own_add {lo hi : Int} (hk : k.toInt = n) (hx : lo ≤ x.toInt ∧ x.toInt ≤ hi) (h1 : -2147483648 ≤ lo + n) (h2 : hi + n < 2147483648) : lo + n ≤ (x + k).toInt ∧ (x + k).toInt ≤ hi + n := by
  have := c_iadd x k; have := rng32 (x + k); rw [hk] at *; omega
theorem own_add2 {lo hi : Int} (hk : k.toInt = n) (hx : lo ≤ x.toInt ∧ x.toInt ≤ hi) (h1 : -2147483648 ≤ lo + n) (h2 : hi + n < 2147483648) : lo + n ≤ (k + x).toInt ∧ (k + x).toInt ≤ hi + n := by
  have := c_iadd k x; have := rng32 (k + x); rw [hk] at *; omega
end Nums
theorem own_len {Z : State} {args : Array Value} {t : Term} {a : Addr} {c : Cell} {ty : FieldType} {n : Int32} (A : Arr Z Z.heap a c ty) (ev : t.eval args Z none [] Z = some (.ref a)) (h : (Term.length t).eval args Z none [] Z = some (.int n)) : c.slots.size < 2 ^ 31 ∧ c.slots.size.toInt32 = n := by
  have q := A.fin (Vm.Alike.refl _)
  by_cases z : c.slots.size < 2 ^ 31
  · rw [len_f ev q z] at h; exact ⟨z, Value.int.inj (Option.some.inj h)⟩
  · simp [Term.eval, ev, q, z] at h
theorem own_selp {s : State} {args : Array Value} {y z : MethodName} {C : String} (w : (Cond.selects C z z).before args s = true) (hc : z.cls = y.cls) (hp : s.PrivateAt y) (hi : (Cond.instanceMethod y).before args s = true) (hy : y.cls ≠ "java/lang/invoke/MethodHandle" ∧ y.cls ≠ "java/lang/invoke/VarHandle") : (Cond.selects y.cls y y).before args s = true := by
  obtain ⟨c2, r2, m2, -, -, q3, -, kP, hkP, hkPi⟩ := Cond.selects_spec w
  exact selects_self_of_private (by rw [← hc]; exact findClass_of_methodNamed q3) hkP hkPi hp hi hy
theorem own_max64 (x : Int64) : ¬ (9223372036854775807 : Int64) < x := fun h => by have := rng64 x; rw [Int64.lt_iff_toInt_lt, show (9223372036854775807 : Int64).toInt = 9223372036854775807 by decide] at h; omega
theorem own_min64 (x : Int64) : ¬ x < (-9223372036854775808 : Int64) := fun h => by have := rng64 x; rw [Int64.lt_iff_toInt_lt, show (-9223372036854775808 : Int64).toInt = -9223372036854775808 by decide] at h; omega
theorem own_root {Z : State} {a0 : Array Value} {O K : String} {n : Nat} (w : (Cond.noSuperclass O).before a0 Z = true) (wk : (Cond.instantiable K n).before a0 Z = true) (hn : O ≠ K) : NS Z O K := by
  obtain ⟨c, k, h1, h2, h3, -, -⟩ := Cond.noSuperclass_spec w
  obtain ⟨t, kt, g1, -⟩ := Cond.instantiable_spec wk
  have ne := ids_ne h1 g1 hn
  refine ⟨c, t, h1, g1, fun fuel => ?_⟩
  cases fuel with
  | zero => rfl
  | succ f => simp [Vm.isSubclassAux, ne, h2, h3]
theorem own_no {Z : State} {a0 : Array Value} {C S K : String} {n : Nat} (w : (Cond.superclass C S).before a0 Z = true) (wk : (Cond.instantiable K n).before a0 Z = true) (q : NS Z C K) (hn : C ≠ K) : ∃ c t, Z.vm.findClass C = some c ∧ Z.vm.findClass K = some t ∧ Z.vm.assignable c t = false := by
  obtain ⟨c, t, h0, g0, n3⟩ := q
  obtain ⟨p, k, kp, h1, h2, h3, h4, h5, -, h7⟩ := Cond.superclass_spec h0 w
  obtain ⟨t', k', g1, g2, g3, g4, -⟩ := Cond.instantiable_spec wk
  cases g0.symm.trans g1
  have ne := ids_ne h0 g0 hn
  have g5 : k'.isInterface = false := by simp only [Bool.or_eq_false_iff] at g4; exact g4.1
  refine ⟨c, t, h0, g0, ?_⟩
  show Z.vm.assignableAux (255 + 1) c t = false
  simp [Vm.assignableAux, ne, h2, g2, h5, g3, g5, Vm.isSubclass, n3]
theorem own_sub {x k : Int32} {n lo hi : Int} (hk : k.toInt = n) (hx : lo ≤ x.toInt ∧ x.toInt ≤ hi) (h1 : -2147483648 ≤ lo - n) (h2 : hi - n < 2147483648) : lo - n ≤ (x - k).toInt ∧ (x - k).toInt ≤ hi - n := by
  have := c_isub x k; have := rng32 (x - k); rw [hk] at *; omega
theorem own_dbl {x : Int32} {lo hi : Int} (hx : lo ≤ x.toInt ∧ x.toInt ≤ hi) (h1 : -1073741824 ≤ lo) (h2 : hi < 1073741824) : 2 * lo ≤ ((2 : Int32) * x).toInt ∧ ((2 : Int32) * x).toInt ≤ 2 * hi := by
  have := c_imul 2 x; have := rng32 (2 * x); rw [show (2 : Int32).toInt = 2 by decide] at *; omega
theorem own_nz {x : Int32} (h : 0 ≤ x.toInt ∧ x.toInt ≤ 1) : nar .boolean x = x := by
  have q : x = 0 ∨ x = 1 := by
    rcases (by omega : x.toInt = 0 ∨ x.toInt = 1) with q | q
    · exact Or.inl (own_geq (by decide) q)
    · exact Or.inr (own_geq (by decide) q)
  rcases q with rfl | rfl <;> decide
theorem own_fz {x : Int32} (h : 0 ≤ x.toInt ∧ x.toInt ≤ 1) : fits .boolean (.int x) = true := by
  have q : x = 0 ∨ x = 1 := by
    rcases (by omega : x.toInt = 0 ∨ x.toInt = 1) with q | q
    · exact Or.inl (own_geq (by decide) q)
    · exact Or.inr (own_geq (by decide) q)
  rcases q with rfl | rfl <;> decide
theorem own_nb8 (x : Int32) : nar .byte (x.toInt8.toInt32) = x.toInt8.toInt32 := by
  show (x.toInt8.toInt32).toInt8.toInt32 = x.toInt8.toInt32
  simp
theorem own_ldcF {p : Program} {l : Launch} {e : Env} {R : Room} {s : State} {m : MethodId} {args : Array Value} {below : List Frame} {meth : Method} {c : Code} {T : State} {locs : List Loc} {cells slots : Nat} {Z : State} {a0 : Array Value} {own : String} {index : Nat} {b : UInt32} {g : JFrame}
    (X : Stand p l e R s m args below meth c T locs cells slots) (hx : p.tables.exec = Jvm.exec) (hZ : Z.Warmed39 s.vm) (hown : s.vm.findClass own = some m.cls) (w : (Cond.constantFloat own index b).before a0 Z = true) (hg : g.method = m) (hd : decode c.code g.pc = .ok (.ldc index, 2)) :
    ∀ target, Steps p.tables e below (T.setTop { g with pc := g.pc + 2, stack := .float b :: g.stack }) target → Steps p.tables e below (T.setTop g) target := by
  obtain ⟨k, cf, h1, h2, h3⟩ := Cond.constantFloat_spec hown (mvT (args := args) hZ w)
  exact X.ldcFloat hx h1 h2 h3 hg hd
theorem own_eqR {Z : State} {args : Array Value} {a b : Term} {idx : List Nat} {w : Addr} (hb : b.eval args Z none idx Z = some (.ref w)) (h : (Cond.eq a b).value args Z none Z idx = some true) : a.eval args Z none idx Z = some (.ref w) := by
  simp only [Cond.value, hb] at h
  cases ht : a.eval args Z none idx Z with
  | none => simp [ht] at h
  | some x => cases x <;> simp [ht] at h ⊢; exact h
theorem own_h (K Y : Int64) : ((((K + Y) + (0 : Int64)) + (0 : Int64)) - K) = Y := by
  apply Int64.toInt_inj.mp
  have a := c_ladd K Y; have a1 := c_ladd (K + Y) 0; have a2 := c_ladd (K + Y + 0) 0; have b := c_lsub (K + Y + 0 + 0) K; have r1 := rng64 Y; have r2 := rng64 ((K + Y + 0 + 0) - K)
  rw [show (0 : Int64).toInt = 0 by decide] at a1 a2
  omega
theorem own_s0 (x : Int64) : (x <<< ((0 : Int32) &&& 0x3f).toInt64) = x := by
  rw [show (((0 : Int32) &&& 0x3f).toInt64) = 0 by decide]; simp
section Wps
variable {Q : Unit → Pre} {E : CtlPost} {e : Env} {d : Bool} {acts : List Action} {s : State} {f : JFrame}
theorem own_wps {index a : Nat} {m : MethodId} {named : ClassId} {ck nk mk : Class} {meth : Method} {args rest : List Value} {cell : Cell} {kcell : Class}
    (hs : s.topJava?.isSome) (hr : s.vm.methodReady f.method.cls index m) (hm : s.vm.method? m = some meth)
    (hck : s.vm.classes[f.method.cls]? = some ck) (hnamed : namesResolved s.vm f.method.cls index named) (hnk : s.vm.classes[named]? = some nk)
    (hinit : meth.name ≠ "<init>") (hstatic : meth.isStatic = false)
    (hsup : ck.super = some named) (hfound : lookupSpecial s.vm named meth.name meth.desc = .method m)
    (hiface : ck.isInterface = false) (hmk : s.vm.classes[m.cls]? = some mk) (habs : meth.isAbstract = false)
    (hlen : args.length = meth.sig.parameters.length) (hstack : f.stack = args.reverse ++ .ref a :: rest)
    (hcell : s.heap[a]? = some cell) (hobj : ∀ c, cell.vm ≠ .statics c) (hkcell : s.vm.classes[cell.cls]? = some kcell) :
    wp (invokespecial.sem index) Q E e d acts (s.setTop f) ↔
      E (.invoke m (.ref a :: args).toArray) acts (s.setTop { f with stack := rest }) := by
  obtain ⟨kc, cf, ci, n, h1, h2, h3, h4⟩ := hnamed
  cases hck.symm.trans h1
  have hpre : ∀ {Q' : ClassId → Pre} {d' : Bool} {acts' : List Action}, wp (Jvm.refClassAt index) Q' E e d' acts' (s.setTop f) ↔ Q' named d' acts' (s.setTop f) := by
    intro Q' d' acts'
    rcases h3 with h3 | h3 <;>
      simp [Jvm.refClassAt, Jvm.constantAt, State.method?_setTop f hs, h1, h2, h3, W.resolveClassAt_ready (State.method?_setTop f hs) h4]
  have hi : (meth.name == "<init>" && m.cls != named) = false := by simp [hinit]
  have hL : lookupSpecial s.vm (if meth.name != "<init>" && !nk.isInterface && (named != f.method.cls && s.vm.isSubclass f.method.cls named) then ck.super.getD named else named) meth.name meth.desc = .method m := by
    split
    · rw [hsup]; exact hfound
    · exact hfound
  have hL2 : lookupSpecial s.vm (if (¬meth.name = "<init>" ∧ nk.isInterface = false) ∧ ¬named = f.method.cls ∧ s.vm.isSubclass f.method.cls named = true then ck.super.getD named else named) meth.name meth.desc = .method m := by
    split
    · rw [hsup]; exact hfound
    · exact hfound
  simp only [invokespecial.sem, wp_bind', W.resolveMethodAt_ready (State.method?_setTop f hs) hr]
  simp only [W.theMethod, State.vm_setTop, hm, Option.some.injEq, exists_eq_left', wp_bind', hpre, W.currentClass, W.theClass,
    State.method?_setTop f hs, hck, hnk]
  simp only [W.ite, hi, hstatic, Bool.false_eq_true, if_false, wp_bind', W.theClass, State.vm_setTop, hck, hnk, Option.some.injEq, exists_eq_left', W.look, hL,
    bne_self_eq_false, wp_pure', Jvm.popArgs, ← hlen, popN_top hs hstack]
  simp [hs, hcell, hobj, hkcell, hck, hm, habs, hmk, hL, hL2, hiface, popN_top hs hstack]
end Wps
section Su
variable {p : Program} {l : Launch} {e : Env} {R : Room} {s : State} {m : MethodId} {args : Array Value} {below : List Frame} {meth : Method} {c : Code} {T : State} {locs : List Loc} {cells slots : Nat} {Z : State} {a0 : Array Value} {h : Heap}
variable {own C : String} {index : Nat} {y z : MethodName} {bytes : ByteArray} {maxL : Nat} {ret : Option FieldType} {rm : Room} {a : Addr} {Q : Option Value → Heap → List Loc → Prop} {argsL rest : List Value} {g : JFrame}
theorem own_su (X : Stand p l e R s m args below meth c T locs cells slots) (hx : p.tables.exec = Jvm.exec) (hZ : Z.Warmed39 s.vm) (hown : s.vm.findClass own = some m.cls)
    (w1 : (Cond.methodLink own index y).before a0 Z = true) (w4 : (Cond.instanceMethod y).before a0 Z = true) (w3 : (Cond.superclass own y.cls).before a0 Z = true) (wc : (Cond.code y bytes maxL ret).before a0 Z = true) (wz : (Cond.initialized y.cls).before a0 Z = true)
    (eT : T.heap = h) (E : Exa Z h a C)
    (hM : MetFree l y (head1 [Cond.code y bytes maxL ret] rm) (fun a' U => a' = (Value.ref a :: argsL).toArray ∧ Z.Warmed39 U.vm ∧ U.heap = h) (fun _ _ _ _ _ => True) (fun _ U o U' => ∃ v L, o = .returned v ∧ Q v U'.heap L ∧ FrameEnd U o U' L rm.cells rm.slots))
    (hg : g.method = m) (hml : g.locals.size = c.maxLocals) (hs : g.stack = argsL.reverse ++ .ref a :: rest) (hd : decode c.code g.pc = .ok (.invokespecial index, 3)) (hlen : ∀ sig, parseMethodDescriptor y.desc = some sig → argsL.length = sig.parameters.length)
    {W : Nat} {c1 s1 : Nat} (h1 : cells + rm.cells = c1 := by rfl) (h2 : slots + rm.slots = s1 := by rfl) (hW : 2 * g.monitorRoom + (rest.map fun v => v.category).sum ≤ W := by show 2 * 0 + _ ≤ _; exact Nat.le_of_eq rfl) (hf : rm.frames + 1 ≤ R.frames := by decide) (hl : W + (maxL + 11) + rm.locals ≤ R.locals := by decide) (hc : c1 ≤ R.cells := by decide) (hsl : s1 ≤ R.slots := by decide) (hn : y.name ≠ "<init>" := by decide) (hy : y.cls ≠ "java/lang/invoke/MethodHandle" ∧ y.cls ≠ "java/lang/invoke/VarHandle" := by decide) :
    ∃ v T' L, Stand p l e R s m args below meth c T' (locs ++ L) c1 s1 ∧ Q v T'.heap L ∧ ∀ target, Steps p.tables e below (T'.setTop { g with pc := g.pc + 3, stack := v.toList ++ rest }) target → Steps p.tables e below (T.setTop g) target := by
  subst h1 h2
  have hpl : e.platform.magicAccessors = ({} : Platform).magicAccessors := by rw [X.admits.platform]
  obtain ⟨obj, methO, hnO, hmO, hstO, habO⟩ := Cond.instanceMethod_spec (mvT (args := args) hZ w4)
  obtain ⟨methO', cO, hmO', hcO, hbO, hlO, -, hlockO, -, hsigO⟩ := Cond.code_spec hnO (mvT (args := args) hZ wc)
  cases hmO.symm.trans hmO'
  obtain ⟨kO, hkO, hnameO⟩ := className_of_methodNamed hnO
  obtain ⟨hnameMO, hdescO⟩ := name_of_methodNamed hnO hmO
  obtain ⟨ci, hlk, hright⟩ := Cond.methodLink_spec hown hnO (mvT (args := args) hZ w1) e.platform hpl
  have hE : s.MethodEntry e T.vm m.cls index obj ci := State.methodEntry X.warmed hlk hright fun k hk => by
    cases hkO.symm.trans hk
    rw [hnameO]; exact hy
  obtain ⟨dk, cf, nt, _, _, via, _, _, hd', hcf, hcp, -⟩ := hlk.here
  have hcp' : cf.constantPool[index]? = some (.methodref ci nt) ∨ cf.constantPool[index]? = some (.interfaceMethodref ci nt) := by
    cases via
    · exact Or.inl (by simpa using hcp)
    · exact Or.inr (by simpa using hcp)
  obtain ⟨pp, k1, kp, s1', s2, s3, s4, s5, s6, s7⟩ := Cond.superclass_spec hown (mvT (args := args) hZ w3)
  obtain rfl : pp = obj.cls := Option.some.inj (s1'.symm.trans (findClass_of_methodNamed hnO))
  cases hd'.symm.trans s2
  have hwarm := hE.warmed
  have hreadyM := hE.ready
  have hreadyC := hE.classReady
  generalize hvm₂ : T.vm.called m.cls ci index obj = vm₂ at hwarm hreadyM hreadyC
  obtain ⟨dk₂, hdk₂, hed₂⟩ := hwarm.alike.2.2 _ _ hd'
  obtain ⟨kO₂, hkO₂, heO₂⟩ := hwarm.alike.2.2 _ _ hkO
  have hmO₂ : vm₂.method? obj = some methO := by rw [hwarm.alike.method?]; exact hmO
  have hfound : lookupSpecial vm₂ obj.cls methO.name methO.desc = .method obj := by
    rw [hwarm.alike.lookupSpecial, hdescO, hnameMO]; exact lookupSpecial_of_named hnO hmO hstO
  obtain ⟨cell, kc, e1, e2, e3, e4, -⟩ := E
  obtain ⟨kc', q1, -⟩ := hZ.alike.2.2 _ _ e3
  obtain ⟨kc2, q2, -⟩ := hwarm.alike.2.2 _ _ q1
  have X₁ := X.noted hwarm
  have hstep : ∀ target, (∀ acts, Steps p.tables e below (doInvoke e ((T.setVm vm₂).setTop { g with stack := rest }) acts obj (.ref a :: argsL).toArray).1 target) → Steps p.tables e below (T.setTop g) target := by
    intro target hrest
    subst hg
    jvm_step X.here [hx, hd, invokespecial.wp_cold (e := e) (s := T) (s₀ := s) (f := g) (meth := methO) X.here.top hE hd' hcf hcp' hmO, hvm₂,
      own_wps (e := e) (s := T.setVm vm₂) (f := g) (a := a) (m := obj) (named := obj.cls) (ck := dk₂) (nk := kO₂) (mk := kO₂) (meth := methO) (args := argsL) (rest := rest) (cell := cell) (kcell := kc2)
        X₁.here.top hreadyM hmO₂ hdk₂ ⟨dk₂, cf, ci, nt, hdk₂, by rw [hed₂]; exact hcf, hcp', hreadyC⟩ hkO₂ (by rw [hnameMO]; exact hn) hstO (by rw [hed₂]; exact s4) hfound (by rw [hed₂]; exact s7) hkO₂ habO (hlen _ hsigO) hs (by show T.heap[a]? = _; rw [eT]; exact e1) (fun q w => by rw [w] at e4; cases e4) q2]
    exact hrest
  obtain ⟨v, ⟨T', L', k', n'⟩, X', ⟨L, hQ, l1, y1, z1⟩, st⟩ := backOf (len := 3) (W := W) (p := p) (e := e) (below := below) (args := args) (R := R) hM hZ wc wz hf hl m meth c ⟨T.setVm vm₂, locs, cells, slots⟩ { g with stack := rest } (.invokespecial index) obj (.ref a :: argsL).toArray X₁ hg hml hd hW (X₁.named hnO) ⟨rfl, eT, hc, hsl⟩
  dsimp only [Pt.U, Pt.locs, Pt.cells, Pt.slots] at X' l1 y1 z1 st hQ
  subst l1 y1 z1
  exact ⟨v, T', L, X', hQ, fun t k => (hstep _ fun acts => by rw [doInvoke_state]; exact Steps.refl _).trans (st.trans k)⟩
end Su
abbrev yn0 : MethodName := ⟨"com/example/mycelia/mycelia/wire/MessageTree$IntRecords", "<init>", "()V"⟩
abbrev yn1 : MethodName := ⟨"java/lang/AbstractStringBuilder", "<init>", "(I)V"⟩
abbrev yn2 : MethodName := ⟨"java/lang/StringBuilder", "<init>", "()V"⟩
abbrev yn3 : MethodName := ⟨"java/util/AbstractCollection", "<init>", "()V"⟩
abbrev yn4 : MethodName := ⟨"java/util/AbstractList", "<init>", "()V"⟩
abbrev yn5 : MethodName := ⟨"java/util/ArrayList", "<init>", "()V"⟩
abbrev yn6 : MethodName := ⟨"java/util/AbstractMap", "<init>", "()V"⟩
abbrev yn7 : MethodName := ⟨"java/util/HashMap", "<init>", "()V"⟩
abbrev yn8 : MethodName := ⟨"com/example/mycelia/mycelia/wire/MessageTree$IntRecords", "add", "(IIII)I"⟩
abbrev yn9 : MethodName := ⟨"com/example/mycelia/mycelia/wire/MessageTree", "<init>", "()V"⟩
abbrev yn10 : MethodName := ⟨"com/example/mycelia/mycelia/wire/MessageTree$IntRecords", "heap", "()J"⟩
abbrev yn11 : MethodName := ⟨"java/lang/AbstractStringBuilder", "capacity", "()I"⟩
abbrev yn12 : MethodName := ⟨"java/lang/StringBuilder", "capacity", "()I"⟩
abbrev yn13 : MethodName := ⟨"java/util/ArrayList", "size", "()I"⟩
abbrev yn14 : MethodName := ⟨"java/util/List", "size", "()I"⟩
abbrev yn15 : MethodName := ⟨"com/example/mycelia/mycelia/wire/MessageTree", "heap", "()J"⟩
abbrev yn16 : MethodName := ⟨"com/example/mycelia/mycelia/wire/MessageTree", "passed", "(JZ)V"⟩
def GW (Z : State) (w1 : Addr) (w2 : Addr) (kw1 : ClassId) (kw2 : ClassId) (gi1 : Int32) : Prop :=
  (Sta Z Z.heap "java/util/ArrayList" "EMPTY_ELEMENTDATA" "[Ljava/lang/Object;" (.ref w1))
  ∧ (Exa Z Z.heap w1 "[Ljava/lang/Object;")
  ∧ (Sta Z Z.heap "java/util/ArrayList" "DEFAULTCAPACITY_EMPTY_ELEMENTDATA" "[Ljava/lang/Object;" (.ref w2))
  ∧ (Exa Z Z.heap w2 "[Ljava/lang/Object;")
  ∧ (Sta Z Z.heap "java/lang/String" "COMPACT_STRINGS" "Z" (.int gi1))
  ∧ (¬ (gi1 = (0 : Int32)))
  ∧ (Arv Z Z.heap w1 kw1 (.object "java/lang/Object") (0 : Int32) [] .null)
  ∧ (Arv Z Z.heap w2 kw2 (.object "java/lang/Object") (0 : Int32) [] .null)
def Q0 (n0 : Nat) (v : Option Value) (h : Heap) (L : List Loc) : Prop := v = some (.int (1 : Int32)) ∧ Fr n0 L
theorem d0_0 : decode prog_21_method_1_code 0 = .ok (.aload_n 0, 1) := by decide +kernel
theorem d0_1 : decode prog_21_method_1_code 1 = .ok (.invokespecial 1, 3) := by decide +kernel
theorem d0_4 : decode prog_21_method_1_code 4 = .ok (.aload_n 0, 1) := by decide +kernel
theorem d0_5 : decode prog_21_method_1_code 5 = .ok (.new 7, 3) := by decide +kernel
theorem d0_8 : decode prog_21_method_1_code 8 = .ok (.dup, 1) := by decide +kernel
theorem d0_9 : decode prog_21_method_1_code 9 = .ok (.invokespecial 9, 3) := by decide +kernel
theorem d1_0 : decode prog_22_method_1_code 0 = .ok (.aload_n 0, 1) := by decide +kernel
theorem d1_1 : decode prog_22_method_1_code 1 = .ok (.invokespecial 3, 3) := by decide +kernel
theorem d1_4 : decode prog_22_method_1_code 4 = .ok (.aload_n 0, 1) := by decide +kernel
theorem d1_5 : decode prog_22_method_1_code 5 = .ok (.iconst 1, 1) := by decide +kernel
theorem d1_6 : decode prog_22_method_1_code 6 = .ok (.anewarray 9, 3) := by decide +kernel
theorem d1_9 : decode prog_22_method_1_code 9 = .ok (.putfield 11, 3) := by decide +kernel
theorem d1_12 : decode prog_22_method_1_code 12 = .ok (.return_, 1) := by decide +kernel
theorem pn0 : plainName "com/example/mycelia/mycelia/wire/MessageTree$IntRecords" = true := by first | (simp [plainName, overriddenIn]; done) | decide +kernel
theorem ef1 (m : MethodId) (x0 : Addr) : entryFrame m #[(.ref x0)] 1 = mkF m 0 #[.val (.ref x0)] [] := by first | (simp [entryFrame, mkF, argsToLocals, Value.category]; done) | rfl
def Q1 (Z : State) (o1 : Addr) (h0 : Heap) (n0 : Nat) (v : Option Value) (h : Heap) (L : List Loc) : Prop :=
  (∃ b2 : Addr, ∃ k2 : ClassId, v = none ∧ Fr n0 L ∧ Keep h0 h [o1] ∧ h0.size ≤ b2 ∧ OvrA Z k2 .int "[I" ∧ (Exa Z h o1 "com/example/mycelia/mycelia/wire/MessageTree$IntRecords") ∧ (Fld Z h o1 "com/example/mycelia/mycelia/wire/MessageTree$IntRecords" "blocks" "[[I" (.ref b2)) ∧ (Fld Z h o1 "com/example/mycelia/mycelia/wire/MessageTree$IntRecords" "heap" "J" (.long 0)) ∧ (Fld Z h o1 "com/example/mycelia/mycelia/wire/MessageTree$IntRecords" "size" "I" (.int 0)) ∧ (Arv Z h b2 k2 (.array .int) (1 : Int32) [.null] .null) ∧ (Exa Z h b2 "[[I"))
set_option maxRecDepth 65536 in
set_option maxHeartbeats 40000000 in
theorem rm1 (l : Launch) (Z : State) (a0 : Array Value) (hw : ∀ d ∈ tables_1, d.before a0 Z = true) (ws : List Jvm.Cond) (o1 : Addr) (h0 : Heap) (n0 : Nat) (O0 : Old Z n0 h0) (g_o1 : n0 ≤ o1) (P0 : Exa Z h0 o1 "com/example/mycelia/mycelia/wire/MessageTree$IntRecords") (P1 : Fld Z h0 o1 "com/example/mycelia/mycelia/wire/MessageTree$IntRecords" "blocks" "[[I" .null) (P2 : Fld Z h0 o1 "com/example/mycelia/mycelia/wire/MessageTree$IntRecords" "heap" "J" (.long 0)) (P3 : Fld Z h0 o1 "com/example/mycelia/mycelia/wire/MessageTree$IntRecords" "size" "I" (.int 0)) :
    MetFree l yn0 (head1 (Jvm.Cond.code yn0 prog_22_method_1_code 1 none :: ws) ({ frames := 1, cells := 1, slots := 1, locals := 12 } : Room)) (fun a U => a = #[(.ref o1)] ∧ Z.Warmed39 U.vm ∧ U.heap = h0) (fun _ _ _ _ _ => True) (fun _ U o U' => ∃ v L, o = .returned v ∧ Q1 Z o1 h0 n0 v U'.heap L ∧ FrameEnd U o U' L ({ frames := 1, cells := 1, slots := 1, locals := 12 } : Room).cells ({ frames := 1, cells := 1, slots := 1, locals := 12 } : Room).slots) := by
  refine MetFree.of_bodySF (plainFor_of_name pn0) hisR ?_
  intro p e s m args below meth c s₁ Bd hml0 hP hK
  obtain ⟨rfl, hZ, hh⟩ := hP
  have hx := Bd.exec
  have hby := Bd.bytes
  have hml : c.maxLocals = 1 := hml0
  have hown : s.vm.findClass "com/example/mycelia/mycelia/wire/MessageTree$IntRecords" = some m.cls := findClass_of_methodNamed Bd.named
  have hnm := (name_of_methodNamed Bd.named Bd.method).1
  have hret := Bd.returns
  have hlk : meth.locks = false := BodyLoose.notSynchronized Bd
  have X0 : Stand p l e ({ frames := 1, cells := 1, slots := 1, locals := 12 } : Room) s m #[(.ref o1)] below meth c s₁ [] 0 0 := Stand.of_body Bd
  have e0 : s₁.heap = h0 := by rw [← hh, Bd.state]; rfl
  have N0 := Fr.nil n0
  have pre0 : ∀ t, Steps p.tables e below (s₁.setTop (mkF m 0 #[.val (.ref o1)] [])) t → Steps p.tables e below (s₁.setTop (entryFrame m #[(.ref o1)] 1)) t := fun t k => castTop (ef1 m o1) k
  obtain ⟨T1, X1, e1, st1⟩ := initO X0 hx hZ hown (own_w hw 15 rfl) (own_w hw 7 rfl) (own_w hw 8 rfl) e0 (g := (mkF m 1 #[.val (.ref o1)] [(.ref o1)])) rfl (by rw [hml]; rfl) rfl (hb hby d1_1) (by decide) (W := 0) (by show 2 * 0 + _ ≤ _; exact Nat.le_of_eq rfl) (by decide)
  obtain ⟨T2, h2, k2, X2, e2, E2, A2, EX2, OV2, st2⟩ := newRA X1 hx hZ hown (C := "[I") (ty := .int) (by decide) (own_w hw 16 rfl) (own_w hw 17 rfl) e1 (g := (mkF m 6 #[.val (.ref o1)] [(.int 1), (.ref o1)])) rfl (hb hby d1_6) rfl (by decide) (cap := 1) (by decide) (by decide) (by decide) (by decide) (ad := "[[I") (by decide)
  obtain ⟨b2, g2⟩ : ∃ z, z = h0.size := ⟨_, rfl⟩
  rw [← g2] at A2 EX2 st2
  have M2 : h0.size ≤ h2.size := Nat.le_trans (Nat.le_refl _) E2.1
  have O2 := Old.ext O0 E2
  have sz_b2 : h0.size ≤ b2 := Nat.le_of_eq g2.symm
  have g_b2 : n0 ≤ b2 := Nat.le_trans (own_oz O0) (Nat.le_trans (Nat.le_refl _) sz_b2)
  have V2_0 := Arv.new A2 (by decide)
  have V2 : Arv Z h2 b2 k2 (.array .int) (1 : Int32) [.null] .null := V2_0.pad (pad_rep [] .null 1)
  have f3 := (P1.ext E2)
  have f4 := (P0.ext E2)
  obtain ⟨T5, h5, X5, e5, W5, st5⟩ := putF X2 hx hZ hown (host := "") (Or.inl (own_w hw 18 rfl)) Via.refl e2 f3 f4 (Or.inl (own_w hw 19 rfl)) (own_w hw 10 rfl) (ty := (.array (.array .int))) (by decide) rfl rfl (g := (mkF m 9 #[.val (.ref o1)] [(.ref b2), (.ref o1)])) rfl rfl (hb hby d1_9)
  have N5 := Fr.snoc X5 N0 g_o1
  have Fw5 := f3.same W5
  have M5 : h0.size ≤ h5.size := Nat.le_trans M2 (Nat.le_of_eq W5.size.symm)
  have O5 := Old.wr O2 W5 g_o1
  obtain ⟨fs, hr, hrun, hended, hW, hsame⟩ := X5.leave (v := none) (fun _ => rfl)
  have KL : Keep h0 h5 [o1] := (((Keep.refl h0 [o1]).ext E2).wr W5 (Or.inl (List.mem_of_getElem? (i := 0) rfl)))
  have f6 := (f4.wr W5)
  have f7 := ((P2.ext E2).other W5 (Or.inr (slot_ne (Or.inl (own_w hw 102 rfl)) (Or.inl (own_w hw 19 rfl)) (by decide) (t := .long) (t' := (.array (.array .int))) (by decide) (by decide))))
  have f8 := ((P3.ext E2).other W5 (Or.inr (slot_ne (Or.inl (own_w hw 98 rfl)) (Or.inl (own_w hw 19 rfl)) (by decide) (t := .int) (t' := (.array (.array .int))) (by decide) (by decide))))
  have lt9 : o1 < h0.size := P0.lt
  have ne10 : o1 ≠ b2 := Nat.ne_of_lt (Nat.lt_of_lt_of_le lt9 sz_b2)
  have f11 := (V2.other W5 (Ne.symm ne10))
  have f12 := (EX2.wr W5)
  refine ⟨_, _, pre0 _ ?_, hrun, hended, _, _, rfl, ?_, ⟨_, rfl⟩, hW, hsame.mono (by decide) (by decide)⟩
  ·
    show Steps p.tables e below (s₁.setTop (mkF m 0 #[.val (.ref o1)] [])) _
    refine XS.aloadN X0.here hx rfl (hb hby d1_0) rfl rfl ?_
    refine st1 _ ?_
    refine XS.aloadN X1.here hx rfl (hb hby d1_4) rfl rfl ?_
    refine XS.iconst X1.here hx rfl (hb hby d1_5) ?_
    refine st2 _ ?_
    refine st5 _ ?_
    show Steps p.tables e below (T5.setTop (mkF m 12 #[.val (.ref o1)] [])) _
    exact X5.returnOut hx hret (hb hby d1_12) hr
  ·
    show Q1 Z o1 h0 n0 _ T5.heap _
    rw [e5]
    exact ⟨b2, k2, rfl, N5, KL, (Nat.le_trans (Nat.le_refl _) sz_b2), OV2, f6, Fw5, f7, f8, f11, f12⟩
theorem pd0 : parseMethodDescriptor "()V" = some ⟨[], none⟩ := by decide +kernel
theorem d0_12 : decode prog_21_method_1_code 12 = .ok (.putfield 10, 3) := by decide +kernel
theorem d0_15 : decode prog_21_method_1_code 15 = .ok (.aload_n 0, 1) := by decide +kernel
theorem d0_16 : decode prog_21_method_1_code 16 = .ok (.new 7, 3) := by decide +kernel
theorem d0_19 : decode prog_21_method_1_code 19 = .ok (.dup, 1) := by decide +kernel
theorem d0_20 : decode prog_21_method_1_code 20 = .ok (.invokespecial 9, 3) := by decide +kernel
theorem d0_23 : decode prog_21_method_1_code 23 = .ok (.putfield 16, 3) := by decide +kernel
theorem d0_26 : decode prog_21_method_1_code 26 = .ok (.aload_n 0, 1) := by decide +kernel
theorem d0_27 : decode prog_21_method_1_code 27 = .ok (.new 19, 3) := by decide +kernel
theorem d0_30 : decode prog_21_method_1_code 30 = .ok (.dup, 1) := by decide +kernel
theorem d0_31 : decode prog_21_method_1_code 31 = .ok (.invokespecial 21, 3) := by decide +kernel
theorem d2_0 : decode jdk_67_method_1_code 0 = .ok (.aload_n 0, 1) := by decide +kernel
theorem d2_1 : decode jdk_67_method_1_code 1 = .ok (.bipush 16, 2) := by decide +kernel
theorem d2_3 : decode jdk_67_method_1_code 3 = .ok (.invokespecial 1, 3) := by decide +kernel
theorem d3_0 : decode jdk_68_method_2_code 0 = .ok (.aload_n 0, 1) := by decide +kernel
theorem d3_1 : decode jdk_68_method_2_code 1 = .ok (.invokespecial 3, 3) := by decide +kernel
theorem d3_4 : decode jdk_68_method_2_code 4 = .ok (.getstatic 18, 3) := by decide +kernel
theorem d3_7 : decode jdk_68_method_2_code 7 = .ok (.ifCond .eq 18, 3) := by decide +kernel
theorem d3_10 : decode jdk_68_method_2_code 10 = .ok (.aload_n 0, 1) := by decide +kernel
theorem d3_11 : decode jdk_68_method_2_code 11 = .ok (.iload_n 1, 1) := by decide +kernel
theorem d3_12 : decode jdk_68_method_2_code 12 = .ok (.newarray .byte, 2) := by decide +kernel
theorem d3_14 : decode jdk_68_method_2_code 14 = .ok (.putfield 15, 3) := by decide +kernel
theorem d3_17 : decode jdk_68_method_2_code 17 = .ok (.aload_n 0, 1) := by decide +kernel
theorem d3_18 : decode jdk_68_method_2_code 18 = .ok (.iconst 0, 1) := by decide +kernel
theorem d3_19 : decode jdk_68_method_2_code 19 = .ok (.putfield 22, 3) := by decide +kernel
theorem d3_22 : decode jdk_68_method_2_code 22 = .ok (.goto 16, 3) := by decide +kernel
theorem d3_38 : decode jdk_68_method_2_code 38 = .ok (.return_, 1) := by decide +kernel
theorem pn1 : plainName "java/lang/AbstractStringBuilder" = true := by first | (simp [plainName, overriddenIn]; done) | decide +kernel
theorem ef2 (m : MethodId) (x0 : Addr) (x1 : Int32) : entryFrame m #[(.ref x0), (.int x1)] 2 = mkF m 0 #[.val (.ref x0), .val (.int x1)] [] := by first | (simp [entryFrame, mkF, argsToLocals, Value.category]; done) | rfl
def Q2 (Z : State) (w1 : Addr) (w2 : Addr) (kw1 : ClassId) (kw2 : ClassId) (gi1 : Int32) (o1 : Addr) (h0 : Heap) (n0 : Nat) (v : Option Value) (h : Heap) (L : List Loc) : Prop :=
  (∃ b3 : Addr, ∃ k3 : ClassId, v = none ∧ Fr n0 L ∧ Keep h0 h [o1] ∧ h0.size ≤ b3 ∧ (Exa Z h o1 "java/lang/StringBuilder") ∧ (Fld Z h o1 "java/lang/AbstractStringBuilder" "coder" "B" (.int 0)) ∧ (Fld Z h o1 "java/lang/AbstractStringBuilder" "value" "[B" (.ref b3)) ∧ (Arv Z h b3 k3 .byte (16 : Int32) [(.int 0), (.int 0), (.int 0), (.int 0), (.int 0), (.int 0), (.int 0), (.int 0), (.int 0), (.int 0), (.int 0), (.int 0), (.int 0), (.int 0), (.int 0), (.int 0)] (.int 0)) ∧ (Exa Z h b3 "[B"))
set_option maxRecDepth 65536 in
set_option maxHeartbeats 40000000 in
theorem rm2 (l : Launch) (Z : State) (a0 : Array Value) (hw : ∀ d ∈ tables_1, d.before a0 Z = true) (w1 : Addr) (w2 : Addr) (kw1 : ClassId) (kw2 : ClassId) (gi1 : Int32) (G : GW Z w1 w2 kw1 kw2 gi1) (ws : List Jvm.Cond) (o1 : Addr) (h0 : Heap) (n0 : Nat) (O0 : Old Z n0 h0) (g_o1 : n0 ≤ o1) (P0 : Exa Z h0 o1 "java/lang/StringBuilder") (P1 : Fld Z h0 o1 "java/lang/AbstractStringBuilder" "coder" "B" (.int 0)) (P2 : Fld Z h0 o1 "java/lang/AbstractStringBuilder" "value" "[B" .null) :
    MetFree l yn1 (head1 (Jvm.Cond.code yn1 jdk_68_method_2_code 2 none :: ws) ({ frames := 1, cells := 1, slots := 16, locals := 12 } : Room)) (fun a U => a = #[(.ref o1), (.int 16)] ∧ Z.Warmed39 U.vm ∧ U.heap = h0) (fun _ _ _ _ _ => True) (fun _ U o U' => ∃ v L, o = .returned v ∧ Q2 Z w1 w2 kw1 kw2 gi1 o1 h0 n0 v U'.heap L ∧ FrameEnd U o U' L ({ frames := 1, cells := 1, slots := 16, locals := 12 } : Room).cells ({ frames := 1, cells := 1, slots := 16, locals := 12 } : Room).slots) := by
  obtain ⟨S_w1, E_w1, S_w2, E_w2, S_gi1, NZ_gi1, A_w1, A_w2⟩ := id G
  refine MetFree.of_bodySF (plainFor_of_name pn1) hisR ?_
  intro p e s m args below meth c s₁ Bd hml0 hP hK
  obtain ⟨rfl, hZ, hh⟩ := hP
  have hx := Bd.exec
  have hby := Bd.bytes
  have hml : c.maxLocals = 2 := hml0
  have hown : s.vm.findClass "java/lang/AbstractStringBuilder" = some m.cls := findClass_of_methodNamed Bd.named
  have hnm := (name_of_methodNamed Bd.named Bd.method).1
  have hret := Bd.returns
  have hlk : meth.locks = false := BodyLoose.notSynchronized Bd
  have X0 : Stand p l e ({ frames := 1, cells := 1, slots := 16, locals := 12 } : Room) s m #[(.ref o1), (.int 16)] below meth c s₁ [] 0 0 := Stand.of_body Bd
  have e0 : s₁.heap = h0 := by rw [← hh, Bd.state]; rfl
  have N0 := Fr.nil n0
  have pre0 : ∀ t, Steps p.tables e below (s₁.setTop (mkF m 0 #[.val (.ref o1), .val (.int 16)] [])) t → Steps p.tables e below (s₁.setTop (entryFrame m #[(.ref o1), (.int 16)] 2)) t := fun t k => castTop (ef2 m o1 (16 : Int32)) k
  obtain ⟨T1, X1, e1, st1⟩ := initO X0 hx hZ hown (own_w hw 36 rfl) (own_w hw 7 rfl) (own_w hw 8 rfl) e0 (g := (mkF m 1 #[.val (.ref o1), .val (.int 16)] [(.ref o1)])) rfl (by rw [hml]; rfl) rfl (hb hby d3_1) (by decide) (W := 0) (by show 2 * 0 + _ ≤ _; exact Nat.le_of_eq rfl) (by decide)
  obtain ⟨T2, X2, e2, st2⟩ := getS2 X1 hx hZ hown (host := "") (Or.inl (own_w hw 37 rfl)) Via.refl e1 (S_gi1.ext O0.2) (g := (mkF m 4 #[.val (.ref o1), .val (.int 16)] [])) rfl (hb hby d3_4)
  obtain ⟨T3, h3, k3, X3, e3, E3, A3, EX3, st3⟩ := newPE X2 hx hZ (own_w hw 39 rfl) e2 (g := (mkF m 12 #[.val (.ref o1), .val (.int 16)] [(.int 16), (.ref o1)])) rfl (hb hby d3_12) rfl (by decide) (cap := 16) (by decide) (by decide) (by decide) (by decide) (ad := "[B") (by decide)
  obtain ⟨b3, g3⟩ : ∃ z, z = h0.size := ⟨_, rfl⟩
  rw [← g3] at A3 EX3 st3
  have M3 : h0.size ≤ h3.size := Nat.le_trans (Nat.le_refl _) E3.1
  have O3 := Old.ext O0 E3
  have sz_b3 : h0.size ≤ b3 := Nat.le_of_eq g3.symm
  have g_b3 : n0 ≤ b3 := Nat.le_trans (own_oz O0) (Nat.le_trans (Nat.le_refl _) sz_b3)
  have V3_0 := Arv.new A3 (by decide)
  have V3 : Arv Z h3 b3 k3 .byte (16 : Int32) [(.int 0), (.int 0), (.int 0), (.int 0), (.int 0), (.int 0), (.int 0), (.int 0), (.int 0), (.int 0), (.int 0), (.int 0), (.int 0), (.int 0), (.int 0), (.int 0)] (.int 0) := V3_0.pad (pad_rep [] (.int 0) 16)
  have f4 := (P2.ext E3)
  have f5 := (P0.ext E3)
  obtain ⟨T6, h6, X6, e6, W6, st6⟩ := putF X3 hx hZ hown (host := "") (Or.inl (own_w hw 40 rfl)) Via.refl e3 f4 f5 (Or.inl (own_w hw 41 rfl)) (own_w hw 25 rfl) (ty := (.array .byte)) (by decide) rfl rfl (g := (mkF m 14 #[.val (.ref o1), .val (.int 16)] [(.ref b3), (.ref o1)])) rfl rfl (hb hby d3_14)
  have N6 := Fr.snoc X6 N0 g_o1
  have Fw6 := f4.same W6
  have M6 : h0.size ≤ h6.size := Nat.le_trans M3 (Nat.le_of_eq W6.size.symm)
  have O6 := Old.wr O3 W6 g_o1
  have f7 := ((P1.ext E3).other W6 (Or.inr (slot_ne (Or.inl (own_w hw 43 rfl)) (Or.inl (own_w hw 41 rfl)) (by decide) (t := .byte) (t' := (.array .byte)) (by decide) (by decide))))
  have f8 := (f5.wr W6)
  obtain ⟨T9, h9, X9, e9, W9, st9⟩ := putFN X6 hx hZ hown (own_w hw 42 rfl) Via.refl e6 f7 f8 (Or.inl (own_w hw 43 rfl)) (own_w hw 25 rfl) (ty := .byte) (v' := (.int 0)) (by decide) rfl (by decide) (g := (mkF m 19 #[.val (.ref o1), .val (.int 16)] [(.int 0), (.ref o1)])) rfl rfl (hb hby d3_19)
  have N9 := Fr.snoc X9 N6 g_o1
  have Fw9 := f7.same W9
  have M9 : h0.size ≤ h9.size := Nat.le_trans M6 (Nat.le_of_eq W9.size.symm)
  have O9 := Old.wr O6 W9 g_o1
  obtain ⟨fs, hr, hrun, hended, hW, hsame⟩ := X9.leave (v := none) (fun _ => rfl)
  have KL : Keep h0 h9 [o1] := ((((Keep.refl h0 [o1]).ext E3).wr W6 (Or.inl (List.mem_of_getElem? (i := 0) rfl))).wr W9 (Or.inl (List.mem_of_getElem? (i := 0) rfl)))
  have f10 := (f8.wr W9)
  have f11 := (Fw6.other W9 (Or.inr (slot_ne (Or.inl (own_w hw 41 rfl)) (Or.inl (own_w hw 43 rfl)) (by decide) (t := (.array .byte)) (t' := .byte) (by decide) (by decide))))
  have lt12 : o1 < h0.size := P0.lt
  have ne13 : o1 ≠ b3 := Nat.ne_of_lt (Nat.lt_of_lt_of_le lt12 sz_b3)
  have f14 := ((V3.other W6 (Ne.symm ne13)).other W9 (Ne.symm ne13))
  have f15 := ((EX3.wr W6).wr W9)
  refine ⟨_, _, pre0 _ ?_, hrun, hended, _, _, rfl, ?_, ⟨_, rfl⟩, hW, hsame.mono (by decide) (by decide)⟩
  ·
    show Steps p.tables e below (s₁.setTop (mkF m 0 #[.val (.ref o1), .val (.int 16)] [])) _
    refine XS.aloadN X0.here hx rfl (hb hby d3_0) rfl rfl ?_
    refine st1 _ ?_
    refine st2 _ ?_
    refine XS.ifNo X2.here hx rfl (hb hby d3_7) rfl ((if0 _ _).trans (feq NZ_gi1).1) ?_
    refine XS.aloadN X2.here hx rfl (hb hby d3_10) rfl rfl ?_
    refine XS.iloadN X2.here hx rfl (hb hby d3_11) rfl ?_
    refine st3 _ ?_
    refine st6 _ ?_
    refine XS.aloadN X6.here hx rfl (hb hby d3_17) rfl rfl ?_
    refine XS.iconst X6.here hx rfl (hb hby d3_18) ?_
    refine st9 _ ?_
    refine XS.goto X9.here hx rfl (pc0 := 22) (pc' := 38) rfl (hb hby d3_22) (by decide) (by decide) ?_
    show Steps p.tables e below (T9.setTop (mkF m 38 #[.val (.ref o1), .val (.int 16)] [])) _
    exact X9.returnOut hx hret (hb hby d3_38) hr
  ·
    show Q2 Z w1 w2 kw1 kw2 gi1 o1 h0 n0 _ T9.heap _
    rw [e9]
    exact ⟨b3, k3, rfl, N9, KL, (Nat.le_trans (Nat.le_refl _) sz_b3), f10, Fw9, f11, f14, f15⟩
theorem pd1 : parseMethodDescriptor "(I)V" = some ⟨[.int], none⟩ := by decide +kernel
theorem d2_6 : decode jdk_67_method_1_code 6 = .ok (.return_, 1) := by decide +kernel
theorem pn2 : plainName "java/lang/StringBuilder" = true := by first | (simp [plainName, overriddenIn]; done) | decide +kernel
theorem ef3 (m : MethodId) (x0 : Addr) : entryFrame m #[(.ref x0)] 1 = mkF m 0 #[.val (.ref x0)] [] := by first | (simp [entryFrame, mkF, argsToLocals, Value.category]; done) | rfl
def Q3 (Z : State) (w1 : Addr) (w2 : Addr) (kw1 : ClassId) (kw2 : ClassId) (gi1 : Int32) (o1 : Addr) (h0 : Heap) (n0 : Nat) (v : Option Value) (h : Heap) (L : List Loc) : Prop :=
  (∃ b2 : Addr, ∃ k3 : ClassId, v = none ∧ Fr n0 L ∧ Keep h0 h [o1] ∧ h0.size ≤ b2 ∧ (Exa Z h o1 "java/lang/StringBuilder") ∧ (Fld Z h o1 "java/lang/AbstractStringBuilder" "coder" "B" (.int 0)) ∧ (Fld Z h o1 "java/lang/AbstractStringBuilder" "value" "[B" (.ref b2)) ∧ (Arv Z h b2 k3 .byte (16 : Int32) [(.int 0), (.int 0), (.int 0), (.int 0), (.int 0), (.int 0), (.int 0), (.int 0), (.int 0), (.int 0), (.int 0), (.int 0), (.int 0), (.int 0), (.int 0), (.int 0)] (.int 0)) ∧ (Exa Z h b2 "[B"))
set_option maxRecDepth 65536 in
set_option maxHeartbeats 40000000 in
theorem rm3 (l : Launch) (Z : State) (a0 : Array Value) (hw : ∀ d ∈ tables_1, d.before a0 Z = true) (w1 : Addr) (w2 : Addr) (kw1 : ClassId) (kw2 : ClassId) (gi1 : Int32) (G : GW Z w1 w2 kw1 kw2 gi1) (ws : List Jvm.Cond) (o1 : Addr) (h0 : Heap) (n0 : Nat) (O0 : Old Z n0 h0) (g_o1 : n0 ≤ o1) (P0 : Exa Z h0 o1 "java/lang/StringBuilder") (P1 : Fld Z h0 o1 "java/lang/AbstractStringBuilder" "coder" "B" (.int 0)) (P2 : Fld Z h0 o1 "java/lang/AbstractStringBuilder" "value" "[B" .null) :
    MetFree l yn2 (head1 (Jvm.Cond.code yn2 jdk_67_method_1_code 1 none :: ws) ({ frames := 2, cells := 1, slots := 16, locals := 25 } : Room)) (fun a U => a = #[(.ref o1)] ∧ Z.Warmed39 U.vm ∧ U.heap = h0) (fun _ _ _ _ _ => True) (fun _ U o U' => ∃ v L, o = .returned v ∧ Q3 Z w1 w2 kw1 kw2 gi1 o1 h0 n0 v U'.heap L ∧ FrameEnd U o U' L ({ frames := 2, cells := 1, slots := 16, locals := 25 } : Room).cells ({ frames := 2, cells := 1, slots := 16, locals := 25 } : Room).slots) := by
  obtain ⟨S_w1, E_w1, S_w2, E_w2, S_gi1, NZ_gi1, A_w1, A_w2⟩ := id G
  refine MetFree.of_bodySF (plainFor_of_name pn2) hisR ?_
  intro p e s m args below meth c s₁ Bd hml0 hP hK
  obtain ⟨rfl, hZ, hh⟩ := hP
  have hx := Bd.exec
  have hby := Bd.bytes
  have hml : c.maxLocals = 1 := hml0
  have hown : s.vm.findClass "java/lang/StringBuilder" = some m.cls := findClass_of_methodNamed Bd.named
  have hnm := (name_of_methodNamed Bd.named Bd.method).1
  have hret := Bd.returns
  have hlk : meth.locks = false := BodyLoose.notSynchronized Bd
  have X0 : Stand p l e ({ frames := 2, cells := 1, slots := 16, locals := 25 } : Room) s m #[(.ref o1)] below meth c s₁ [] 0 0 := Stand.of_body Bd
  have e0 : s₁.heap = h0 := by rw [← hh, Bd.state]; rfl
  have N0 := Fr.nil n0
  have pre0 : ∀ t, Steps p.tables e below (s₁.setTop (mkF m 0 #[.val (.ref o1)] [])) t → Steps p.tables e below (s₁.setTop (entryFrame m #[(.ref o1)] 1)) t := fun t k => castTop (ef3 m o1) k
  obtain ⟨_, T1, L1, X1, hQ1, st1⟩ := own_sb X0 hx hZ hown (y := yn1) (own_w hw 30 rfl) (own_w hw 31 rfl) (own_w hw 35 rfl) (own_w hw 34 rfl) e0 (a := o1) (argsL := [(.int 16)]) (rest := []) (rm2 l Z a0 hw w1 w2 kw1 kw2 gi1 G [] o1 h0 n0 O0 g_o1 P0 P1 P2) (g := (mkF m 3 #[.val (.ref o1)] [(.int 16), (.ref o1)])) rfl (by rw [hml]; rfl) rfl (hb hby d2_3) (lenOf pd1 rfl) (W := 0) (c1 := 1) (s1 := 16)
  obtain ⟨b2, k3, rfl, Nq4, K5, sz_b2, f6, f7, f8, f9, f10⟩ := hQ1
  have N1 := Fr.app N0 Nq4
  have g_b2 : n0 ≤ b2 := Nat.le_trans (own_oz O0) sz_b2
  have M1 : h0.size ≤ T1.heap.size := Nat.le_trans (Nat.le_refl _) K5.1
  have O1 := Old.keep O0 K5 (allS g_o1 all0)
  obtain ⟨fs, hr, hrun, hended, hW, hsame⟩ := X1.leave (v := none) (fun _ => rfl)
  have KL : Keep h0 T1.heap [o1] := ((Keep.refl h0 [o1]).trans K5 (allS (Or.inl (List.mem_of_getElem? (i := 0) rfl)) all0))
  refine ⟨_, _, pre0 _ ?_, hrun, hended, _, _, rfl, ?_, ⟨_, rfl⟩, hW, hsame.mono (by decide) (by decide)⟩
  ·
    show Steps p.tables e below (s₁.setTop (mkF m 0 #[.val (.ref o1)] [])) _
    refine XS.aloadN X0.here hx rfl (hb hby d2_0) rfl rfl ?_
    refine XS.bipush X0.here hx rfl (hb hby d2_1) ?_
    refine st1 _ ?_
    show Steps p.tables e below (T1.setTop (mkF m 6 #[.val (.ref o1)] [])) _
    exact X1.returnOut hx hret (hb hby d2_6) hr
  ·
    show Q3 Z w1 w2 kw1 kw2 gi1 o1 h0 n0 _ T1.heap _
    exact ⟨b2, k3, rfl, N1, KL, (Nat.le_trans (Nat.le_refl _) sz_b2), f6, f7, f8, f9, f10⟩
theorem d0_34 : decode prog_21_method_1_code 34 = .ok (.putfield 22, 3) := by decide +kernel
theorem d0_37 : decode prog_21_method_1_code 37 = .ok (.aload_n 0, 1) := by decide +kernel
theorem d0_38 : decode prog_21_method_1_code 38 = .ok (.new 19, 3) := by decide +kernel
theorem d0_41 : decode prog_21_method_1_code 41 = .ok (.dup, 1) := by decide +kernel
theorem d0_42 : decode prog_21_method_1_code 42 = .ok (.invokespecial 21, 3) := by decide +kernel
theorem d0_45 : decode prog_21_method_1_code 45 = .ok (.putfield 26, 3) := by decide +kernel
theorem d0_48 : decode prog_21_method_1_code 48 = .ok (.aload_n 0, 1) := by decide +kernel
theorem d0_49 : decode prog_21_method_1_code 49 = .ok (.new 29, 3) := by decide +kernel
theorem d0_52 : decode prog_21_method_1_code 52 = .ok (.dup, 1) := by decide +kernel
theorem d0_53 : decode prog_21_method_1_code 53 = .ok (.invokespecial 31, 3) := by decide +kernel
theorem d4_0 : decode jdk_38_method_2_code 0 = .ok (.aload_n 0, 1) := by decide +kernel
theorem d4_1 : decode jdk_38_method_2_code 1 = .ok (.invokespecial 1, 3) := by decide +kernel
theorem d5_0 : decode jdk_39_method_1_code 0 = .ok (.aload_n 0, 1) := by decide +kernel
theorem d5_1 : decode jdk_39_method_1_code 1 = .ok (.invokespecial 1, 3) := by decide +kernel
theorem d6_0 : decode jdk_22_method_1_code 0 = .ok (.aload_n 0, 1) := by decide +kernel
theorem d6_1 : decode jdk_22_method_1_code 1 = .ok (.invokespecial 1, 3) := by decide +kernel
theorem d6_4 : decode jdk_22_method_1_code 4 = .ok (.return_, 1) := by decide +kernel
theorem pn3 : plainName "java/util/AbstractCollection" = true := by first | (simp [plainName, overriddenIn]; done) | decide +kernel
theorem ef4 (m : MethodId) (x0 : Addr) : entryFrame m #[(.ref x0)] 1 = mkF m 0 #[.val (.ref x0)] [] := by first | (simp [entryFrame, mkF, argsToLocals, Value.category]; done) | rfl
def Q4 (Z : State) (o1 : Addr) (h0 : Heap) (n0 : Nat) (v : Option Value) (h : Heap) (L : List Loc) : Prop :=
  (v = none ∧ Fr n0 L ∧ h = h0)
set_option maxRecDepth 65536 in
set_option maxHeartbeats 40000000 in
theorem rm4 (l : Launch) (Z : State) (a0 : Array Value) (hw : ∀ d ∈ tables_1, d.before a0 Z = true) (ws : List Jvm.Cond) (o1 : Addr) (h0 : Heap) (n0 : Nat) (O0 : Old Z n0 h0) (g_o1 : n0 ≤ o1) :
    MetFree l yn3 (head1 (Jvm.Cond.code yn3 jdk_22_method_1_code 1 none :: ws) ({ frames := 1, cells := 0, slots := 0, locals := 12 } : Room)) (fun a U => a = #[(.ref o1)] ∧ Z.Warmed39 U.vm ∧ U.heap = h0) (fun _ _ _ _ _ => True) (fun _ U o U' => ∃ v L, o = .returned v ∧ Q4 Z o1 h0 n0 v U'.heap L ∧ FrameEnd U o U' L ({ frames := 1, cells := 0, slots := 0, locals := 12 } : Room).cells ({ frames := 1, cells := 0, slots := 0, locals := 12 } : Room).slots) := by
  refine MetFree.of_bodySF (plainFor_of_name pn3) hisR ?_
  intro p e s m args below meth c s₁ Bd hml0 hP hK
  obtain ⟨rfl, hZ, hh⟩ := hP
  have hx := Bd.exec
  have hby := Bd.bytes
  have hml : c.maxLocals = 1 := hml0
  have hown : s.vm.findClass "java/util/AbstractCollection" = some m.cls := findClass_of_methodNamed Bd.named
  have hnm := (name_of_methodNamed Bd.named Bd.method).1
  have hret := Bd.returns
  have hlk : meth.locks = false := BodyLoose.notSynchronized Bd
  have X0 : Stand p l e ({ frames := 1, cells := 0, slots := 0, locals := 12 } : Room) s m #[(.ref o1)] below meth c s₁ [] 0 0 := Stand.of_body Bd
  have e0 : s₁.heap = h0 := by rw [← hh, Bd.state]; rfl
  have N0 := Fr.nil n0
  have pre0 : ∀ t, Steps p.tables e below (s₁.setTop (mkF m 0 #[.val (.ref o1)] [])) t → Steps p.tables e below (s₁.setTop (entryFrame m #[(.ref o1)] 1)) t := fun t k => castTop (ef4 m o1) k
  obtain ⟨T1, X1, e1, st1⟩ := initO X0 hx hZ hown (own_w hw 66 rfl) (own_w hw 7 rfl) (own_w hw 8 rfl) e0 (g := (mkF m 1 #[.val (.ref o1)] [(.ref o1)])) rfl (by rw [hml]; rfl) rfl (hb hby d6_1) (by decide) (W := 0) (by show 2 * 0 + _ ≤ _; exact Nat.le_of_eq rfl) (by decide)
  obtain ⟨fs, hr, hrun, hended, hW, hsame⟩ := X1.leave (v := none) (fun _ => rfl)
  refine ⟨_, _, pre0 _ ?_, hrun, hended, _, _, rfl, ?_, ⟨_, rfl⟩, hW, hsame.mono (by decide) (by decide)⟩
  ·
    show Steps p.tables e below (s₁.setTop (mkF m 0 #[.val (.ref o1)] [])) _
    refine XS.aloadN X0.here hx rfl (hb hby d6_0) rfl rfl ?_
    refine st1 _ ?_
    show Steps p.tables e below (T1.setTop (mkF m 4 #[.val (.ref o1)] [])) _
    exact X1.returnOut hx hret (hb hby d6_4) hr
  ·
    show Q4 Z o1 h0 n0 _ T1.heap _
    rw [e1]
    exact ⟨rfl, N0, rfl⟩
theorem d5_4 : decode jdk_39_method_1_code 4 = .ok (.aload_n 0, 1) := by decide +kernel
theorem d5_5 : decode jdk_39_method_1_code 5 = .ok (.iconst 0, 1) := by decide +kernel
theorem d5_6 : decode jdk_39_method_1_code 6 = .ok (.putfield 7, 3) := by decide +kernel
theorem d5_9 : decode jdk_39_method_1_code 9 = .ok (.return_, 1) := by decide +kernel
theorem pn4 : plainName "java/util/AbstractList" = true := by first | (simp [plainName, overriddenIn]; done) | decide +kernel
theorem ef5 (m : MethodId) (x0 : Addr) : entryFrame m #[(.ref x0)] 1 = mkF m 0 #[.val (.ref x0)] [] := by first | (simp [entryFrame, mkF, argsToLocals, Value.category]; done) | rfl
def Q5 (Z : State) (o1 : Addr) (h0 : Heap) (n0 : Nat) (v : Option Value) (h : Heap) (L : List Loc) : Prop :=
  (v = none ∧ Fr n0 L ∧ Keep h0 h [o1] ∧ (Exa Z h o1 "java/util/ArrayList") ∧ (Fld Z h o1 "java/util/AbstractList" "modCount" "I" (.int 0)) ∧ (Fld Z h o1 "java/util/ArrayList" "elementData" "[Ljava/lang/Object;" .null) ∧ (Fld Z h o1 "java/util/ArrayList" "size" "I" (.int 0)))
set_option maxRecDepth 65536 in
set_option maxHeartbeats 40000000 in
theorem rm5 (l : Launch) (Z : State) (a0 : Array Value) (hw : ∀ d ∈ tables_1, d.before a0 Z = true) (ws : List Jvm.Cond) (o1 : Addr) (h0 : Heap) (n0 : Nat) (O0 : Old Z n0 h0) (g_o1 : n0 ≤ o1) (P0 : Exa Z h0 o1 "java/util/ArrayList") (P1 : Fld Z h0 o1 "java/util/AbstractList" "modCount" "I" (.int 0)) (P2 : Fld Z h0 o1 "java/util/ArrayList" "elementData" "[Ljava/lang/Object;" .null) (P3 : Fld Z h0 o1 "java/util/ArrayList" "size" "I" (.int 0)) :
    MetFree l yn4 (head1 (Jvm.Cond.code yn4 jdk_39_method_1_code 1 none :: ws) ({ frames := 2, cells := 0, slots := 0, locals := 24 } : Room)) (fun a U => a = #[(.ref o1)] ∧ Z.Warmed39 U.vm ∧ U.heap = h0) (fun _ _ _ _ _ => True) (fun _ U o U' => ∃ v L, o = .returned v ∧ Q5 Z o1 h0 n0 v U'.heap L ∧ FrameEnd U o U' L ({ frames := 2, cells := 0, slots := 0, locals := 24 } : Room).cells ({ frames := 2, cells := 0, slots := 0, locals := 24 } : Room).slots) := by
  refine MetFree.of_bodySF (plainFor_of_name pn4) hisR ?_
  intro p e s m args below meth c s₁ Bd hml0 hP hK
  obtain ⟨rfl, hZ, hh⟩ := hP
  have hx := Bd.exec
  have hby := Bd.bytes
  have hml : c.maxLocals = 1 := hml0
  have hown : s.vm.findClass "java/util/AbstractList" = some m.cls := findClass_of_methodNamed Bd.named
  have hnm := (name_of_methodNamed Bd.named Bd.method).1
  have hret := Bd.returns
  have hlk : meth.locks = false := BodyLoose.notSynchronized Bd
  have X0 : Stand p l e ({ frames := 2, cells := 0, slots := 0, locals := 24 } : Room) s m #[(.ref o1)] below meth c s₁ [] 0 0 := Stand.of_body Bd
  have e0 : s₁.heap = h0 := by rw [← hh, Bd.state]; rfl
  have N0 := Fr.nil n0
  have pre0 : ∀ t, Steps p.tables e below (s₁.setTop (mkF m 0 #[.val (.ref o1)] [])) t → Steps p.tables e below (s₁.setTop (entryFrame m #[(.ref o1)] 1)) t := fun t k => castTop (ef5 m o1) k
  obtain ⟨_, T1, L1, X1, hQ1, st1⟩ := own_sb X0 hx hZ hown (y := yn3) (own_w hw 60 rfl) (own_w hw 61 rfl) (own_w hw 65 rfl) (own_w hw 64 rfl) e0 (a := o1) (argsL := []) (rest := []) (rm4 l Z a0 hw [] o1 h0 n0 O0 g_o1) (g := (mkF m 1 #[.val (.ref o1)] [(.ref o1)])) rfl (by rw [hml]; rfl) rfl (hb hby d5_1) (lenOf pd0 rfl) (W := 0) (c1 := 0) (s1 := 0)
  obtain ⟨rfl, Nq2, e3⟩ := hQ1
  have N1 := Fr.app N0 Nq2
  obtain ⟨T4, h4, X4, e4, W4, st4⟩ := putF X1 hx hZ hown (host := "") (Or.inl (own_w hw 67 rfl)) Via.refl e3 P1 P0 (Or.inl (own_w hw 68 rfl)) (own_w hw 49 rfl) (ty := .int) (by decide) rfl rfl (g := (mkF m 6 #[.val (.ref o1)] [(.int 0), (.ref o1)])) rfl rfl (hb hby d5_6)
  have N4 := Fr.snoc X4 N1 g_o1
  have Fw4 := P1.same W4
  have M4 : h0.size ≤ h4.size := Nat.le_trans (Nat.le_refl _) (Nat.le_of_eq W4.size.symm)
  have O4 := Old.wr O0 W4 g_o1
  obtain ⟨fs, hr, hrun, hended, hW, hsame⟩ := X4.leave (v := none) (fun _ => rfl)
  have KL : Keep h0 h4 [o1] := ((Keep.refl h0 [o1]).wr W4 (Or.inl (List.mem_of_getElem? (i := 0) rfl)))
  have f5 := (P0.wr W4)
  have f6 := (P2.other W4 (Or.inr (slot_ne (Or.inl (own_w hw 71 rfl)) (Or.inl (own_w hw 68 rfl)) (by decide) (t := (.array (.object "java/lang/Object"))) (t' := .int) (by decide) (by decide))))
  have f7 := (P3.other W4 (Or.inr (slot_ne (Or.inl (own_w hw 145 rfl)) (Or.inl (own_w hw 68 rfl)) (by decide) (t := .int) (t' := .int) (by decide) (by decide))))
  refine ⟨_, _, pre0 _ ?_, hrun, hended, _, _, rfl, ?_, ⟨_, rfl⟩, hW, hsame.mono (by decide) (by decide)⟩
  ·
    show Steps p.tables e below (s₁.setTop (mkF m 0 #[.val (.ref o1)] [])) _
    refine XS.aloadN X0.here hx rfl (hb hby d5_0) rfl rfl ?_
    refine st1 _ ?_
    refine XS.aloadN X1.here hx rfl (hb hby d5_4) rfl rfl ?_
    refine XS.iconst X1.here hx rfl (hb hby d5_5) ?_
    refine st4 _ ?_
    show Steps p.tables e below (T4.setTop (mkF m 9 #[.val (.ref o1)] [])) _
    exact X4.returnOut hx hret (hb hby d5_9) hr
  ·
    show Q5 Z o1 h0 n0 _ T4.heap _
    rw [e4]
    exact ⟨rfl, N4, KL, f5, Fw4, f6, f7⟩
theorem d4_4 : decode jdk_38_method_2_code 4 = .ok (.aload_n 0, 1) := by decide +kernel
theorem d4_5 : decode jdk_38_method_2_code 5 = .ok (.getstatic 39, 3) := by decide +kernel
theorem d4_8 : decode jdk_38_method_2_code 8 = .ok (.putfield 9, 3) := by decide +kernel
theorem d4_11 : decode jdk_38_method_2_code 11 = .ok (.return_, 1) := by decide +kernel
theorem pn5 : plainName "java/util/ArrayList" = true := by first | (simp [plainName, overriddenIn]; done) | decide +kernel
theorem ef6 (m : MethodId) (x0 : Addr) : entryFrame m #[(.ref x0)] 1 = mkF m 0 #[.val (.ref x0)] [] := by first | (simp [entryFrame, mkF, argsToLocals, Value.category]; done) | rfl
def Q6 (Z : State) (w1 : Addr) (w2 : Addr) (kw1 : ClassId) (kw2 : ClassId) (gi1 : Int32) (o1 : Addr) (h0 : Heap) (n0 : Nat) (v : Option Value) (h : Heap) (L : List Loc) : Prop :=
  (v = none ∧ Fr n0 L ∧ Keep h0 h [o1] ∧ (Exa Z h o1 "java/util/ArrayList") ∧ (Fld Z h o1 "java/util/AbstractList" "modCount" "I" (.int 0)) ∧ (Fld Z h o1 "java/util/ArrayList" "elementData" "[Ljava/lang/Object;" (.ref w2)) ∧ (Fld Z h o1 "java/util/ArrayList" "size" "I" (.int 0)))
set_option maxRecDepth 65536 in
set_option maxHeartbeats 40000000 in
theorem rm6 (l : Launch) (Z : State) (a0 : Array Value) (hw : ∀ d ∈ tables_1, d.before a0 Z = true) (w1 : Addr) (w2 : Addr) (kw1 : ClassId) (kw2 : ClassId) (gi1 : Int32) (G : GW Z w1 w2 kw1 kw2 gi1) (ws : List Jvm.Cond) (o1 : Addr) (h0 : Heap) (n0 : Nat) (O0 : Old Z n0 h0) (g_o1 : n0 ≤ o1) (P0 : Exa Z h0 o1 "java/util/ArrayList") (P1 : Fld Z h0 o1 "java/util/AbstractList" "modCount" "I" (.int 0)) (P2 : Fld Z h0 o1 "java/util/ArrayList" "elementData" "[Ljava/lang/Object;" .null) (P3 : Fld Z h0 o1 "java/util/ArrayList" "size" "I" (.int 0)) :
    MetFree l yn5 (head1 (Jvm.Cond.code yn5 jdk_38_method_2_code 1 none :: ws) ({ frames := 3, cells := 0, slots := 0, locals := 36 } : Room)) (fun a U => a = #[(.ref o1)] ∧ Z.Warmed39 U.vm ∧ U.heap = h0) (fun _ _ _ _ _ => True) (fun _ U o U' => ∃ v L, o = .returned v ∧ Q6 Z w1 w2 kw1 kw2 gi1 o1 h0 n0 v U'.heap L ∧ FrameEnd U o U' L ({ frames := 3, cells := 0, slots := 0, locals := 36 } : Room).cells ({ frames := 3, cells := 0, slots := 0, locals := 36 } : Room).slots) := by
  obtain ⟨S_w1, E_w1, S_w2, E_w2, S_gi1, NZ_gi1, A_w1, A_w2⟩ := id G
  refine MetFree.of_bodySF (plainFor_of_name pn5) hisR ?_
  intro p e s m args below meth c s₁ Bd hml0 hP hK
  obtain ⟨rfl, hZ, hh⟩ := hP
  have hx := Bd.exec
  have hby := Bd.bytes
  have hml : c.maxLocals = 1 := hml0
  have hown : s.vm.findClass "java/util/ArrayList" = some m.cls := findClass_of_methodNamed Bd.named
  have hnm := (name_of_methodNamed Bd.named Bd.method).1
  have hret := Bd.returns
  have hlk : meth.locks = false := BodyLoose.notSynchronized Bd
  have X0 : Stand p l e ({ frames := 3, cells := 0, slots := 0, locals := 36 } : Room) s m #[(.ref o1)] below meth c s₁ [] 0 0 := Stand.of_body Bd
  have e0 : s₁.heap = h0 := by rw [← hh, Bd.state]; rfl
  have N0 := Fr.nil n0
  have pre0 : ∀ t, Steps p.tables e below (s₁.setTop (mkF m 0 #[.val (.ref o1)] [])) t → Steps p.tables e below (s₁.setTop (entryFrame m #[(.ref o1)] 1)) t := fun t k => castTop (ef6 m o1) k
  obtain ⟨_, T1, L1, X1, hQ1, st1⟩ := own_sb X0 hx hZ hown (y := yn4) (own_w hw 54 rfl) (own_w hw 55 rfl) (own_w hw 59 rfl) (own_w hw 58 rfl) e0 (a := o1) (argsL := []) (rest := []) (rm5 l Z a0 hw [] o1 h0 n0 O0 g_o1 P0 P1 P2 P3) (g := (mkF m 1 #[.val (.ref o1)] [(.ref o1)])) rfl (by rw [hml]; rfl) rfl (hb hby d4_1) (lenOf pd0 rfl) (W := 0) (c1 := 0) (s1 := 0)
  obtain ⟨rfl, Nq2, K3, f4, f5, f6, f7⟩ := hQ1
  have N1 := Fr.app N0 Nq2
  have M1 : h0.size ≤ T1.heap.size := Nat.le_trans (Nat.le_refl _) K3.1
  have O1 := Old.keep O0 K3 (allS g_o1 all0)
  obtain ⟨T8, X8, e8, st8⟩ := getS2 X1 hx hZ hown (host := "") (Or.inl (own_w hw 69 rfl)) Via.refl rfl (S_w2.ext O1.2) (g := (mkF m 5 #[.val (.ref o1)] [(.ref o1)])) rfl (hb hby d4_5)
  obtain ⟨T9, h9, X9, e9, W9, st9⟩ := putF X8 hx hZ hown (host := "") (Or.inl (own_w hw 70 rfl)) Via.refl e8 f6 f4 (Or.inl (own_w hw 71 rfl)) (own_w hw 49 rfl) (ty := (.array (.object "java/lang/Object"))) (by decide) rfl rfl (g := (mkF m 8 #[.val (.ref o1)] [(.ref w2), (.ref o1)])) rfl rfl (hb hby d4_8)
  have N9 := Fr.snoc X9 N1 g_o1
  have Fw9 := f6.same W9
  have M9 : h0.size ≤ h9.size := Nat.le_trans M1 (Nat.le_of_eq W9.size.symm)
  have O9 := Old.wr O1 W9 g_o1
  obtain ⟨fs, hr, hrun, hended, hW, hsame⟩ := X9.leave (v := none) (fun _ => rfl)
  have KL : Keep h0 h9 [o1] := (((Keep.refl h0 [o1]).trans K3 (allS (Or.inl (List.mem_of_getElem? (i := 0) rfl)) all0)).wr W9 (Or.inl (List.mem_of_getElem? (i := 0) rfl)))
  have f10 := (f4.wr W9)
  have f11 := (f5.other W9 (Or.inr (slot_ne (Or.inl (own_w hw 68 rfl)) (Or.inl (own_w hw 71 rfl)) (by decide) (t := .int) (t' := (.array (.object "java/lang/Object"))) (by decide) (by decide))))
  have f12 := (f7.other W9 (Or.inr (slot_ne (Or.inl (own_w hw 145 rfl)) (Or.inl (own_w hw 71 rfl)) (by decide) (t := .int) (t' := (.array (.object "java/lang/Object"))) (by decide) (by decide))))
  refine ⟨_, _, pre0 _ ?_, hrun, hended, _, _, rfl, ?_, ⟨_, rfl⟩, hW, hsame.mono (by decide) (by decide)⟩
  ·
    show Steps p.tables e below (s₁.setTop (mkF m 0 #[.val (.ref o1)] [])) _
    refine XS.aloadN X0.here hx rfl (hb hby d4_0) rfl rfl ?_
    refine st1 _ ?_
    refine XS.aloadN X1.here hx rfl (hb hby d4_4) rfl rfl ?_
    refine st8 _ ?_
    refine st9 _ ?_
    show Steps p.tables e below (T9.setTop (mkF m 11 #[.val (.ref o1)] [])) _
    exact X9.returnOut hx hret (hb hby d4_11) hr
  ·
    show Q6 Z w1 w2 kw1 kw2 gi1 o1 h0 n0 _ T9.heap _
    rw [e9]
    exact ⟨rfl, N9, KL, f10, f11, Fw9, f12⟩
theorem d0_56 : decode prog_21_method_1_code 56 = .ok (.putfield 32, 3) := by decide +kernel
theorem d0_59 : decode prog_21_method_1_code 59 = .ok (.aload_n 0, 1) := by decide +kernel
theorem d0_60 : decode prog_21_method_1_code 60 = .ok (.new 36, 3) := by decide +kernel
theorem d0_63 : decode prog_21_method_1_code 63 = .ok (.dup, 1) := by decide +kernel
theorem d0_64 : decode prog_21_method_1_code 64 = .ok (.invokespecial 38, 3) := by decide +kernel
theorem d7_0 : decode jdk_69_method_7_code 0 = .ok (.aload_n 0, 1) := by decide +kernel
theorem d7_1 : decode jdk_69_method_7_code 1 = .ok (.invokespecial 43, 3) := by decide +kernel
theorem d8_0 : decode jdk_71_method_1_code 0 = .ok (.aload_n 0, 1) := by decide +kernel
theorem d8_1 : decode jdk_71_method_1_code 1 = .ok (.invokespecial 1, 3) := by decide +kernel
theorem d8_4 : decode jdk_71_method_1_code 4 = .ok (.return_, 1) := by decide +kernel
theorem pn6 : plainName "java/util/AbstractMap" = true := by first | (simp [plainName, overriddenIn]; done) | decide +kernel
theorem ef7 (m : MethodId) (x0 : Addr) : entryFrame m #[(.ref x0)] 1 = mkF m 0 #[.val (.ref x0)] [] := by first | (simp [entryFrame, mkF, argsToLocals, Value.category]; done) | rfl
def Q7 (Z : State) (o1 : Addr) (h0 : Heap) (n0 : Nat) (v : Option Value) (h : Heap) (L : List Loc) : Prop :=
  (v = none ∧ Fr n0 L ∧ h = h0)
set_option maxRecDepth 65536 in
set_option maxHeartbeats 40000000 in
theorem rm7 (l : Launch) (Z : State) (a0 : Array Value) (hw : ∀ d ∈ tables_1, d.before a0 Z = true) (ws : List Jvm.Cond) (o1 : Addr) (h0 : Heap) (n0 : Nat) (O0 : Old Z n0 h0) (g_o1 : n0 ≤ o1) :
    MetFree l yn6 (head1 (Jvm.Cond.code yn6 jdk_71_method_1_code 1 none :: ws) ({ frames := 1, cells := 0, slots := 0, locals := 12 } : Room)) (fun a U => a = #[(.ref o1)] ∧ Z.Warmed39 U.vm ∧ U.heap = h0) (fun _ _ _ _ _ => True) (fun _ U o U' => ∃ v L, o = .returned v ∧ Q7 Z o1 h0 n0 v U'.heap L ∧ FrameEnd U o U' L ({ frames := 1, cells := 0, slots := 0, locals := 12 } : Room).cells ({ frames := 1, cells := 0, slots := 0, locals := 12 } : Room).slots) := by
  refine MetFree.of_bodySF (plainFor_of_name pn6) hisR ?_
  intro p e s m args below meth c s₁ Bd hml0 hP hK
  obtain ⟨rfl, hZ, hh⟩ := hP
  have hx := Bd.exec
  have hby := Bd.bytes
  have hml : c.maxLocals = 1 := hml0
  have hown : s.vm.findClass "java/util/AbstractMap" = some m.cls := findClass_of_methodNamed Bd.named
  have hnm := (name_of_methodNamed Bd.named Bd.method).1
  have hret := Bd.returns
  have hlk : meth.locks = false := BodyLoose.notSynchronized Bd
  have X0 : Stand p l e ({ frames := 1, cells := 0, slots := 0, locals := 12 } : Room) s m #[(.ref o1)] below meth c s₁ [] 0 0 := Stand.of_body Bd
  have e0 : s₁.heap = h0 := by rw [← hh, Bd.state]; rfl
  have N0 := Fr.nil n0
  have pre0 : ∀ t, Steps p.tables e below (s₁.setTop (mkF m 0 #[.val (.ref o1)] [])) t → Steps p.tables e below (s₁.setTop (entryFrame m #[(.ref o1)] 1)) t := fun t k => castTop (ef7 m o1) k
  obtain ⟨T1, X1, e1, st1⟩ := initO X0 hx hZ hown (own_w hw 86 rfl) (own_w hw 7 rfl) (own_w hw 8 rfl) e0 (g := (mkF m 1 #[.val (.ref o1)] [(.ref o1)])) rfl (by rw [hml]; rfl) rfl (hb hby d8_1) (by decide) (W := 0) (by show 2 * 0 + _ ≤ _; exact Nat.le_of_eq rfl) (by decide)
  obtain ⟨fs, hr, hrun, hended, hW, hsame⟩ := X1.leave (v := none) (fun _ => rfl)
  refine ⟨_, _, pre0 _ ?_, hrun, hended, _, _, rfl, ?_, ⟨_, rfl⟩, hW, hsame.mono (by decide) (by decide)⟩
  ·
    show Steps p.tables e below (s₁.setTop (mkF m 0 #[.val (.ref o1)] [])) _
    refine XS.aloadN X0.here hx rfl (hb hby d8_0) rfl rfl ?_
    refine st1 _ ?_
    show Steps p.tables e below (T1.setTop (mkF m 4 #[.val (.ref o1)] [])) _
    exact X1.returnOut hx hret (hb hby d8_4) hr
  ·
    show Q7 Z o1 h0 n0 _ T1.heap _
    rw [e1]
    exact ⟨rfl, N0, rfl⟩
theorem d7_4 : decode jdk_69_method_7_code 4 = .ok (.aload_n 0, 1) := by decide +kernel
theorem d7_5 : decode jdk_69_method_7_code 5 = .ok (.ldc 92, 2) := by decide +kernel
theorem d7_7 : decode jdk_69_method_7_code 7 = .ok (.putfield 81, 3) := by decide +kernel
theorem d7_10 : decode jdk_69_method_7_code 10 = .ok (.return_, 1) := by decide +kernel
theorem pn7 : plainName "java/util/HashMap" = true := by first | (simp [plainName, overriddenIn]; done) | decide +kernel
theorem ef8 (m : MethodId) (x0 : Addr) : entryFrame m #[(.ref x0)] 1 = mkF m 0 #[.val (.ref x0)] [] := by first | (simp [entryFrame, mkF, argsToLocals, Value.category]; done) | rfl
def Q8 (Z : State) (o1 : Addr) (h0 : Heap) (n0 : Nat) (v : Option Value) (h : Heap) (L : List Loc) : Prop :=
  (v = none ∧ Fr n0 L ∧ Keep h0 h [o1] ∧ (Exa Z h o1 "java/util/HashMap") ∧ (Fld Z h o1 "java/util/HashMap" "loadFactor" "F" (.float (1061158912 : UInt32))))
set_option maxRecDepth 65536 in
set_option maxHeartbeats 40000000 in
theorem rm8 (l : Launch) (Z : State) (a0 : Array Value) (hw : ∀ d ∈ tables_1, d.before a0 Z = true) (ws : List Jvm.Cond) (o1 : Addr) (h0 : Heap) (n0 : Nat) (O0 : Old Z n0 h0) (g_o1 : n0 ≤ o1) (P0 : Exa Z h0 o1 "java/util/HashMap") (P1 : Fld Z h0 o1 "java/util/HashMap" "loadFactor" "F" (.float (0 : UInt32))) :
    MetFree l yn7 (head1 (Jvm.Cond.code yn7 jdk_69_method_7_code 1 none :: ws) ({ frames := 2, cells := 0, slots := 0, locals := 24 } : Room)) (fun a U => a = #[(.ref o1)] ∧ Z.Warmed39 U.vm ∧ U.heap = h0) (fun _ _ _ _ _ => True) (fun _ U o U' => ∃ v L, o = .returned v ∧ Q8 Z o1 h0 n0 v U'.heap L ∧ FrameEnd U o U' L ({ frames := 2, cells := 0, slots := 0, locals := 24 } : Room).cells ({ frames := 2, cells := 0, slots := 0, locals := 24 } : Room).slots) := by
  refine MetFree.of_bodySF (plainFor_of_name pn7) hisR ?_
  intro p e s m args below meth c s₁ Bd hml0 hP hK
  obtain ⟨rfl, hZ, hh⟩ := hP
  have hx := Bd.exec
  have hby := Bd.bytes
  have hml : c.maxLocals = 1 := hml0
  have hown : s.vm.findClass "java/util/HashMap" = some m.cls := findClass_of_methodNamed Bd.named
  have hnm := (name_of_methodNamed Bd.named Bd.method).1
  have hret := Bd.returns
  have hlk : meth.locks = false := BodyLoose.notSynchronized Bd
  have X0 : Stand p l e ({ frames := 2, cells := 0, slots := 0, locals := 24 } : Room) s m #[(.ref o1)] below meth c s₁ [] 0 0 := Stand.of_body Bd
  have e0 : s₁.heap = h0 := by rw [← hh, Bd.state]; rfl
  have N0 := Fr.nil n0
  have pre0 : ∀ t, Steps p.tables e below (s₁.setTop (mkF m 0 #[.val (.ref o1)] [])) t → Steps p.tables e below (s₁.setTop (entryFrame m #[(.ref o1)] 1)) t := fun t k => castTop (ef8 m o1) k
  obtain ⟨_, T1, L1, X1, hQ1, st1⟩ := own_sb X0 hx hZ hown (y := yn6) (own_w hw 80 rfl) (own_w hw 81 rfl) (own_w hw 85 rfl) (own_w hw 84 rfl) e0 (a := o1) (argsL := []) (rest := []) (rm7 l Z a0 hw [] o1 h0 n0 O0 g_o1) (g := (mkF m 1 #[.val (.ref o1)] [(.ref o1)])) rfl (by rw [hml]; rfl) rfl (hb hby d7_1) (lenOf pd0 rfl) (W := 0) (c1 := 0) (s1 := 0)
  obtain ⟨rfl, Nq2, e3⟩ := hQ1
  have N1 := Fr.app N0 Nq2
  obtain ⟨T4, h4, X4, e4, W4, st4⟩ := putF X1 hx hZ hown (host := "") (Or.inl (own_w hw 88 rfl)) Via.refl e3 P1 P0 (Or.inr ⟨(own_w hw 89 rfl), rfl, hnm⟩) (own_w hw 75 rfl) (ty := .float) (by decide) rfl rfl (g := (mkF m 7 #[.val (.ref o1)] [(.float (1061158912 : UInt32)), (.ref o1)])) rfl rfl (hb hby d7_7)
  have N4 := Fr.snoc X4 N1 g_o1
  have Fw4 := P1.same W4
  have M4 : h0.size ≤ h4.size := Nat.le_trans (Nat.le_refl _) (Nat.le_of_eq W4.size.symm)
  have O4 := Old.wr O0 W4 g_o1
  obtain ⟨fs, hr, hrun, hended, hW, hsame⟩ := X4.leave (v := none) (fun _ => rfl)
  have KL : Keep h0 h4 [o1] := ((Keep.refl h0 [o1]).wr W4 (Or.inl (List.mem_of_getElem? (i := 0) rfl)))
  have f5 := (P0.wr W4)
  refine ⟨_, _, pre0 _ ?_, hrun, hended, _, _, rfl, ?_, ⟨_, rfl⟩, hW, hsame.mono (by decide) (by decide)⟩
  ·
    show Steps p.tables e below (s₁.setTop (mkF m 0 #[.val (.ref o1)] [])) _
    refine XS.aloadN X0.here hx rfl (hb hby d7_0) rfl rfl ?_
    refine st1 _ ?_
    refine XS.aloadN X1.here hx rfl (hb hby d7_4) rfl rfl ?_
    refine own_ldcF X1 hx hZ hown (own_w hw 87 rfl) (g := (mkF m 5 #[.val (.ref o1)] [(.ref o1)])) rfl (hb hby d7_5) _ ?_
    refine st4 _ ?_
    show Steps p.tables e below (T4.setTop (mkF m 10 #[.val (.ref o1)] [])) _
    exact X4.returnOut hx hret (hb hby d7_10) hr
  ·
    show Q8 Z o1 h0 n0 _ T4.heap _
    rw [e4]
    exact ⟨rfl, N4, KL, f5, Fw4⟩
theorem d0_67 : decode prog_21_method_1_code 67 = .ok (.putfield 39, 3) := by decide +kernel
theorem d0_70 : decode prog_21_method_1_code 70 = .ok (.aload_n 0, 1) := by decide +kernel
theorem d0_71 : decode prog_21_method_1_code 71 = .ok (.aload_n 0, 1) := by decide +kernel
theorem d0_72 : decode prog_21_method_1_code 72 = .ok (.getfield 10, 3) := by decide +kernel
theorem d0_75 : decode prog_21_method_1_code 75 = .ok (.iconst (-1), 1) := by decide +kernel
theorem d0_76 : decode prog_21_method_1_code 76 = .ok (.iconst 0, 1) := by decide +kernel
theorem d0_77 : decode prog_21_method_1_code 77 = .ok (.iconst 0, 1) := by decide +kernel
theorem d0_78 : decode prog_21_method_1_code 78 = .ok (.iconst 0, 1) := by decide +kernel
theorem d0_79 : decode prog_21_method_1_code 79 = .ok (.invokevirtual 43, 3) := by decide +kernel
theorem d9_0 : decode prog_22_method_2_code 0 = .ok (.aload_n 0, 1) := by decide +kernel
theorem d9_1 : decode prog_22_method_2_code 1 = .ok (.getfield 15, 3) := by decide +kernel
theorem d9_4 : decode prog_22_method_2_code 4 = .ok (.istore 5, 2) := by decide +kernel
theorem d9_6 : decode prog_22_method_2_code 6 = .ok (.iload 5, 2) := by decide +kernel
theorem d9_8 : decode prog_22_method_2_code 8 = .ok (.bipush 10, 2) := by decide +kernel
theorem d9_10 : decode prog_22_method_2_code 10 = .ok (.iushr, 1) := by decide +kernel
theorem d9_11 : decode prog_22_method_2_code 11 = .ok (.istore 6, 2) := by decide +kernel
theorem d9_13 : decode prog_22_method_2_code 13 = .ok (.iload 5, 2) := by decide +kernel
theorem d9_15 : decode prog_22_method_2_code 15 = .ok (.sipush 1023, 3) := by decide +kernel
theorem d9_18 : decode prog_22_method_2_code 18 = .ok (.iand, 1) := by decide +kernel
theorem d9_19 : decode prog_22_method_2_code 19 = .ok (.iconst 2, 1) := by decide +kernel
theorem d9_20 : decode prog_22_method_2_code 20 = .ok (.ishl, 1) := by decide +kernel
theorem d9_21 : decode prog_22_method_2_code 21 = .ok (.istore 7, 2) := by decide +kernel
theorem d9_23 : decode prog_22_method_2_code 23 = .ok (.iload 6, 2) := by decide +kernel
theorem d9_25 : decode prog_22_method_2_code 25 = .ok (.aload_n 0, 1) := by decide +kernel
theorem d9_26 : decode prog_22_method_2_code 26 = .ok (.getfield 11, 3) := by decide +kernel
theorem d9_29 : decode prog_22_method_2_code 29 = .ok (.arraylength, 1) := by decide +kernel
theorem d9_30 : decode prog_22_method_2_code 30 = .ok (.if_icmp .ne 21, 3) := by decide +kernel
theorem d9_51 : decode prog_22_method_2_code 51 = .ok (.aload_n 0, 1) := by decide +kernel
theorem d9_52 : decode prog_22_method_2_code 52 = .ok (.getfield 11, 3) := by decide +kernel
theorem d9_55 : decode prog_22_method_2_code 55 = .ok (.iload 6, 2) := by decide +kernel
theorem d9_57 : decode prog_22_method_2_code 57 = .ok (.aaload, 1) := by decide +kernel
theorem d9_58 : decode prog_22_method_2_code 58 = .ok (.ifnonnull 52, 3) := by decide +kernel
theorem d9_61 : decode prog_22_method_2_code 61 = .ok (.aload_n 0, 1) := by decide +kernel
theorem d9_62 : decode prog_22_method_2_code 62 = .ok (.getfield 11, 3) := by decide +kernel
theorem d9_65 : decode prog_22_method_2_code 65 = .ok (.iload 6, 2) := by decide +kernel
theorem d9_67 : decode prog_22_method_2_code 67 = .ok (.iload 6, 2) := by decide +kernel
theorem d9_69 : decode prog_22_method_2_code 69 = .ok (.ifCond .ne 8, 3) := by decide +kernel
theorem d9_72 : decode prog_22_method_2_code 72 = .ok (.bipush 16, 2) := by decide +kernel
theorem d9_74 : decode prog_22_method_2_code 74 = .ok (.goto 6, 3) := by decide +kernel
theorem d9_80 : decode prog_22_method_2_code 80 = .ok (.iconst 2, 1) := by decide +kernel
theorem d9_81 : decode prog_22_method_2_code 81 = .ok (.ishl, 1) := by decide +kernel
theorem d9_82 : decode prog_22_method_2_code 82 = .ok (.newarray .int, 2) := by decide +kernel
theorem d9_84 : decode prog_22_method_2_code 84 = .ok (.aastore, 1) := by decide +kernel
theorem d9_85 : decode prog_22_method_2_code 85 = .ok (.aload_n 0, 1) := by decide +kernel
theorem d9_86 : decode prog_22_method_2_code 86 = .ok (.dup, 1) := by decide +kernel
theorem d9_87 : decode prog_22_method_2_code 87 = .ok (.getfield 26, 3) := by decide +kernel
theorem d9_90 : decode prog_22_method_2_code 90 = .ok (.ldc2_w 32, 3) := by decide +kernel
theorem d9_93 : decode prog_22_method_2_code 93 = .ok (.aload_n 0, 1) := by decide +kernel
theorem d9_94 : decode prog_22_method_2_code 94 = .ok (.getfield 11, 3) := by decide +kernel
theorem d9_97 : decode prog_22_method_2_code 97 = .ok (.iload 6, 2) := by decide +kernel
theorem d9_99 : decode prog_22_method_2_code 99 = .ok (.aaload, 1) := by decide +kernel
theorem d9_100 : decode prog_22_method_2_code 100 = .ok (.arraylength, 1) := by decide +kernel
theorem d9_101 : decode prog_22_method_2_code 101 = .ok (.i2l, 1) := by decide +kernel
theorem d9_102 : decode prog_22_method_2_code 102 = .ok (.lmul, 1) := by decide +kernel
theorem d9_103 : decode prog_22_method_2_code 103 = .ok (.ladd, 1) := by decide +kernel
theorem d9_104 : decode prog_22_method_2_code 104 = .ok (.putfield 26, 3) := by decide +kernel
theorem d9_107 : decode prog_22_method_2_code 107 = .ok (.goto 53, 3) := by decide +kernel
theorem d9_160 : decode prog_22_method_2_code 160 = .ok (.aload_n 0, 1) := by decide +kernel
theorem d9_161 : decode prog_22_method_2_code 161 = .ok (.getfield 11, 3) := by decide +kernel
theorem d9_164 : decode prog_22_method_2_code 164 = .ok (.iload 6, 2) := by decide +kernel
theorem d9_166 : decode prog_22_method_2_code 166 = .ok (.aaload, 1) := by decide +kernel
theorem d9_167 : decode prog_22_method_2_code 167 = .ok (.astore 8, 2) := by decide +kernel
theorem d9_169 : decode prog_22_method_2_code 169 = .ok (.aload 8, 2) := by decide +kernel
theorem d9_171 : decode prog_22_method_2_code 171 = .ok (.iload 7, 2) := by decide +kernel
theorem d9_173 : decode prog_22_method_2_code 173 = .ok (.iload_n 1, 1) := by decide +kernel
theorem d9_174 : decode prog_22_method_2_code 174 = .ok (.iastore, 1) := by decide +kernel
theorem d9_175 : decode prog_22_method_2_code 175 = .ok (.aload 8, 2) := by decide +kernel
theorem d9_177 : decode prog_22_method_2_code 177 = .ok (.iload 7, 2) := by decide +kernel
theorem d9_179 : decode prog_22_method_2_code 179 = .ok (.iconst 1, 1) := by decide +kernel
theorem d9_180 : decode prog_22_method_2_code 180 = .ok (.iadd, 1) := by decide +kernel
theorem d9_181 : decode prog_22_method_2_code 181 = .ok (.iload_n 2, 1) := by decide +kernel
theorem d9_182 : decode prog_22_method_2_code 182 = .ok (.iastore, 1) := by decide +kernel
theorem d9_183 : decode prog_22_method_2_code 183 = .ok (.aload 8, 2) := by decide +kernel
theorem d9_185 : decode prog_22_method_2_code 185 = .ok (.iload 7, 2) := by decide +kernel
theorem d9_187 : decode prog_22_method_2_code 187 = .ok (.iconst 2, 1) := by decide +kernel
theorem d9_188 : decode prog_22_method_2_code 188 = .ok (.iadd, 1) := by decide +kernel
theorem d9_189 : decode prog_22_method_2_code 189 = .ok (.iload_n 3, 1) := by decide +kernel
theorem d9_190 : decode prog_22_method_2_code 190 = .ok (.iastore, 1) := by decide +kernel
theorem d9_191 : decode prog_22_method_2_code 191 = .ok (.aload 8, 2) := by decide +kernel
theorem d9_193 : decode prog_22_method_2_code 193 = .ok (.iload 7, 2) := by decide +kernel
theorem d9_195 : decode prog_22_method_2_code 195 = .ok (.iconst 3, 1) := by decide +kernel
theorem d9_196 : decode prog_22_method_2_code 196 = .ok (.iadd, 1) := by decide +kernel
theorem d9_197 : decode prog_22_method_2_code 197 = .ok (.iload 4, 2) := by decide +kernel
theorem d9_199 : decode prog_22_method_2_code 199 = .ok (.iastore, 1) := by decide +kernel
theorem d9_200 : decode prog_22_method_2_code 200 = .ok (.aload_n 0, 1) := by decide +kernel
theorem d9_201 : decode prog_22_method_2_code 201 = .ok (.dup, 1) := by decide +kernel
theorem d9_202 : decode prog_22_method_2_code 202 = .ok (.getfield 15, 3) := by decide +kernel
theorem d9_205 : decode prog_22_method_2_code 205 = .ok (.iconst 1, 1) := by decide +kernel
theorem d9_206 : decode prog_22_method_2_code 206 = .ok (.iadd, 1) := by decide +kernel
theorem d9_207 : decode prog_22_method_2_code 207 = .ok (.putfield 15, 3) := by decide +kernel
theorem d9_210 : decode prog_22_method_2_code 210 = .ok (.iload 5, 2) := by decide +kernel
theorem d9_212 : decode prog_22_method_2_code 212 = .ok (.ireturn, 1) := by decide +kernel
theorem ef9 (m : MethodId) (x0 : Addr) (x1 : Int32) (x2 : Int32) (x3 : Int32) (x4 : Int32) : entryFrame m #[(.ref x0), (.int x1), (.int x2), (.int x3), (.int x4)] 9 = mkF m 0 #[.val (.ref x0), .val (.int x1), .val (.int x2), .val (.int x3), .val (.int x4), .unset, .unset, .unset, .unset] [] := by first | (simp [entryFrame, mkF, argsToLocals, Value.category]; done) | rfl
def Q9 (Z : State) (o1 : Addr) (o2 : Addr) (kc3 : ClassId) (h0 : Heap) (n0 : Nat) (v : Option Value) (h : Heap) (L : List Loc) : Prop :=
  (∃ b7 : Addr, ∃ k7 : ClassId, v = some (.int 0) ∧ Fr n0 L ∧ Keep h0 h [o2, o1] ∧ h0.size ≤ b7 ∧ (Arv Z h o2 kc3 (.array .int) (1 : Int32) [(.ref b7)] .null) ∧ (Exa Z h o2 "[[I") ∧ (Exa Z h o1 "com/example/mycelia/mycelia/wire/MessageTree$IntRecords") ∧ (Fld Z h o1 "com/example/mycelia/mycelia/wire/MessageTree$IntRecords" "blocks" "[[I" (.ref o2)) ∧ (Fld Z h o1 "com/example/mycelia/mycelia/wire/MessageTree$IntRecords" "heap" "J" (.long 256)) ∧ (Fld Z h o1 "com/example/mycelia/mycelia/wire/MessageTree$IntRecords" "size" "I" (.int 1)) ∧ (Arv Z h b7 k7 .int (64 : Int32) [(.int (-1)), (.int 0), (.int 0), (.int 0), (.int 0), (.int 0), (.int 0), (.int 0), (.int 0), (.int 0), (.int 0), (.int 0)] (.int 0)) ∧ (Exa Z h b7 "[I"))
set_option maxRecDepth 65536 in
set_option maxHeartbeats 40000000 in
theorem rm9 (l : Launch) (Z : State) (a0 : Array Value) (hw : ∀ d ∈ tables_1, d.before a0 Z = true) (ws : List Jvm.Cond) (o1 : Addr) (o2 : Addr) (kc3 : ClassId) (h0 : Heap) (n0 : Nat) (O0 : Old Z n0 h0) (g_o1 : n0 ≤ o1) (g_o2 : n0 ≤ o2) (Ov_kc3 : OvrA Z kc3 .int "[I") (P0 : Exa Z h0 o1 "com/example/mycelia/mycelia/wire/MessageTree$IntRecords") (P1 : Fld Z h0 o1 "com/example/mycelia/mycelia/wire/MessageTree$IntRecords" "blocks" "[[I" (.ref o2)) (P2 : Fld Z h0 o1 "com/example/mycelia/mycelia/wire/MessageTree$IntRecords" "heap" "J" (.long 0)) (P3 : Fld Z h0 o1 "com/example/mycelia/mycelia/wire/MessageTree$IntRecords" "size" "I" (.int 0)) (P4 : Arv Z h0 o2 kc3 (.array .int) (1 : Int32) [.null] .null) (P5 : Exa Z h0 o2 "[[I") :
    MetFree l yn8 (head1 (Jvm.Cond.code yn8 prog_22_method_2_code 9 (some .int) :: ws) ({ frames := 0, cells := 1, slots := 64, locals := 0 } : Room)) (fun a U => a = #[(.ref o1), (.int (-1)), (.int 0), (.int 0), (.int 0)] ∧ Z.Warmed39 U.vm ∧ U.heap = h0) (fun _ _ _ _ _ => True) (fun _ U o U' => ∃ v L, o = .returned v ∧ Q9 Z o1 o2 kc3 h0 n0 v U'.heap L ∧ FrameEnd U o U' L ({ frames := 0, cells := 1, slots := 64, locals := 0 } : Room).cells ({ frames := 0, cells := 1, slots := 64, locals := 0 } : Room).slots) := by
  refine MetFree.of_bodySF (plainFor_of_name pn0) hisR ?_
  intro p e s m args below meth c s₁ Bd hml0 hP hK
  obtain ⟨rfl, hZ, hh⟩ := hP
  have hx := Bd.exec
  have hby := Bd.bytes
  have hml : c.maxLocals = 9 := hml0
  have hown : s.vm.findClass "com/example/mycelia/mycelia/wire/MessageTree$IntRecords" = some m.cls := findClass_of_methodNamed Bd.named
  have hnm := (name_of_methodNamed Bd.named Bd.method).1
  have hret := Bd.returns
  have hlk : meth.locks = false := BodyLoose.notSynchronized Bd
  have X0 : Stand p l e ({ frames := 0, cells := 1, slots := 64, locals := 0 } : Room) s m #[(.ref o1), (.int (-1)), (.int 0), (.int 0), (.int 0)] below meth c s₁ [] 0 0 := Stand.of_body Bd
  have e0 : s₁.heap = h0 := by rw [← hh, Bd.state]; rfl
  have N0 := Fr.nil n0
  have pre0 : ∀ t, Steps p.tables e below (s₁.setTop (mkF m 0 #[.val (.ref o1), .val (.int (-1)), .val (.int 0), .val (.int 0), .val (.int 0), .unset, .unset, .unset, .unset] [])) t → Steps p.tables e below (s₁.setTop (entryFrame m #[(.ref o1), (.int (-1)), (.int 0), (.int 0), (.int 0)] 9)) t := fun t k => castTop (ef9 m o1 (-1 : Int32) (0 : Int32) (0 : Int32) (0 : Int32)) k
  obtain ⟨T1, X1, e1, st1⟩ := getF X0 hx hZ hown (host := "") (Or.inl (own_w hw 97 rfl)) Via.refl e0 P3 (g := (mkF m 1 #[.val (.ref o1), .val (.int (-1)), .val (.int 0), .val (.int 0), .val (.int 0), .unset, .unset, .unset, .unset] [(.ref o1)])) rfl rfl (hb hby d9_1)
  obtain ⟨T2, X2, e2, st2⟩ := getF X1 hx hZ hown (host := "") (Or.inl (own_w hw 18 rfl)) Via.refl e1 P1 (g := (mkF m 26 #[.val (.ref o1), .val (.int (-1)), .val (.int 0), .val (.int 0), .val (.int 0), .val (.int 0), .val (.int 0), .val (.int 0), .unset] [(.ref o1), (.int 0)])) rfl rfl (hb hby d9_26)
  obtain ⟨cl3, Ar3, qa3, Sa3, Na3, Ha3, Ga3⟩ := id (P4)
  obtain ⟨T4, X4, e4, st4⟩ := getF X2 hx hZ hown (host := "") (Or.inl (own_w hw 18 rfl)) Via.refl e2 P1 (g := (mkF m 52 #[.val (.ref o1), .val (.int (-1)), .val (.int 0), .val (.int 0), .val (.int 0), .val (.int 0), .val (.int 0), .val (.int 0), .unset] [(.ref o1)])) rfl rfl (hb hby d9_52)
  obtain ⟨cl5, Ar5, qa5, Sa5, Na5, Ha5, Ga5⟩ := id (P4)
  have hin5 : ¬ ((0 : Int32) < 0 ∨ cl5.slots.size ≤ ((0 : Int32)).toNatClampNeg) := inb_of Sa5 ⟨by decide, by decide⟩
  have hat5 : cl5.slots[((0 : Int32)).toNatClampNeg]? = some .null := Has.at Ha5 hin5 rfl
  obtain ⟨T6, X6, e6, st6⟩ := getF X4 hx hZ hown (host := "") (Or.inl (own_w hw 18 rfl)) Via.refl e4 P1 (g := (mkF m 62 #[.val (.ref o1), .val (.int (-1)), .val (.int 0), .val (.int 0), .val (.int 0), .val (.int 0), .val (.int 0), .val (.int 0), .unset] [(.ref o1)])) rfl rfl (hb hby d9_62)
  obtain ⟨T7, h7, k7, X7, e7, E7, A7, EX7, st7⟩ := newPE X6 hx hZ (own_w hw 99 rfl) e6 (g := (mkF m 82 #[.val (.ref o1), .val (.int (-1)), .val (.int 0), .val (.int 0), .val (.int 0), .val (.int 0), .val (.int 0), .val (.int 0), .unset] [(.int 64), (.int 0), (.ref o2)])) rfl (hb hby d9_82) rfl (by decide) (cap := 64) (by decide) (by decide) (by decide) (by decide) (ad := "[I") (by decide)
  obtain ⟨b7, g7⟩ : ∃ z, z = h0.size := ⟨_, rfl⟩
  rw [← g7] at A7 EX7 st7
  have M7 : h0.size ≤ h7.size := Nat.le_trans (Nat.le_refl _) E7.1
  have O7 := Old.ext O0 E7
  have sz_b7 : h0.size ≤ b7 := Nat.le_of_eq g7.symm
  have g_b7 : n0 ≤ b7 := Nat.le_trans (own_oz O0) (Nat.le_trans (Nat.le_refl _) sz_b7)
  have V7_0 := Arv.new A7 (by decide)
  have V7 : Arv Z h7 b7 k7 .int (64 : Int32) [(.int 0), (.int 0), (.int 0), (.int 0), (.int 0), (.int 0), (.int 0), (.int 0), (.int 0), (.int 0), (.int 0), (.int 0)] (.int 0) := V7_0.pad (pad_rep [] (.int 0) 12)
  have f8 := (P4.ext E7)
  obtain ⟨cl9, Ar9, qa9, Sa9, Na9, Ha9, Ga9⟩ := id (f8)
  have hin9 : ¬ ((0 : Int32) < 0 ∨ cl9.slots.size ≤ ((0 : Int32)).toNatClampNeg) := inb_of Sa9 ⟨by decide, by decide⟩
  obtain ⟨T10, h10, X10, e10, W10, st10⟩ := stR X7 hx hZ e7 Ar9 (j := (0 : Int32)) hin9 rfl (Sto.ofVA Ar9 qa9 Ov_kc3 (Ins.self EX7)) (g := (mkF m 84 #[.val (.ref o1), .val (.int (-1)), .val (.int 0), .val (.int 0), .val (.int 0), .val (.int 0), .val (.int 0), .val (.int 0), .unset] [(.ref b7), (.int 0), (.ref o2)])) rfl rfl (hb hby d9_84)
  have V10 : Arv Z h10 o2 kc3 (.array .int) (1 : Int32) [(.ref b7)] .null := Arv.set Ar9 qa9 Sa9 Na9 Ha9 Ga9 rfl W10 0 rfl (Nat.le_of_ble_eq_true rfl)
  have N10 := Fr.snoc X10 N0 g_o2
  have M10 : h0.size ≤ h10.size := Nat.le_trans M7 (Nat.le_of_eq W10.size.symm)
  have O10 := Old.wr O7 W10 g_o2
  have f11 := ((P0.ext E7).wr W10)
  have f12 := ((P5.ext E7).wr W10)
  have ne13 : o1 ≠ o2 := ne_exa f11 f12 (by decide)
  have f14 := ((P2.ext E7).other W10 (Or.inl ne13))
  obtain ⟨T15, X15, e15, st15⟩ := getF X10 hx hZ hown (host := "") (Or.inl (own_w hw 101 rfl)) Via.refl e10 f14 (g := (mkF m 87 #[.val (.ref o1), .val (.int (-1)), .val (.int 0), .val (.int 0), .val (.int 0), .val (.int 0), .val (.int 0), .val (.int 0), .unset] [(.ref o1), (.ref o1)])) rfl rfl (hb hby d9_87)
  have f16 := ((P1.ext E7).other W10 (Or.inl ne13))
  obtain ⟨T17, X17, e17, st17⟩ := getF X15 hx hZ hown (host := "") (Or.inl (own_w hw 18 rfl)) Via.refl e15 f16 (g := (mkF m 94 #[.val (.ref o1), .val (.int (-1)), .val (.int 0), .val (.int 0), .val (.int 0), .val (.int 0), .val (.int 0), .val (.int 0), .unset] [(.ref o1), (.long 4), (.long 0), (.ref o1)])) rfl rfl (hb hby d9_94)
  obtain ⟨cl18, Ar18, qa18, Sa18, Na18, Ha18, Ga18⟩ := id (V10)
  have hin18 : ¬ ((0 : Int32) < 0 ∨ cl18.slots.size ≤ ((0 : Int32)).toNatClampNeg) := inb_of Sa18 ⟨by decide, by decide⟩
  have hat18 : cl18.slots[((0 : Int32)).toNatClampNeg]? = some (.ref b7) := Has.at Ha18 hin18 rfl
  have lt19 : o2 < h0.size := P4.lt
  have ne20 : o2 ≠ b7 := Nat.ne_of_lt (Nat.lt_of_lt_of_le lt19 sz_b7)
  have f21 := (V7.other W10 (Ne.symm ne20))
  obtain ⟨cl22, Ar22, qa22, Sa22, Na22, Ha22, Ga22⟩ := id (f21)
  obtain ⟨T23, h23, X23, e23, W23, st23⟩ := putF X17 hx hZ hown (host := "") (Or.inl (own_w hw 101 rfl)) Via.refl e17 f14 f11 (Or.inl (own_w hw 102 rfl)) (own_w hw 10 rfl) (ty := .long) (by decide) rfl rfl (g := (mkF m 104 #[.val (.ref o1), .val (.int (-1)), .val (.int 0), .val (.int 0), .val (.int 0), .val (.int 0), .val (.int 0), .val (.int 0), .unset] [(.long 256), (.ref o1)])) rfl rfl (hb hby d9_104)
  have N23 := Fr.snoc X23 N10 g_o1
  have Fw23 := f14.same W23
  have M23 : h0.size ≤ h23.size := Nat.le_trans M10 (Nat.le_of_eq W23.size.symm)
  have O23 := Old.wr O10 W23 g_o1
  have f24 := (f16.other W23 (Or.inr (slot_ne (Or.inl (own_w hw 19 rfl)) (Or.inl (own_w hw 102 rfl)) (by decide) (t := (.array (.array .int))) (t' := .long) (by decide) (by decide))))
  obtain ⟨T25, X25, e25, st25⟩ := getF X23 hx hZ hown (host := "") (Or.inl (own_w hw 18 rfl)) Via.refl e23 f24 (g := (mkF m 161 #[.val (.ref o1), .val (.int (-1)), .val (.int 0), .val (.int 0), .val (.int 0), .val (.int 0), .val (.int 0), .val (.int 0), .unset] [(.ref o1)])) rfl rfl (hb hby d9_161)
  have f26 := (V10.other W23 (Ne.symm ne13))
  obtain ⟨cl27, Ar27, qa27, Sa27, Na27, Ha27, Ga27⟩ := id (f26)
  have hin27 : ¬ ((0 : Int32) < 0 ∨ cl27.slots.size ≤ ((0 : Int32)).toNatClampNeg) := inb_of Sa27 ⟨by decide, by decide⟩
  have hat27 : cl27.slots[((0 : Int32)).toNatClampNeg]? = some (.ref b7) := Has.at Ha27 hin27 rfl
  have lt28 : o1 < h0.size := P0.lt
  have ne29 : o1 ≠ b7 := Nat.ne_of_lt (Nat.lt_of_lt_of_le lt28 sz_b7)
  have f30 := (f21.other W23 (Ne.symm ne29))
  obtain ⟨cl31, Ar31, qa31, Sa31, Na31, Ha31, Ga31⟩ := id (f30)
  have hin31 : ¬ ((0 : Int32) < 0 ∨ cl31.slots.size ≤ ((0 : Int32)).toNatClampNeg) := inb_of Sa31 ⟨by decide, by decide⟩
  obtain ⟨T32, h32, X32, e32, W32, st32⟩ := stI X25 hx hZ e25 Ar31 (j := (0 : Int32)) hin31 (g := (mkF m 174 #[.val (.ref o1), .val (.int (-1)), .val (.int 0), .val (.int 0), .val (.int 0), .val (.int 0), .val (.int 0), .val (.int 0), .val (.ref b7)] [(.int (-1)), (.int 0), (.ref b7)])) rfl rfl (hb hby d9_174)
  have V32 : Arv Z h32 b7 k7 .int (64 : Int32) [(.int (-1)), (.int 0), (.int 0), (.int 0), (.int 0), (.int 0), (.int 0), (.int 0), (.int 0), (.int 0), (.int 0), (.int 0)] (.int 0) := Arv.set Ar31 qa31 Sa31 Na31 Ha31 Ga31 rfl W32 0 rfl (Nat.le_of_ble_eq_true rfl)
  have N32 := Fr.snoc X32 N23 g_b7
  have M32 : h0.size ≤ h32.size := Nat.le_trans M23 (Nat.le_of_eq W32.size.symm)
  have O32 := Old.wr O23 W32 g_b7
  obtain ⟨cl33, Ar33, qa33, Sa33, Na33, Ha33, Ga33⟩ := id (V32)
  have hin33 : ¬ ((1 : Int32) < 0 ∨ cl33.slots.size ≤ ((1 : Int32)).toNatClampNeg) := inb_of Sa33 ⟨by decide, by decide⟩
  obtain ⟨T34, h34, X34, e34, W34, st34⟩ := stI X32 hx hZ e32 Ar33 (j := (1 : Int32)) hin33 (g := (mkF m 182 #[.val (.ref o1), .val (.int (-1)), .val (.int 0), .val (.int 0), .val (.int 0), .val (.int 0), .val (.int 0), .val (.int 0), .val (.ref b7)] [(.int 0), (.int 1), (.ref b7)])) rfl rfl (hb hby d9_182)
  have V34 : Arv Z h34 b7 k7 .int (64 : Int32) [(.int (-1)), (.int 0), (.int 0), (.int 0), (.int 0), (.int 0), (.int 0), (.int 0), (.int 0), (.int 0), (.int 0), (.int 0)] (.int 0) := Arv.set Ar33 qa33 Sa33 Na33 Ha33 Ga33 rfl W34 1 rfl (Nat.le_of_ble_eq_true rfl)
  have N34 := Fr.snoc X34 N32 g_b7
  have M34 : h0.size ≤ h34.size := Nat.le_trans M32 (Nat.le_of_eq W34.size.symm)
  have O34 := Old.wr O32 W34 g_b7
  obtain ⟨cl35, Ar35, qa35, Sa35, Na35, Ha35, Ga35⟩ := id (V34)
  have hin35 : ¬ ((2 : Int32) < 0 ∨ cl35.slots.size ≤ ((2 : Int32)).toNatClampNeg) := inb_of Sa35 ⟨by decide, by decide⟩
  obtain ⟨T36, h36, X36, e36, W36, st36⟩ := stI X34 hx hZ e34 Ar35 (j := (2 : Int32)) hin35 (g := (mkF m 190 #[.val (.ref o1), .val (.int (-1)), .val (.int 0), .val (.int 0), .val (.int 0), .val (.int 0), .val (.int 0), .val (.int 0), .val (.ref b7)] [(.int 0), (.int 2), (.ref b7)])) rfl rfl (hb hby d9_190)
  have V36 : Arv Z h36 b7 k7 .int (64 : Int32) [(.int (-1)), (.int 0), (.int 0), (.int 0), (.int 0), (.int 0), (.int 0), (.int 0), (.int 0), (.int 0), (.int 0), (.int 0)] (.int 0) := Arv.set Ar35 qa35 Sa35 Na35 Ha35 Ga35 rfl W36 2 rfl (Nat.le_of_ble_eq_true rfl)
  have N36 := Fr.snoc X36 N34 g_b7
  have M36 : h0.size ≤ h36.size := Nat.le_trans M34 (Nat.le_of_eq W36.size.symm)
  have O36 := Old.wr O34 W36 g_b7
  obtain ⟨cl37, Ar37, qa37, Sa37, Na37, Ha37, Ga37⟩ := id (V36)
  have hin37 : ¬ ((3 : Int32) < 0 ∨ cl37.slots.size ≤ ((3 : Int32)).toNatClampNeg) := inb_of Sa37 ⟨by decide, by decide⟩
  obtain ⟨T38, h38, X38, e38, W38, st38⟩ := stI X36 hx hZ e36 Ar37 (j := (3 : Int32)) hin37 (g := (mkF m 199 #[.val (.ref o1), .val (.int (-1)), .val (.int 0), .val (.int 0), .val (.int 0), .val (.int 0), .val (.int 0), .val (.int 0), .val (.ref b7)] [(.int 0), (.int 3), (.ref b7)])) rfl rfl (hb hby d9_199)
  have V38 : Arv Z h38 b7 k7 .int (64 : Int32) [(.int (-1)), (.int 0), (.int 0), (.int 0), (.int 0), (.int 0), (.int 0), (.int 0), (.int 0), (.int 0), (.int 0), (.int 0)] (.int 0) := Arv.set Ar37 qa37 Sa37 Na37 Ha37 Ga37 rfl W38 3 rfl (Nat.le_of_ble_eq_true rfl)
  have N38 := Fr.snoc X38 N36 g_b7
  have M38 : h0.size ≤ h38.size := Nat.le_trans M36 (Nat.le_of_eq W38.size.symm)
  have O38 := Old.wr O36 W38 g_b7
  have f39 := (((((((P3.ext E7).other W10 (Or.inl ne13)).other W23 (Or.inr (slot_ne (Or.inl (own_w hw 98 rfl)) (Or.inl (own_w hw 102 rfl)) (by decide) (t := .int) (t' := .long) (by decide) (by decide)))).other W32 (Or.inl ne29)).other W34 (Or.inl ne29)).other W36 (Or.inl ne29)).other W38 (Or.inl ne29))
  obtain ⟨T40, X40, e40, st40⟩ := getF X38 hx hZ hown (host := "") (Or.inl (own_w hw 97 rfl)) Via.refl e38 f39 (g := (mkF m 202 #[.val (.ref o1), .val (.int (-1)), .val (.int 0), .val (.int 0), .val (.int 0), .val (.int 0), .val (.int 0), .val (.int 0), .val (.ref b7)] [(.ref o1), (.ref o1)])) rfl rfl (hb hby d9_202)
  have f41 := (((((f11.wr W23).wr W32).wr W34).wr W36).wr W38)
  obtain ⟨T42, h42, X42, e42, W42, st42⟩ := putF X40 hx hZ hown (host := "") (Or.inl (own_w hw 97 rfl)) Via.refl e40 f39 f41 (Or.inl (own_w hw 98 rfl)) (own_w hw 10 rfl) (ty := .int) (by decide) rfl rfl (g := (mkF m 207 #[.val (.ref o1), .val (.int (-1)), .val (.int 0), .val (.int 0), .val (.int 0), .val (.int 0), .val (.int 0), .val (.int 0), .val (.ref b7)] [(.int 1), (.ref o1)])) rfl rfl (hb hby d9_207)
  have N42 := Fr.snoc X42 N38 g_o1
  have Fw42 := f39.same W42
  have M42 : h0.size ≤ h42.size := Nat.le_trans M38 (Nat.le_of_eq W42.size.symm)
  have O42 := Old.wr O38 W42 g_o1
  obtain ⟨fs, hr, hrun, hended, hW, hsame⟩ := X42.leave (v := some (.int 0)) (fun h => by rw [hret] at h; cases h)
  have KL : Keep h0 h42 [o2, o1] := (((((((((Keep.refl h0 [o2, o1]).ext E7).wr W10 (Or.inl (List.mem_of_getElem? (i := 0) rfl))).wr W23 (Or.inl (List.mem_of_getElem? (i := 1) rfl))).wr W32 (Or.inr (Nat.le_trans (Nat.le_refl _) sz_b7))).wr W34 (Or.inr (Nat.le_trans (Nat.le_refl _) sz_b7))).wr W36 (Or.inr (Nat.le_trans (Nat.le_refl _) sz_b7))).wr W38 (Or.inr (Nat.le_trans (Nat.le_refl _) sz_b7))).wr W42 (Or.inl (List.mem_of_getElem? (i := 1) rfl)))
  have f43 := (((((f26.other W32 ne20).other W34 ne20).other W36 ne20).other W38 ne20).other W42 (Ne.symm ne13))
  have f44 := ((((((f12.wr W23).wr W32).wr W34).wr W36).wr W38).wr W42)
  have f45 := (f41.wr W42)
  have f46 := (((((f24.other W32 (Or.inl ne29)).other W34 (Or.inl ne29)).other W36 (Or.inl ne29)).other W38 (Or.inl ne29)).other W42 (Or.inr (slot_ne (Or.inl (own_w hw 19 rfl)) (Or.inl (own_w hw 98 rfl)) (by decide) (t := (.array (.array .int))) (t' := .int) (by decide) (by decide))))
  have f47 := (((((Fw23.other W32 (Or.inl ne29)).other W34 (Or.inl ne29)).other W36 (Or.inl ne29)).other W38 (Or.inl ne29)).other W42 (Or.inr (slot_ne (Or.inl (own_w hw 102 rfl)) (Or.inl (own_w hw 98 rfl)) (by decide) (t := .long) (t' := .int) (by decide) (by decide))))
  have f48 := (V38.other W42 (Ne.symm ne29))
  have f49 := (((((((EX7.wr W10).wr W23).wr W32).wr W34).wr W36).wr W38).wr W42)
  refine ⟨_, _, pre0 _ ?_, hrun, hended, _, _, rfl, ?_, ⟨_, rfl⟩, hW, hsame.mono (by decide) (by decide)⟩
  ·
    show Steps p.tables e below (s₁.setTop (mkF m 0 #[.val (.ref o1), .val (.int (-1)), .val (.int 0), .val (.int 0), .val (.int 0), .unset, .unset, .unset, .unset] [])) _
    refine XS.aloadN X0.here hx rfl (hb hby d9_0) rfl rfl ?_
    refine st1 _ ?_
    refine XS.istore X1.here hx rfl (hb hby d9_4) rfl (l' := #[.val (.ref o1), .val (.int (-1)), .val (.int 0), .val (.int 0), .val (.int 0), .val (.int 0), .unset, .unset, .unset]) rfl ?_
    refine XS.iload X1.here hx rfl (hb hby d9_6) rfl ?_
    refine XS.bipush X1.here hx rfl (hb hby d9_8) ?_
    refine XS.iushr X1.here hx rfl (hb hby d9_10) rfl ?_
    refine XS.istore X1.here hx rfl (hb hby d9_11) rfl (l' := #[.val (.ref o1), .val (.int (-1)), .val (.int 0), .val (.int 0), .val (.int 0), .val (.int 0), .val (.int 0), .unset, .unset]) rfl ?_
    refine XS.iload X1.here hx rfl (hb hby d9_13) rfl ?_
    refine XS.sipush X1.here hx rfl (hb hby d9_15) ?_
    refine XS.iand X1.here hx rfl (hb hby d9_18) rfl ?_
    refine XS.iconst X1.here hx rfl (hb hby d9_19) ?_
    refine XS.ishl X1.here hx rfl (hb hby d9_20) rfl ?_
    refine XS.istore X1.here hx rfl (hb hby d9_21) rfl (l' := #[.val (.ref o1), .val (.int (-1)), .val (.int 0), .val (.int 0), .val (.int 0), .val (.int 0), .val (.int 0), .val (.int 0), .unset]) rfl ?_
    refine XS.iload X1.here hx rfl (hb hby d9_23) rfl ?_
    refine XS.aloadN X1.here hx rfl (hb hby d9_25) rfl rfl ?_
    refine st2 _ ?_
    refine X2.arraylength hx (by rw [e2]; exact Ar3.1) (State.isArrayOf_alike hZ.alike Ar3.2.1) (g := (mkF m 29 #[.val (.ref o1), .val (.int (-1)), .val (.int 0), .val (.int 0), .val (.int 0), .val (.int 0), .val (.int 0), .val (.int 0), .unset] [(.ref o2), (.int 0)])) rfl rfl (hb hby d9_29) _ ?_
    rw [len_of Sa3 Na3]
    refine XS.icmpYes X2.here hx rfl (pc0 := 30) (pc' := 51) rfl (hb hby d9_30) rfl (feq (by decide : ¬ ((0 : Int32) = (1 : Int32)))).2 (by decide) (by decide) ?_
    refine XS.aloadN X2.here hx rfl (hb hby d9_51) rfl rfl ?_
    refine st4 _ ?_
    refine XS.iload X4.here hx rfl (hb hby d9_55) rfl ?_
    refine X4.aaload hx (j := (0 : Int32)) (v := .null) (by rw [e4]; exact Ar5.1) (State.isArrayOf_alike hZ.alike Ar5.2.1) rfl Ar5.2.2 hin5 hat5 (g := (mkF m 57 #[.val (.ref o1), .val (.int (-1)), .val (.int 0), .val (.int 0), .val (.int 0), .val (.int 0), .val (.int 0), .val (.int 0), .unset] [(.int 0), (.ref o2)])) rfl rfl (hb hby d9_57) _ ?_
    refine XS.ifnonnullNo X4.here hx rfl (hb hby d9_58) rfl ?_
    refine XS.aloadN X4.here hx rfl (hb hby d9_61) rfl rfl ?_
    refine st6 _ ?_
    refine XS.iload X6.here hx rfl (hb hby d9_65) rfl ?_
    refine XS.iload X6.here hx rfl (hb hby d9_67) rfl ?_
    refine XS.ifNo X6.here hx rfl (hb hby d9_69) rfl ((if0 _ _).trans (teq (by decide : (0 : Int32) = (0 : Int32))).2) ?_
    refine XS.bipush X6.here hx rfl (hb hby d9_72) ?_
    refine XS.goto X6.here hx rfl (pc0 := 74) (pc' := 80) rfl (hb hby d9_74) (by decide) (by decide) ?_
    refine XS.iconst X6.here hx rfl (hb hby d9_80) ?_
    refine XS.ishl X6.here hx rfl (hb hby d9_81) rfl ?_
    refine st7 _ ?_
    refine st10 _ ?_
    refine XS.aloadN X10.here hx rfl (hb hby d9_85) rfl rfl ?_
    refine XS.dup X10.here hx rfl (hb hby d9_86) rfl rfl ?_
    refine st15 _ ?_
    refine X15.ldc2Long hx hown (mvT hZ (own_w hw 103 rfl)) (g := (mkF m 90 #[.val (.ref o1), .val (.int (-1)), .val (.int 0), .val (.int 0), .val (.int 0), .val (.int 0), .val (.int 0), .val (.int 0), .unset] [(.long 0), (.ref o1)])) rfl (hb hby d9_90) _ ?_
    refine XS.aloadN X15.here hx rfl (hb hby d9_93) rfl rfl ?_
    refine st17 _ ?_
    show Steps p.tables e below (T17.setTop (mkF m 97 #[.val (.ref o1), .val (.int (-1)), .val (.int 0), .val (.int 0), .val (.int 0), .val (.int 0), .val (.int 0), .val (.int 0), .unset] [(.ref o2), (.long 4), (.long 0), (.ref o1)])) _
    refine XS.iload X17.here hx rfl (hb hby d9_97) rfl ?_
    refine X17.aaload hx (j := (0 : Int32)) (v := (.ref b7)) (by rw [e17]; exact Ar18.1) (State.isArrayOf_alike hZ.alike Ar18.2.1) rfl Ar18.2.2 hin18 hat18 (g := (mkF m 99 #[.val (.ref o1), .val (.int (-1)), .val (.int 0), .val (.int 0), .val (.int 0), .val (.int 0), .val (.int 0), .val (.int 0), .unset] [(.int 0), (.ref o2), (.long 4), (.long 0), (.ref o1)])) rfl rfl (hb hby d9_99) _ ?_
    refine X17.arraylength hx (by rw [e17]; exact Ar22.1) (State.isArrayOf_alike hZ.alike Ar22.2.1) (g := (mkF m 100 #[.val (.ref o1), .val (.int (-1)), .val (.int 0), .val (.int 0), .val (.int 0), .val (.int 0), .val (.int 0), .val (.int 0), .unset] [(.ref b7), (.long 4), (.long 0), (.ref o1)])) rfl rfl (hb hby d9_100) _ ?_
    rw [len_of Sa22 Na22]
    refine XS.i2l X17.here hx rfl (hb hby d9_101) rfl ?_
    refine XS.lmul X17.here hx rfl (hb hby d9_102) rfl ?_
    refine XS.ladd X17.here hx rfl (hb hby d9_103) rfl ?_
    refine st23 _ ?_
    refine XS.goto X23.here hx rfl (pc0 := 107) (pc' := 160) rfl (hb hby d9_107) (by decide) (by decide) ?_
    refine XS.aloadN X23.here hx rfl (hb hby d9_160) rfl rfl ?_
    refine st25 _ ?_
    refine XS.iload X25.here hx rfl (hb hby d9_164) rfl ?_
    refine X25.aaload hx (j := (0 : Int32)) (v := (.ref b7)) (by rw [e25]; exact Ar27.1) (State.isArrayOf_alike hZ.alike Ar27.2.1) rfl Ar27.2.2 hin27 hat27 (g := (mkF m 166 #[.val (.ref o1), .val (.int (-1)), .val (.int 0), .val (.int 0), .val (.int 0), .val (.int 0), .val (.int 0), .val (.int 0), .unset] [(.int 0), (.ref o2)])) rfl rfl (hb hby d9_166) _ ?_
    refine XS.astore X25.here hx rfl (hb hby d9_167) rfl rfl (l' := #[.val (.ref o1), .val (.int (-1)), .val (.int 0), .val (.int 0), .val (.int 0), .val (.int 0), .val (.int 0), .val (.int 0), .val (.ref b7)]) rfl ?_
    refine XS.aload X25.here hx rfl (hb hby d9_169) rfl rfl ?_
    refine XS.iload X25.here hx rfl (hb hby d9_171) rfl ?_
    refine XS.iloadN X25.here hx rfl (hb hby d9_173) rfl ?_
    refine st32 _ ?_
    refine XS.aload X32.here hx rfl (hb hby d9_175) rfl rfl ?_
    refine XS.iload X32.here hx rfl (hb hby d9_177) rfl ?_
    refine XS.iconst X32.here hx rfl (hb hby d9_179) ?_
    refine XS.iadd X32.here hx rfl (hb hby d9_180) rfl ?_
    refine XS.iloadN X32.here hx rfl (hb hby d9_181) rfl ?_
    refine st34 _ ?_
    refine XS.aload X34.here hx rfl (hb hby d9_183) rfl rfl ?_
    refine XS.iload X34.here hx rfl (hb hby d9_185) rfl ?_
    refine XS.iconst X34.here hx rfl (hb hby d9_187) ?_
    refine XS.iadd X34.here hx rfl (hb hby d9_188) rfl ?_
    refine XS.iloadN X34.here hx rfl (hb hby d9_189) rfl ?_
    refine st36 _ ?_
    refine XS.aload X36.here hx rfl (hb hby d9_191) rfl rfl ?_
    refine XS.iload X36.here hx rfl (hb hby d9_193) rfl ?_
    refine XS.iconst X36.here hx rfl (hb hby d9_195) ?_
    refine XS.iadd X36.here hx rfl (hb hby d9_196) rfl ?_
    refine XS.iload X36.here hx rfl (hb hby d9_197) rfl ?_
    refine st38 _ ?_
    refine XS.aloadN X38.here hx rfl (hb hby d9_200) rfl rfl ?_
    refine XS.dup X38.here hx rfl (hb hby d9_201) rfl rfl ?_
    refine st40 _ ?_
    refine XS.iconst X40.here hx rfl (hb hby d9_205) ?_
    refine XS.iadd X40.here hx rfl (hb hby d9_206) rfl ?_
    show Steps p.tables e below (T40.setTop (mkF m 207 #[.val (.ref o1), .val (.int (-1)), .val (.int 0), .val (.int 0), .val (.int 0), .val (.int 0), .val (.int 0), .val (.int 0), .val (.ref b7)] [(.int 1), (.ref o1)])) _
    refine st42 _ ?_
    refine XS.iload X42.here hx rfl (hb hby d9_210) rfl ?_
    show Steps p.tables e below (T42.setTop (mkF m 212 #[.val (.ref o1), .val (.int (-1)), .val (.int 0), .val (.int 0), .val (.int 0), .val (.int 0), .val (.int 0), .val (.int 0), .val (.ref b7)] [(.int 0)])) _
    exact retI X42 hx hret (hb hby d9_212) hr
  ·
    show Q9 Z o1 o2 kc3 h0 n0 _ T42.heap _
    rw [e42]
    exact ⟨b7, k7, rfl, N42, KL, (Nat.le_trans (Nat.le_refl _) sz_b7), f43, f44, f45, f46, f47, Fw42, f48, f49⟩
theorem pd2 : parseMethodDescriptor "(IIII)I" = some ⟨[.int, .int, .int, .int], some .int⟩ := by decide +kernel
theorem d0_82 : decode prog_21_method_1_code 82 = .ok (.putfield 47, 3) := by decide +kernel
theorem d0_85 : decode prog_21_method_1_code 85 = .ok (.return_, 1) := by decide +kernel
theorem pn8 : plainName "com/example/mycelia/mycelia/wire/MessageTree" = true := by first | (simp [plainName, overriddenIn]; done) | decide +kernel
theorem ef10 (m : MethodId) (x0 : Addr) : entryFrame m #[(.ref x0)] 1 = mkF m 0 #[.val (.ref x0)] [] := by first | (simp [entryFrame, mkF, argsToLocals, Value.category]; done) | rfl
def Q10 (Z : State) (w1 : Addr) (w2 : Addr) (kw1 : ClassId) (kw2 : ClassId) (gi1 : Int32) (o1 : Addr) (h0 : Heap) (n0 : Nat) (v : Option Value) (h : Heap) (L : List Loc) : Prop :=
  (∃ b20 : Addr, ∃ b83 : Addr, ∃ b2 : Addr, ∃ b70 : Addr, ∃ b38 : Addr, ∃ b54 : Addr, ∃ b22 : Addr, ∃ b4 : Addr, ∃ b40 : Addr, ∃ b56 : Addr, ∃ b125 : Addr, ∃ k23 : ClassId, ∃ k5 : ClassId, ∃ k41 : ClassId, ∃ k57 : ClassId, ∃ k126 : ClassId, v = none ∧ Fr n0 L ∧ Keep h0 h [o1] ∧ h0.size ≤ b20 ∧ h0.size ≤ b83 ∧ h0.size ≤ b2 ∧ h0.size ≤ b70 ∧ h0.size ≤ b38 ∧ h0.size ≤ b54 ∧ h0.size ≤ b22 ∧ h0.size ≤ b4 ∧ h0.size ≤ b40 ∧ h0.size ≤ b56 ∧ h0.size ≤ b125 ∧ b20 ≠ b83 ∧ b20 ≠ b2 ∧ b20 ≠ b70 ∧ b20 ≠ b38 ∧ b20 ≠ b54 ∧ b20 ≠ b22 ∧ b20 ≠ b4 ∧ b20 ≠ b40 ∧ b20 ≠ b56 ∧ b20 ≠ b125 ∧ b83 ≠ b2 ∧ b83 ≠ b70 ∧ b83 ≠ b38 ∧ b83 ≠ b54 ∧ b83 ≠ b22 ∧ b83 ≠ b4 ∧ b83 ≠ b40 ∧ b83 ≠ b56 ∧ b83 ≠ b125 ∧ b2 ≠ b70 ∧ b2 ≠ b38 ∧ b2 ≠ b54 ∧ b2 ≠ b22 ∧ b2 ≠ b4 ∧ b2 ≠ b40 ∧ b2 ≠ b56 ∧ b2 ≠ b125 ∧ b70 ≠ b38 ∧ b70 ≠ b54 ∧ b70 ≠ b22 ∧ b70 ≠ b4 ∧ b70 ≠ b40 ∧ b70 ≠ b56 ∧ b70 ≠ b125 ∧ b38 ≠ b54 ∧ b38 ≠ b22 ∧ b38 ≠ b4 ∧ b38 ≠ b40 ∧ b38 ≠ b56 ∧ b38 ≠ b125 ∧ b54 ≠ b22 ∧ b54 ≠ b4 ∧ b54 ≠ b40 ∧ b54 ≠ b56 ∧ b54 ≠ b125 ∧ b22 ≠ b4 ∧ b22 ≠ b40 ∧ b22 ≠ b56 ∧ b22 ≠ b125 ∧ b4 ≠ b40 ∧ b4 ≠ b56 ∧ b4 ≠ b125 ∧ b40 ≠ b56 ∧ b40 ≠ b125 ∧ b56 ≠ b125 ∧ OvrA Z k23 .int "[I" ∧ OvrA Z k5 .int "[I" ∧ (Exa Z h o1 "com/example/mycelia/mycelia/wire/MessageTree") ∧ (Fld Z h o1 "com/example/mycelia/mycelia/wire/MessageTree" "attributes" "Lcom/example/mycelia/mycelia/wire/MessageTree$IntRecords;" (.ref b20)) ∧ (Fld Z h o1 "com/example/mycelia/mycelia/wire/MessageTree" "codes" "Ljava/util/Map;" (.ref b83)) ∧ (Fld Z h o1 "com/example/mycelia/mycelia/wire/MessageTree" "deepest" "I" (.int 0)) ∧ (Fld Z h o1 "com/example/mycelia/mycelia/wire/MessageTree" "elements" "Lcom/example/mycelia/mycelia/wire/MessageTree$IntRecords;" (.ref b2)) ∧ (Fld Z h o1 "com/example/mycelia/mycelia/wire/MessageTree" "names" "Ljava/util/List;" (.ref b70)) ∧ (Fld Z h o1 "com/example/mycelia/mycelia/wire/MessageTree" "open" "I" (.int 0)) ∧ (Fld Z h o1 "com/example/mycelia/mycelia/wire/MessageTree" "passed" "J" (.long 0)) ∧ (Fld Z h o1 "com/example/mycelia/mycelia/wire/MessageTree" "text" "Ljava/lang/StringBuilder;" (.ref b38)) ∧ (Fld Z h o1 "com/example/mycelia/mycelia/wire/MessageTree" "values" "Ljava/lang/StringBuilder;" (.ref b54)) ∧ (Fld Z h o1 "com/example/mycelia/mycelia/wire/MessageTree" "widePassed" "Z" (.int 0)) ∧ (Fld Z h o1 "com/example/mycelia/mycelia/wire/MessageTree" "wideText" "Z" (.int 0)) ∧ (Fld Z h o1 "com/example/mycelia/mycelia/wire/MessageTree" "wideValues" "Z" (.int 0)) ∧ (Exa Z h b20 "com/example/mycelia/mycelia/wire/MessageTree$IntRecords") ∧ (Fld Z h b20 "com/example/mycelia/mycelia/wire/MessageTree$IntRecords" "blocks" "[[I" (.ref b22)) ∧ (Fld Z h b20 "com/example/mycelia/mycelia/wire/MessageTree$IntRecords" "heap" "J" (.long 0)) ∧ (Fld Z h b20 "com/example/mycelia/mycelia/wire/MessageTree$IntRecords" "size" "I" (.int 0)) ∧ (Exa Z h b83 "java/util/HashMap") ∧ (Fld Z h b83 "java/util/HashMap" "loadFactor" "F" (.float (1061158912 : UInt32))) ∧ (Exa Z h b2 "com/example/mycelia/mycelia/wire/MessageTree$IntRecords") ∧ (Fld Z h b2 "com/example/mycelia/mycelia/wire/MessageTree$IntRecords" "blocks" "[[I" (.ref b4)) ∧ (Fld Z h b2 "com/example/mycelia/mycelia/wire/MessageTree$IntRecords" "heap" "J" (.long 256)) ∧ (Fld Z h b2 "com/example/mycelia/mycelia/wire/MessageTree$IntRecords" "size" "I" (.int 1)) ∧ (Exa Z h b70 "java/util/ArrayList") ∧ (Fld Z h b70 "java/util/AbstractList" "modCount" "I" (.int 0)) ∧ (Fld Z h b70 "java/util/ArrayList" "elementData" "[Ljava/lang/Object;" (.ref w2)) ∧ (Fld Z h b70 "java/util/ArrayList" "size" "I" (.int 0)) ∧ (Exa Z h b38 "java/lang/StringBuilder") ∧ (Fld Z h b38 "java/lang/AbstractStringBuilder" "coder" "B" (.int 0)) ∧ (Fld Z h b38 "java/lang/AbstractStringBuilder" "value" "[B" (.ref b40)) ∧ (Exa Z h b54 "java/lang/StringBuilder") ∧ (Fld Z h b54 "java/lang/AbstractStringBuilder" "coder" "B" (.int 0)) ∧ (Fld Z h b54 "java/lang/AbstractStringBuilder" "value" "[B" (.ref b56)) ∧ (Arv Z h b22 k23 (.array .int) (1 : Int32) [.null] .null) ∧ (Exa Z h b22 "[[I") ∧ (Arv Z h b4 k5 (.array .int) (1 : Int32) [(.ref b125)] .null) ∧ (Exa Z h b4 "[[I") ∧ (Arv Z h b40 k41 .byte (16 : Int32) [(.int 0), (.int 0), (.int 0), (.int 0), (.int 0), (.int 0), (.int 0), (.int 0), (.int 0), (.int 0), (.int 0), (.int 0), (.int 0), (.int 0), (.int 0), (.int 0)] (.int 0)) ∧ (Exa Z h b40 "[B") ∧ (Arv Z h b56 k57 .byte (16 : Int32) [(.int 0), (.int 0), (.int 0), (.int 0), (.int 0), (.int 0), (.int 0), (.int 0), (.int 0), (.int 0), (.int 0), (.int 0), (.int 0), (.int 0), (.int 0), (.int 0)] (.int 0)) ∧ (Exa Z h b56 "[B") ∧ (Arv Z h b125 k126 .int (64 : Int32) [(.int (-1)), (.int 0), (.int 0), (.int 0), (.int 0), (.int 0), (.int 0), (.int 0), (.int 0), (.int 0), (.int 0), (.int 0)] (.int 0)) ∧ (Exa Z h b125 "[I"))
set_option maxRecDepth 65536 in
set_option maxHeartbeats 40000000 in
theorem rm10 (l : Launch) (Z : State) (a0 : Array Value) (hw : ∀ d ∈ tables_1, d.before a0 Z = true) (w1 : Addr) (w2 : Addr) (kw1 : ClassId) (kw2 : ClassId) (gi1 : Int32) (G : GW Z w1 w2 kw1 kw2 gi1) (ws : List Jvm.Cond) (o1 : Addr) (h0 : Heap) (n0 : Nat) (O0 : Old Z n0 h0) (g_o1 : n0 ≤ o1) (P0 : Exa Z h0 o1 "com/example/mycelia/mycelia/wire/MessageTree") (P1 : Fld Z h0 o1 "com/example/mycelia/mycelia/wire/MessageTree" "attributes" "Lcom/example/mycelia/mycelia/wire/MessageTree$IntRecords;" .null) (P2 : Fld Z h0 o1 "com/example/mycelia/mycelia/wire/MessageTree" "codes" "Ljava/util/Map;" .null) (P3 : Fld Z h0 o1 "com/example/mycelia/mycelia/wire/MessageTree" "deepest" "I" (.int 0)) (P4 : Fld Z h0 o1 "com/example/mycelia/mycelia/wire/MessageTree" "elements" "Lcom/example/mycelia/mycelia/wire/MessageTree$IntRecords;" .null) (P5 : Fld Z h0 o1 "com/example/mycelia/mycelia/wire/MessageTree" "names" "Ljava/util/List;" .null) (P6 : Fld Z h0 o1 "com/example/mycelia/mycelia/wire/MessageTree" "open" "I" (.int 0)) (P7 : Fld Z h0 o1 "com/example/mycelia/mycelia/wire/MessageTree" "passed" "J" (.long 0)) (P8 : Fld Z h0 o1 "com/example/mycelia/mycelia/wire/MessageTree" "text" "Ljava/lang/StringBuilder;" .null) (P9 : Fld Z h0 o1 "com/example/mycelia/mycelia/wire/MessageTree" "values" "Ljava/lang/StringBuilder;" .null) (P10 : Fld Z h0 o1 "com/example/mycelia/mycelia/wire/MessageTree" "widePassed" "Z" (.int 0)) (P11 : Fld Z h0 o1 "com/example/mycelia/mycelia/wire/MessageTree" "wideText" "Z" (.int 0)) (P12 : Fld Z h0 o1 "com/example/mycelia/mycelia/wire/MessageTree" "wideValues" "Z" (.int 0)) :
    MetFree l yn9 (head1 (Jvm.Cond.code yn9 prog_21_method_1_code 1 none :: ws) ({ frames := 4, cells := 11, slots := 123, locals := 50 } : Room)) (fun a U => a = #[(.ref o1)] ∧ Z.Warmed39 U.vm ∧ U.heap = h0) (fun _ _ _ _ _ => True) (fun _ U o U' => ∃ v L, o = .returned v ∧ Q10 Z w1 w2 kw1 kw2 gi1 o1 h0 n0 v U'.heap L ∧ FrameEnd U o U' L ({ frames := 4, cells := 11, slots := 123, locals := 50 } : Room).cells ({ frames := 4, cells := 11, slots := 123, locals := 50 } : Room).slots) := by
  obtain ⟨S_w1, E_w1, S_w2, E_w2, S_gi1, NZ_gi1, A_w1, A_w2⟩ := id G
  refine MetFree.of_bodySF (plainFor_of_name pn8) hisR ?_
  intro p e s m args below meth c s₁ Bd hml0 hP hK
  obtain ⟨rfl, hZ, hh⟩ := hP
  have hx := Bd.exec
  have hby := Bd.bytes
  have hml : c.maxLocals = 1 := hml0
  have hown : s.vm.findClass "com/example/mycelia/mycelia/wire/MessageTree" = some m.cls := findClass_of_methodNamed Bd.named
  have hnm := (name_of_methodNamed Bd.named Bd.method).1
  have hret := Bd.returns
  have hlk : meth.locks = false := BodyLoose.notSynchronized Bd
  have X0 : Stand p l e ({ frames := 4, cells := 11, slots := 123, locals := 50 } : Room) s m #[(.ref o1)] below meth c s₁ [] 0 0 := Stand.of_body Bd
  have e0 : s₁.heap = h0 := by rw [← hh, Bd.state]; rfl
  have N0 := Fr.nil n0
  have pre0 : ∀ t, Steps p.tables e below (s₁.setTop (mkF m 0 #[.val (.ref o1)] [])) t → Steps p.tables e below (s₁.setTop (entryFrame m #[(.ref o1)] 1)) t := fun t k => castTop (ef10 m o1) k
  obtain ⟨T1, X1, e1, st1⟩ := initO X0 hx hZ hown (own_w hw 6 rfl) (own_w hw 7 rfl) (own_w hw 8 rfl) e0 (g := (mkF m 1 #[.val (.ref o1)] [(.ref o1)])) rfl (by rw [hml]; rfl) rfl (hb hby d0_1) (by decide) (W := 0) (by show 2 * 0 + _ ≤ _; exact Nat.le_of_eq rfl) (by decide)
  obtain ⟨T2, h2, X2, e2, E2, A2, D2, -, st2⟩ := newO X1 hx hZ hown (own_w hw 9 rfl) (own_w hw 10 rfl) (own_w hw 11 rfl) e1 (g := (mkF m 5 #[.val (.ref o1)] [(.ref o1)])) rfl (hb hby d0_5) (by decide) (by decide)
  obtain ⟨b2, g2⟩ : ∃ z, z = h0.size := ⟨_, rfl⟩
  rw [← g2] at A2 D2 st2
  have M2 : h0.size ≤ h2.size := Nat.le_trans (Nat.le_refl _) E2.1
  have O2 := Old.ext O0 E2
  have sz_b2 : h0.size ≤ b2 := Nat.le_of_eq g2.symm
  have g_b2 : n0 ≤ b2 := Nat.le_trans (own_oz O0) (Nat.le_trans (Nat.le_refl _) sz_b2)
  have F2_19 : Fld Z h2 b2 "com/example/mycelia/mycelia/wire/MessageTree$IntRecords" "blocks" "[[I" .null := D2 (Or.inl (own_w hw 19 rfl)) (ty := (.array (.array .int))) (by decide)
  have F2_98 : Fld Z h2 b2 "com/example/mycelia/mycelia/wire/MessageTree$IntRecords" "size" "I" (.int 0) := D2 (Or.inl (own_w hw 98 rfl)) (ty := .int) (by decide)
  have F2_102 : Fld Z h2 b2 "com/example/mycelia/mycelia/wire/MessageTree$IntRecords" "heap" "J" (.long 0) := D2 (Or.inl (own_w hw 102 rfl)) (ty := .long) (by decide)
  obtain ⟨_, T3, L3, X3, hQ3, st3⟩ := own_sr X2 hx hZ hown (y := yn0) (own_w hw 12 rfl) (own_w hw 13 rfl) (own_w hw 14 rfl) (own_w hw 11 rfl) e2 (a := b2) (argsL := []) (rest := [(.ref b2), (.ref o1)]) (rm1 l Z a0 hw [] b2 h2 n0 O2 g_b2 A2 F2_19 F2_102 F2_98) (g := (mkF m 9 #[.val (.ref o1)] [(.ref b2), (.ref b2), (.ref o1)])) rfl (by rw [hml]; rfl) rfl (hb hby d0_9) (lenOf pd0 rfl) (W := 2) (c1 := 2) (s1 := 4)
  obtain ⟨b4, k5, rfl, Nq6, K7, sz_b4, OV8, f9, f10, f11, f12, f13, f14⟩ := hQ3
  have N3 := Fr.app N0 Nq6
  have g_b4 : n0 ≤ b4 := Nat.le_trans (own_oz O2) sz_b4
  have M3 : h0.size ≤ T3.heap.size := Nat.le_trans M2 K7.1
  have O3 := Old.keep O2 K7 (allS g_b2 all0)
  have lt15 : o1 < h0.size := P0.lt
  have ne16 : o1 ≠ b2 := Nat.ne_of_lt (Nat.lt_of_lt_of_le lt15 sz_b2)
  have f17 := ((P4.ext E2).keep K7 (ninS ne16 nin0))
  have f18 := ((P0.ext E2).keep K7)
  obtain ⟨T19, h19, X19, e19, W19, st19⟩ := putF X3 hx hZ hown (host := "") (Or.inl (own_w hw 20 rfl)) Via.refl rfl f17 f18 (Or.inr ⟨(own_w hw 21 rfl), rfl, hnm⟩) (own_w hw 1 rfl) (ty := (.object "com/example/mycelia/mycelia/wire/MessageTree$IntRecords")) (by decide) rfl rfl (g := (mkF m 12 #[.val (.ref o1)] [(.ref b2), (.ref o1)])) rfl rfl (hb hby d0_12)
  have N19 := Fr.snoc X19 N3 g_o1
  have Fw19 := f17.same W19
  have M19 : h0.size ≤ h19.size := Nat.le_trans M3 (Nat.le_of_eq W19.size.symm)
  have O19 := Old.wr O3 W19 g_o1
  obtain ⟨T20, h20, X20, e20, E20, A20, D20, -, st20⟩ := newO X19 hx hZ hown (own_w hw 9 rfl) (own_w hw 10 rfl) (own_w hw 11 rfl) e19 (g := (mkF m 16 #[.val (.ref o1)] [(.ref o1)])) rfl (hb hby d0_16) (by decide) (by decide)
  obtain ⟨b20, g20⟩ : ∃ z, z = h19.size := ⟨_, rfl⟩
  rw [← g20] at A20 D20 st20
  have M20 : h0.size ≤ h20.size := Nat.le_trans M19 E20.1
  have O20 := Old.ext O19 E20
  have sz_b20 : h19.size ≤ b20 := Nat.le_of_eq g20.symm
  have g_b20 : n0 ≤ b20 := Nat.le_trans (own_oz O0) (Nat.le_trans M19 sz_b20)
  have F20_19 : Fld Z h20 b20 "com/example/mycelia/mycelia/wire/MessageTree$IntRecords" "blocks" "[[I" .null := D20 (Or.inl (own_w hw 19 rfl)) (ty := (.array (.array .int))) (by decide)
  have F20_98 : Fld Z h20 b20 "com/example/mycelia/mycelia/wire/MessageTree$IntRecords" "size" "I" (.int 0) := D20 (Or.inl (own_w hw 98 rfl)) (ty := .int) (by decide)
  have F20_102 : Fld Z h20 b20 "com/example/mycelia/mycelia/wire/MessageTree$IntRecords" "heap" "J" (.long 0) := D20 (Or.inl (own_w hw 102 rfl)) (ty := .long) (by decide)
  obtain ⟨_, T21, L21, X21, hQ21, st21⟩ := own_sr X20 hx hZ hown (y := yn0) (own_w hw 12 rfl) (own_w hw 13 rfl) (own_w hw 14 rfl) (own_w hw 11 rfl) e20 (a := b20) (argsL := []) (rest := [(.ref b20), (.ref o1)]) (rm1 l Z a0 hw [] b20 h20 n0 O20 g_b20 A20 F20_19 F20_102 F20_98) (g := (mkF m 20 #[.val (.ref o1)] [(.ref b20), (.ref b20), (.ref o1)])) rfl (by rw [hml]; rfl) rfl (hb hby d0_20) (lenOf pd0 rfl) (W := 2) (c1 := 4) (s1 := 8)
  obtain ⟨b22, k23, rfl, Nq24, K25, sz_b22, OV26, f27, f28, f29, f30, f31, f32⟩ := hQ21
  have N21 := Fr.app N19 Nq24
  have g_b22 : n0 ≤ b22 := Nat.le_trans (own_oz O20) sz_b22
  have M21 : h0.size ≤ T21.heap.size := Nat.le_trans M20 K25.1
  have O21 := Old.keep O20 K25 (allS g_b20 all0)
  have lt33 : o1 < h19.size := (Nat.lt_of_lt_of_le (Nat.lt_of_lt_of_le (Nat.lt_of_lt_of_le P0.lt E2.1) K7.1) (Nat.le_of_eq W19.size.symm))
  have ne34 : o1 ≠ b20 := Nat.ne_of_lt (Nat.lt_of_lt_of_le lt33 sz_b20)
  have f35 := (((((P1.ext E2).keep K7 (ninS ne16 nin0)).other W19 (Or.inr (slot_ne (Or.inr (own_w hw 23 rfl)) (Or.inr (own_w hw 21 rfl)) (by decide) (t := (.object "com/example/mycelia/mycelia/wire/MessageTree$IntRecords")) (t' := (.object "com/example/mycelia/mycelia/wire/MessageTree$IntRecords")) (by decide) (by decide)))).ext E20).keep K25 (ninS ne34 nin0))
  have f36 := (((f18.wr W19).ext E20).keep K25)
  obtain ⟨T37, h37, X37, e37, W37, st37⟩ := putF X21 hx hZ hown (host := "") (Or.inl (own_w hw 22 rfl)) Via.refl rfl f35 f36 (Or.inr ⟨(own_w hw 23 rfl), rfl, hnm⟩) (own_w hw 1 rfl) (ty := (.object "com/example/mycelia/mycelia/wire/MessageTree$IntRecords")) (by decide) rfl rfl (g := (mkF m 23 #[.val (.ref o1)] [(.ref b20), (.ref o1)])) rfl rfl (hb hby d0_23)
  have N37 := Fr.snoc X37 N21 g_o1
  have Fw37 := f35.same W37
  have M37 : h0.size ≤ h37.size := Nat.le_trans M21 (Nat.le_of_eq W37.size.symm)
  have O37 := Old.wr O21 W37 g_o1
  obtain ⟨T38, h38, X38, e38, E38, A38, D38, -, st38⟩ := newO X37 hx hZ hown (own_w hw 24 rfl) (own_w hw 25 rfl) (own_w hw 26 rfl) e37 (g := (mkF m 27 #[.val (.ref o1)] [(.ref o1)])) rfl (hb hby d0_27) (by decide) (by decide)
  obtain ⟨b38, g38⟩ : ∃ z, z = h37.size := ⟨_, rfl⟩
  rw [← g38] at A38 D38 st38
  have M38 : h0.size ≤ h38.size := Nat.le_trans M37 E38.1
  have O38 := Old.ext O37 E38
  have sz_b38 : h37.size ≤ b38 := Nat.le_of_eq g38.symm
  have g_b38 : n0 ≤ b38 := Nat.le_trans (own_oz O0) (Nat.le_trans M37 sz_b38)
  have F38_41 : Fld Z h38 b38 "java/lang/AbstractStringBuilder" "value" "[B" .null := D38 (Or.inl (own_w hw 41 rfl)) (ty := (.array .byte)) (by decide)
  have F38_43 : Fld Z h38 b38 "java/lang/AbstractStringBuilder" "coder" "B" (.int 0) := D38 (Or.inl (own_w hw 43 rfl)) (ty := .byte) (by decide)
  obtain ⟨_, T39, L39, X39, hQ39, st39⟩ := own_sb X38 hx hZ hown (y := yn2) (own_w hw 27 rfl) (own_w hw 28 rfl) (own_w hw 29 rfl) (own_w hw 26 rfl) e38 (a := b38) (argsL := []) (rest := [(.ref b38), (.ref o1)]) (rm3 l Z a0 hw w1 w2 kw1 kw2 gi1 G [] b38 h38 n0 O38 g_b38 A38 F38_43 F38_41) (g := (mkF m 31 #[.val (.ref o1)] [(.ref b38), (.ref b38), (.ref o1)])) rfl (by rw [hml]; rfl) rfl (hb hby d0_31) (lenOf pd0 rfl) (W := 2) (c1 := 6) (s1 := 28)
  obtain ⟨b40, k41, rfl, Nq42, K43, sz_b40, f44, f45, f46, f47, f48⟩ := hQ39
  have N39 := Fr.app N37 Nq42
  have g_b40 : n0 ≤ b40 := Nat.le_trans (own_oz O38) sz_b40
  have M39 : h0.size ≤ T39.heap.size := Nat.le_trans M38 K43.1
  have O39 := Old.keep O38 K43 (allS g_b38 all0)
  have lt49 : o1 < h37.size := (Nat.lt_of_lt_of_le (Nat.lt_of_lt_of_le (Nat.lt_of_lt_of_le (Nat.lt_of_lt_of_le (Nat.lt_of_lt_of_le (Nat.lt_of_lt_of_le P0.lt E2.1) K7.1) (Nat.le_of_eq W19.size.symm)) E20.1) K25.1) (Nat.le_of_eq W37.size.symm))
  have ne50 : o1 ≠ b38 := Nat.ne_of_lt (Nat.lt_of_lt_of_le lt49 sz_b38)
  have f51 := ((((((((P8.ext E2).keep K7 (ninS ne16 nin0)).other W19 (Or.inr (slot_ne (Or.inr (own_w hw 45 rfl)) (Or.inr (own_w hw 21 rfl)) (by decide) (t := (.object "java/lang/StringBuilder")) (t' := (.object "com/example/mycelia/mycelia/wire/MessageTree$IntRecords")) (by decide) (by decide)))).ext E20).keep K25 (ninS ne34 nin0)).other W37 (Or.inr (slot_ne (Or.inr (own_w hw 45 rfl)) (Or.inr (own_w hw 23 rfl)) (by decide) (t := (.object "java/lang/StringBuilder")) (t' := (.object "com/example/mycelia/mycelia/wire/MessageTree$IntRecords")) (by decide) (by decide)))).ext E38).keep K43 (ninS ne50 nin0))
  have f52 := (((f36.wr W37).ext E38).keep K43)
  obtain ⟨T53, h53, X53, e53, W53, st53⟩ := putF X39 hx hZ hown (host := "") (Or.inl (own_w hw 44 rfl)) Via.refl rfl f51 f52 (Or.inr ⟨(own_w hw 45 rfl), rfl, hnm⟩) (own_w hw 1 rfl) (ty := (.object "java/lang/StringBuilder")) (by decide) rfl rfl (g := (mkF m 34 #[.val (.ref o1)] [(.ref b38), (.ref o1)])) rfl rfl (hb hby d0_34)
  have N53 := Fr.snoc X53 N39 g_o1
  have Fw53 := f51.same W53
  have M53 : h0.size ≤ h53.size := Nat.le_trans M39 (Nat.le_of_eq W53.size.symm)
  have O53 := Old.wr O39 W53 g_o1
  obtain ⟨T54, h54, X54, e54, E54, A54, D54, -, st54⟩ := newO X53 hx hZ hown (own_w hw 24 rfl) (own_w hw 25 rfl) (own_w hw 26 rfl) e53 (g := (mkF m 38 #[.val (.ref o1)] [(.ref o1)])) rfl (hb hby d0_38) (by decide) (by decide)
  obtain ⟨b54, g54⟩ : ∃ z, z = h53.size := ⟨_, rfl⟩
  rw [← g54] at A54 D54 st54
  have M54 : h0.size ≤ h54.size := Nat.le_trans M53 E54.1
  have O54 := Old.ext O53 E54
  have sz_b54 : h53.size ≤ b54 := Nat.le_of_eq g54.symm
  have g_b54 : n0 ≤ b54 := Nat.le_trans (own_oz O0) (Nat.le_trans M53 sz_b54)
  have F54_41 : Fld Z h54 b54 "java/lang/AbstractStringBuilder" "value" "[B" .null := D54 (Or.inl (own_w hw 41 rfl)) (ty := (.array .byte)) (by decide)
  have F54_43 : Fld Z h54 b54 "java/lang/AbstractStringBuilder" "coder" "B" (.int 0) := D54 (Or.inl (own_w hw 43 rfl)) (ty := .byte) (by decide)
  obtain ⟨_, T55, L55, X55, hQ55, st55⟩ := own_sb X54 hx hZ hown (y := yn2) (own_w hw 27 rfl) (own_w hw 28 rfl) (own_w hw 29 rfl) (own_w hw 26 rfl) e54 (a := b54) (argsL := []) (rest := [(.ref b54), (.ref o1)]) (rm3 l Z a0 hw w1 w2 kw1 kw2 gi1 G [] b54 h54 n0 O54 g_b54 A54 F54_43 F54_41) (g := (mkF m 42 #[.val (.ref o1)] [(.ref b54), (.ref b54), (.ref o1)])) rfl (by rw [hml]; rfl) rfl (hb hby d0_42) (lenOf pd0 rfl) (W := 2) (c1 := 8) (s1 := 48)
  obtain ⟨b56, k57, rfl, Nq58, K59, sz_b56, f60, f61, f62, f63, f64⟩ := hQ55
  have N55 := Fr.app N53 Nq58
  have g_b56 : n0 ≤ b56 := Nat.le_trans (own_oz O54) sz_b56
  have M55 : h0.size ≤ T55.heap.size := Nat.le_trans M54 K59.1
  have O55 := Old.keep O54 K59 (allS g_b54 all0)
  have lt65 : o1 < h53.size := (Nat.lt_of_lt_of_le (Nat.lt_of_lt_of_le (Nat.lt_of_lt_of_le (Nat.lt_of_lt_of_le (Nat.lt_of_lt_of_le (Nat.lt_of_lt_of_le (Nat.lt_of_lt_of_le (Nat.lt_of_lt_of_le (Nat.lt_of_lt_of_le P0.lt E2.1) K7.1) (Nat.le_of_eq W19.size.symm)) E20.1) K25.1) (Nat.le_of_eq W37.size.symm)) E38.1) K43.1) (Nat.le_of_eq W53.size.symm))
  have ne66 : o1 ≠ b54 := Nat.ne_of_lt (Nat.lt_of_lt_of_le lt65 sz_b54)
  have f67 := (((((((((((P9.ext E2).keep K7 (ninS ne16 nin0)).other W19 (Or.inr (slot_ne (Or.inr (own_w hw 47 rfl)) (Or.inr (own_w hw 21 rfl)) (by decide) (t := (.object "java/lang/StringBuilder")) (t' := (.object "com/example/mycelia/mycelia/wire/MessageTree$IntRecords")) (by decide) (by decide)))).ext E20).keep K25 (ninS ne34 nin0)).other W37 (Or.inr (slot_ne (Or.inr (own_w hw 47 rfl)) (Or.inr (own_w hw 23 rfl)) (by decide) (t := (.object "java/lang/StringBuilder")) (t' := (.object "com/example/mycelia/mycelia/wire/MessageTree$IntRecords")) (by decide) (by decide)))).ext E38).keep K43 (ninS ne50 nin0)).other W53 (Or.inr (slot_ne (Or.inr (own_w hw 47 rfl)) (Or.inr (own_w hw 45 rfl)) (by decide) (t := (.object "java/lang/StringBuilder")) (t' := (.object "java/lang/StringBuilder")) (by decide) (by decide)))).ext E54).keep K59 (ninS ne66 nin0))
  have f68 := (((f52.wr W53).ext E54).keep K59)
  obtain ⟨T69, h69, X69, e69, W69, st69⟩ := putF X55 hx hZ hown (host := "") (Or.inl (own_w hw 46 rfl)) Via.refl rfl f67 f68 (Or.inr ⟨(own_w hw 47 rfl), rfl, hnm⟩) (own_w hw 1 rfl) (ty := (.object "java/lang/StringBuilder")) (by decide) rfl rfl (g := (mkF m 45 #[.val (.ref o1)] [(.ref b54), (.ref o1)])) rfl rfl (hb hby d0_45)
  have N69 := Fr.snoc X69 N55 g_o1
  have Fw69 := f67.same W69
  have M69 : h0.size ≤ h69.size := Nat.le_trans M55 (Nat.le_of_eq W69.size.symm)
  have O69 := Old.wr O55 W69 g_o1
  obtain ⟨T70, h70, X70, e70, E70, A70, D70, -, st70⟩ := newO X69 hx hZ hown (own_w hw 48 rfl) (own_w hw 49 rfl) (own_w hw 50 rfl) e69 (g := (mkF m 49 #[.val (.ref o1)] [(.ref o1)])) rfl (hb hby d0_49) (by decide) (by decide)
  obtain ⟨b70, g70⟩ : ∃ z, z = h69.size := ⟨_, rfl⟩
  rw [← g70] at A70 D70 st70
  have M70 : h0.size ≤ h70.size := Nat.le_trans M69 E70.1
  have O70 := Old.ext O69 E70
  have sz_b70 : h69.size ≤ b70 := Nat.le_of_eq g70.symm
  have g_b70 : n0 ≤ b70 := Nat.le_trans (own_oz O0) (Nat.le_trans M69 sz_b70)
  have F70_68 : Fld Z h70 b70 "java/util/AbstractList" "modCount" "I" (.int 0) := D70 (Or.inl (own_w hw 68 rfl)) (ty := .int) (by decide)
  have F70_71 : Fld Z h70 b70 "java/util/ArrayList" "elementData" "[Ljava/lang/Object;" .null := D70 (Or.inl (own_w hw 71 rfl)) (ty := (.array (.object "java/lang/Object"))) (by decide)
  have F70_145 : Fld Z h70 b70 "java/util/ArrayList" "size" "I" (.int 0) := D70 (Or.inl (own_w hw 145 rfl)) (ty := .int) (by decide)
  obtain ⟨_, T71, L71, X71, hQ71, st71⟩ := own_sb X70 hx hZ hown (y := yn5) (own_w hw 51 rfl) (own_w hw 52 rfl) (own_w hw 53 rfl) (own_w hw 50 rfl) e70 (a := b70) (argsL := []) (rest := [(.ref b70), (.ref o1)]) (rm6 l Z a0 hw w1 w2 kw1 kw2 gi1 G [] b70 h70 n0 O70 g_b70 A70 F70_68 F70_71 F70_145) (g := (mkF m 53 #[.val (.ref o1)] [(.ref b70), (.ref b70), (.ref o1)])) rfl (by rw [hml]; rfl) rfl (hb hby d0_53) (lenOf pd0 rfl) (W := 2) (c1 := 9) (s1 := 51)
  obtain ⟨rfl, Nq72, K73, f74, f75, f76, f77⟩ := hQ71
  have N71 := Fr.app N69 Nq72
  have M71 : h0.size ≤ T71.heap.size := Nat.le_trans M70 K73.1
  have O71 := Old.keep O70 K73 (allS g_b70 all0)
  have lt78 : o1 < h69.size := (Nat.lt_of_lt_of_le (Nat.lt_of_lt_of_le (Nat.lt_of_lt_of_le (Nat.lt_of_lt_of_le (Nat.lt_of_lt_of_le (Nat.lt_of_lt_of_le (Nat.lt_of_lt_of_le (Nat.lt_of_lt_of_le (Nat.lt_of_lt_of_le (Nat.lt_of_lt_of_le (Nat.lt_of_lt_of_le (Nat.lt_of_lt_of_le P0.lt E2.1) K7.1) (Nat.le_of_eq W19.size.symm)) E20.1) K25.1) (Nat.le_of_eq W37.size.symm)) E38.1) K43.1) (Nat.le_of_eq W53.size.symm)) E54.1) K59.1) (Nat.le_of_eq W69.size.symm))
  have ne79 : o1 ≠ b70 := Nat.ne_of_lt (Nat.lt_of_lt_of_le lt78 sz_b70)
  have f80 := ((((((((((((((P5.ext E2).keep K7 (ninS ne16 nin0)).other W19 (Or.inr (slot_ne (Or.inr (own_w hw 73 rfl)) (Or.inr (own_w hw 21 rfl)) (by decide) (t := (.object "java/util/List")) (t' := (.object "com/example/mycelia/mycelia/wire/MessageTree$IntRecords")) (by decide) (by decide)))).ext E20).keep K25 (ninS ne34 nin0)).other W37 (Or.inr (slot_ne (Or.inr (own_w hw 73 rfl)) (Or.inr (own_w hw 23 rfl)) (by decide) (t := (.object "java/util/List")) (t' := (.object "com/example/mycelia/mycelia/wire/MessageTree$IntRecords")) (by decide) (by decide)))).ext E38).keep K43 (ninS ne50 nin0)).other W53 (Or.inr (slot_ne (Or.inr (own_w hw 73 rfl)) (Or.inr (own_w hw 45 rfl)) (by decide) (t := (.object "java/util/List")) (t' := (.object "java/lang/StringBuilder")) (by decide) (by decide)))).ext E54).keep K59 (ninS ne66 nin0)).other W69 (Or.inr (slot_ne (Or.inr (own_w hw 73 rfl)) (Or.inr (own_w hw 47 rfl)) (by decide) (t := (.object "java/util/List")) (t' := (.object "java/lang/StringBuilder")) (by decide) (by decide)))).ext E70).keep K73 (ninS ne79 nin0))
  have f81 := (((f68.wr W69).ext E70).keep K73)
  obtain ⟨T82, h82, X82, e82, W82, st82⟩ := putF X71 hx hZ hown (host := "") (Or.inl (own_w hw 72 rfl)) Via.refl rfl f80 f81 (Or.inr ⟨(own_w hw 73 rfl), rfl, hnm⟩) (own_w hw 1 rfl) (ty := (.object "java/util/List")) (by decide) rfl rfl (g := (mkF m 56 #[.val (.ref o1)] [(.ref b70), (.ref o1)])) rfl rfl (hb hby d0_56)
  have N82 := Fr.snoc X82 N71 g_o1
  have Fw82 := f80.same W82
  have M82 : h0.size ≤ h82.size := Nat.le_trans M71 (Nat.le_of_eq W82.size.symm)
  have O82 := Old.wr O71 W82 g_o1
  obtain ⟨T83, h83, X83, e83, E83, A83, D83, -, st83⟩ := newO X82 hx hZ hown (own_w hw 74 rfl) (own_w hw 75 rfl) (own_w hw 76 rfl) e82 (g := (mkF m 60 #[.val (.ref o1)] [(.ref o1)])) rfl (hb hby d0_60) (by decide) (by decide)
  obtain ⟨b83, g83⟩ : ∃ z, z = h82.size := ⟨_, rfl⟩
  rw [← g83] at A83 D83 st83
  have M83 : h0.size ≤ h83.size := Nat.le_trans M82 E83.1
  have O83 := Old.ext O82 E83
  have sz_b83 : h82.size ≤ b83 := Nat.le_of_eq g83.symm
  have g_b83 : n0 ≤ b83 := Nat.le_trans (own_oz O0) (Nat.le_trans M82 sz_b83)
  have F83_89 : Fld Z h83 b83 "java/util/HashMap" "loadFactor" "F" (.float (0 : UInt32)) := D83 (Or.inr (own_w hw 89 rfl)) (ty := .float) (by decide)
  obtain ⟨_, T84, L84, X84, hQ84, st84⟩ := own_sb X83 hx hZ hown (y := yn7) (own_w hw 77 rfl) (own_w hw 78 rfl) (own_w hw 79 rfl) (own_w hw 76 rfl) e83 (a := b83) (argsL := []) (rest := [(.ref b83), (.ref o1)]) (rm8 l Z a0 hw [] b83 h83 n0 O83 g_b83 A83 F83_89) (g := (mkF m 64 #[.val (.ref o1)] [(.ref b83), (.ref b83), (.ref o1)])) rfl (by rw [hml]; rfl) rfl (hb hby d0_64) (lenOf pd0 rfl) (W := 2) (c1 := 10) (s1 := 59)
  obtain ⟨rfl, Nq85, K86, f87, f88⟩ := hQ84
  have N84 := Fr.app N82 Nq85
  have M84 : h0.size ≤ T84.heap.size := Nat.le_trans M83 K86.1
  have O84 := Old.keep O83 K86 (allS g_b83 all0)
  have lt89 : o1 < h82.size := (Nat.lt_of_lt_of_le (Nat.lt_of_lt_of_le (Nat.lt_of_lt_of_le (Nat.lt_of_lt_of_le (Nat.lt_of_lt_of_le (Nat.lt_of_lt_of_le (Nat.lt_of_lt_of_le (Nat.lt_of_lt_of_le (Nat.lt_of_lt_of_le (Nat.lt_of_lt_of_le (Nat.lt_of_lt_of_le (Nat.lt_of_lt_of_le (Nat.lt_of_lt_of_le (Nat.lt_of_lt_of_le (Nat.lt_of_lt_of_le P0.lt E2.1) K7.1) (Nat.le_of_eq W19.size.symm)) E20.1) K25.1) (Nat.le_of_eq W37.size.symm)) E38.1) K43.1) (Nat.le_of_eq W53.size.symm)) E54.1) K59.1) (Nat.le_of_eq W69.size.symm)) E70.1) K73.1) (Nat.le_of_eq W82.size.symm))
  have ne90 : o1 ≠ b83 := Nat.ne_of_lt (Nat.lt_of_lt_of_le lt89 sz_b83)
  have f91 := (((((((((((((((((P2.ext E2).keep K7 (ninS ne16 nin0)).other W19 (Or.inr (slot_ne (Or.inr (own_w hw 91 rfl)) (Or.inr (own_w hw 21 rfl)) (by decide) (t := (.object "java/util/Map")) (t' := (.object "com/example/mycelia/mycelia/wire/MessageTree$IntRecords")) (by decide) (by decide)))).ext E20).keep K25 (ninS ne34 nin0)).other W37 (Or.inr (slot_ne (Or.inr (own_w hw 91 rfl)) (Or.inr (own_w hw 23 rfl)) (by decide) (t := (.object "java/util/Map")) (t' := (.object "com/example/mycelia/mycelia/wire/MessageTree$IntRecords")) (by decide) (by decide)))).ext E38).keep K43 (ninS ne50 nin0)).other W53 (Or.inr (slot_ne (Or.inr (own_w hw 91 rfl)) (Or.inr (own_w hw 45 rfl)) (by decide) (t := (.object "java/util/Map")) (t' := (.object "java/lang/StringBuilder")) (by decide) (by decide)))).ext E54).keep K59 (ninS ne66 nin0)).other W69 (Or.inr (slot_ne (Or.inr (own_w hw 91 rfl)) (Or.inr (own_w hw 47 rfl)) (by decide) (t := (.object "java/util/Map")) (t' := (.object "java/lang/StringBuilder")) (by decide) (by decide)))).ext E70).keep K73 (ninS ne79 nin0)).other W82 (Or.inr (slot_ne (Or.inr (own_w hw 91 rfl)) (Or.inr (own_w hw 73 rfl)) (by decide) (t := (.object "java/util/Map")) (t' := (.object "java/util/List")) (by decide) (by decide)))).ext E83).keep K86 (ninS ne90 nin0))
  have f92 := (((f81.wr W82).ext E83).keep K86)
  obtain ⟨T93, h93, X93, e93, W93, st93⟩ := putF X84 hx hZ hown (host := "") (Or.inl (own_w hw 90 rfl)) Via.refl rfl f91 f92 (Or.inr ⟨(own_w hw 91 rfl), rfl, hnm⟩) (own_w hw 1 rfl) (ty := (.object "java/util/Map")) (by decide) rfl rfl (g := (mkF m 67 #[.val (.ref o1)] [(.ref b83), (.ref o1)])) rfl rfl (hb hby d0_67)
  have N93 := Fr.snoc X93 N84 g_o1
  have Fw93 := f91.same W93
  have M93 : h0.size ≤ h93.size := Nat.le_trans M84 (Nat.le_of_eq W93.size.symm)
  have O93 := Old.wr O84 W93 g_o1
  have f94 := (((((((((((((((Fw19.ext E20).keep K25 (ninS ne34 nin0)).other W37 (Or.inr (slot_ne (Or.inr (own_w hw 21 rfl)) (Or.inr (own_w hw 23 rfl)) (by decide) (t := (.object "com/example/mycelia/mycelia/wire/MessageTree$IntRecords")) (t' := (.object "com/example/mycelia/mycelia/wire/MessageTree$IntRecords")) (by decide) (by decide)))).ext E38).keep K43 (ninS ne50 nin0)).other W53 (Or.inr (slot_ne (Or.inr (own_w hw 21 rfl)) (Or.inr (own_w hw 45 rfl)) (by decide) (t := (.object "com/example/mycelia/mycelia/wire/MessageTree$IntRecords")) (t' := (.object "java/lang/StringBuilder")) (by decide) (by decide)))).ext E54).keep K59 (ninS ne66 nin0)).other W69 (Or.inr (slot_ne (Or.inr (own_w hw 21 rfl)) (Or.inr (own_w hw 47 rfl)) (by decide) (t := (.object "com/example/mycelia/mycelia/wire/MessageTree$IntRecords")) (t' := (.object "java/lang/StringBuilder")) (by decide) (by decide)))).ext E70).keep K73 (ninS ne79 nin0)).other W82 (Or.inr (slot_ne (Or.inr (own_w hw 21 rfl)) (Or.inr (own_w hw 73 rfl)) (by decide) (t := (.object "com/example/mycelia/mycelia/wire/MessageTree$IntRecords")) (t' := (.object "java/util/List")) (by decide) (by decide)))).ext E83).keep K86 (ninS ne90 nin0)).other W93 (Or.inr (slot_ne (Or.inr (own_w hw 21 rfl)) (Or.inr (own_w hw 91 rfl)) (by decide) (t := (.object "com/example/mycelia/mycelia/wire/MessageTree$IntRecords")) (t' := (.object "java/util/Map")) (by decide) (by decide))))
  obtain ⟨T95, X95, e95, st95⟩ := getF X93 hx hZ hown (host := "") (Or.inl (own_w hw 20 rfl)) Via.refl e93 f94 (g := (mkF m 72 #[.val (.ref o1)] [(.ref o1), (.ref o1)])) rfl rfl (hb hby d0_72)
  have f96 := ((((((((((((((((f9.wr W19).ext E20).keep K25).wr W37).ext E38).keep K43).wr W53).ext E54).keep K59).wr W69).ext E70).keep K73).wr W82).ext E83).keep K86).wr W93)
  have lt97 : b2 < h19.size := (Nat.lt_of_lt_of_le (Nat.lt_of_lt_of_le A2.lt K7.1) (Nat.le_of_eq W19.size.symm))
  have ne98 : b2 ≠ b20 := Nat.ne_of_lt (Nat.lt_of_lt_of_le lt97 sz_b20)
  have lt99 : b2 < h37.size := (Nat.lt_of_lt_of_le (Nat.lt_of_lt_of_le (Nat.lt_of_lt_of_le (Nat.lt_of_lt_of_le (Nat.lt_of_lt_of_le A2.lt K7.1) (Nat.le_of_eq W19.size.symm)) E20.1) K25.1) (Nat.le_of_eq W37.size.symm))
  have ne100 : b2 ≠ b38 := Nat.ne_of_lt (Nat.lt_of_lt_of_le lt99 sz_b38)
  have lt101 : b2 < h53.size := (Nat.lt_of_lt_of_le (Nat.lt_of_lt_of_le (Nat.lt_of_lt_of_le (Nat.lt_of_lt_of_le (Nat.lt_of_lt_of_le (Nat.lt_of_lt_of_le (Nat.lt_of_lt_of_le (Nat.lt_of_lt_of_le A2.lt K7.1) (Nat.le_of_eq W19.size.symm)) E20.1) K25.1) (Nat.le_of_eq W37.size.symm)) E38.1) K43.1) (Nat.le_of_eq W53.size.symm))
  have ne102 : b2 ≠ b54 := Nat.ne_of_lt (Nat.lt_of_lt_of_le lt101 sz_b54)
  have lt103 : b2 < h69.size := (Nat.lt_of_lt_of_le (Nat.lt_of_lt_of_le (Nat.lt_of_lt_of_le (Nat.lt_of_lt_of_le (Nat.lt_of_lt_of_le (Nat.lt_of_lt_of_le (Nat.lt_of_lt_of_le (Nat.lt_of_lt_of_le (Nat.lt_of_lt_of_le (Nat.lt_of_lt_of_le (Nat.lt_of_lt_of_le A2.lt K7.1) (Nat.le_of_eq W19.size.symm)) E20.1) K25.1) (Nat.le_of_eq W37.size.symm)) E38.1) K43.1) (Nat.le_of_eq W53.size.symm)) E54.1) K59.1) (Nat.le_of_eq W69.size.symm))
  have ne104 : b2 ≠ b70 := Nat.ne_of_lt (Nat.lt_of_lt_of_le lt103 sz_b70)
  have lt105 : b2 < h82.size := (Nat.lt_of_lt_of_le (Nat.lt_of_lt_of_le (Nat.lt_of_lt_of_le (Nat.lt_of_lt_of_le (Nat.lt_of_lt_of_le (Nat.lt_of_lt_of_le (Nat.lt_of_lt_of_le (Nat.lt_of_lt_of_le (Nat.lt_of_lt_of_le (Nat.lt_of_lt_of_le (Nat.lt_of_lt_of_le (Nat.lt_of_lt_of_le (Nat.lt_of_lt_of_le (Nat.lt_of_lt_of_le A2.lt K7.1) (Nat.le_of_eq W19.size.symm)) E20.1) K25.1) (Nat.le_of_eq W37.size.symm)) E38.1) K43.1) (Nat.le_of_eq W53.size.symm)) E54.1) K59.1) (Nat.le_of_eq W69.size.symm)) E70.1) K73.1) (Nat.le_of_eq W82.size.symm))
  have ne106 : b2 ≠ b83 := Nat.ne_of_lt (Nat.lt_of_lt_of_le lt105 sz_b83)
  have f107 := ((((((((((((((((f10.other W19 (Or.inl (Ne.symm ne16))).ext E20).keep K25 (ninS ne98 nin0)).other W37 (Or.inl (Ne.symm ne16))).ext E38).keep K43 (ninS ne100 nin0)).other W53 (Or.inl (Ne.symm ne16))).ext E54).keep K59 (ninS ne102 nin0)).other W69 (Or.inl (Ne.symm ne16))).ext E70).keep K73 (ninS ne104 nin0)).other W82 (Or.inl (Ne.symm ne16))).ext E83).keep K86 (ninS ne106 nin0)).other W93 (Or.inl (Ne.symm ne16)))
  have f108 := ((((((((((((((((f11.other W19 (Or.inl (Ne.symm ne16))).ext E20).keep K25 (ninS ne98 nin0)).other W37 (Or.inl (Ne.symm ne16))).ext E38).keep K43 (ninS ne100 nin0)).other W53 (Or.inl (Ne.symm ne16))).ext E54).keep K59 (ninS ne102 nin0)).other W69 (Or.inl (Ne.symm ne16))).ext E70).keep K73 (ninS ne104 nin0)).other W82 (Or.inl (Ne.symm ne16))).ext E83).keep K86 (ninS ne106 nin0)).other W93 (Or.inl (Ne.symm ne16)))
  have f109 := ((((((((((((((((f12.other W19 (Or.inl (Ne.symm ne16))).ext E20).keep K25 (ninS ne98 nin0)).other W37 (Or.inl (Ne.symm ne16))).ext E38).keep K43 (ninS ne100 nin0)).other W53 (Or.inl (Ne.symm ne16))).ext E54).keep K59 (ninS ne102 nin0)).other W69 (Or.inl (Ne.symm ne16))).ext E70).keep K73 (ninS ne104 nin0)).other W82 (Or.inl (Ne.symm ne16))).ext E83).keep K86 (ninS ne106 nin0)).other W93 (Or.inl (Ne.symm ne16)))
  have lt110 : o1 < h2.size := (Nat.lt_of_lt_of_le P0.lt E2.1)
  have ne111 : o1 ≠ b4 := Nat.ne_of_lt (Nat.lt_of_lt_of_le lt110 sz_b4)
  have lt112 : b4 < h19.size := (Nat.lt_of_lt_of_le f13.lt (Nat.le_of_eq W19.size.symm))
  have ne113 : b4 ≠ b20 := Nat.ne_of_lt (Nat.lt_of_lt_of_le lt112 sz_b20)
  have lt114 : b4 < h37.size := (Nat.lt_of_lt_of_le (Nat.lt_of_lt_of_le (Nat.lt_of_lt_of_le (Nat.lt_of_lt_of_le f13.lt (Nat.le_of_eq W19.size.symm)) E20.1) K25.1) (Nat.le_of_eq W37.size.symm))
  have ne115 : b4 ≠ b38 := Nat.ne_of_lt (Nat.lt_of_lt_of_le lt114 sz_b38)
  have lt116 : b4 < h53.size := (Nat.lt_of_lt_of_le (Nat.lt_of_lt_of_le (Nat.lt_of_lt_of_le (Nat.lt_of_lt_of_le (Nat.lt_of_lt_of_le (Nat.lt_of_lt_of_le (Nat.lt_of_lt_of_le f13.lt (Nat.le_of_eq W19.size.symm)) E20.1) K25.1) (Nat.le_of_eq W37.size.symm)) E38.1) K43.1) (Nat.le_of_eq W53.size.symm))
  have ne117 : b4 ≠ b54 := Nat.ne_of_lt (Nat.lt_of_lt_of_le lt116 sz_b54)
  have lt118 : b4 < h69.size := (Nat.lt_of_lt_of_le (Nat.lt_of_lt_of_le (Nat.lt_of_lt_of_le (Nat.lt_of_lt_of_le (Nat.lt_of_lt_of_le (Nat.lt_of_lt_of_le (Nat.lt_of_lt_of_le (Nat.lt_of_lt_of_le (Nat.lt_of_lt_of_le (Nat.lt_of_lt_of_le f13.lt (Nat.le_of_eq W19.size.symm)) E20.1) K25.1) (Nat.le_of_eq W37.size.symm)) E38.1) K43.1) (Nat.le_of_eq W53.size.symm)) E54.1) K59.1) (Nat.le_of_eq W69.size.symm))
  have ne119 : b4 ≠ b70 := Nat.ne_of_lt (Nat.lt_of_lt_of_le lt118 sz_b70)
  have lt120 : b4 < h82.size := (Nat.lt_of_lt_of_le (Nat.lt_of_lt_of_le (Nat.lt_of_lt_of_le (Nat.lt_of_lt_of_le (Nat.lt_of_lt_of_le (Nat.lt_of_lt_of_le (Nat.lt_of_lt_of_le (Nat.lt_of_lt_of_le (Nat.lt_of_lt_of_le (Nat.lt_of_lt_of_le (Nat.lt_of_lt_of_le (Nat.lt_of_lt_of_le (Nat.lt_of_lt_of_le f13.lt (Nat.le_of_eq W19.size.symm)) E20.1) K25.1) (Nat.le_of_eq W37.size.symm)) E38.1) K43.1) (Nat.le_of_eq W53.size.symm)) E54.1) K59.1) (Nat.le_of_eq W69.size.symm)) E70.1) K73.1) (Nat.le_of_eq W82.size.symm))
  have ne121 : b4 ≠ b83 := Nat.ne_of_lt (Nat.lt_of_lt_of_le lt120 sz_b83)
  have f122 := ((((((((((((((((f13.other W19 (Ne.symm ne111)).ext E20).keep K25 (ninS ne113 nin0)).other W37 (Ne.symm ne111)).ext E38).keep K43 (ninS ne115 nin0)).other W53 (Ne.symm ne111)).ext E54).keep K59 (ninS ne117 nin0)).other W69 (Ne.symm ne111)).ext E70).keep K73 (ninS ne119 nin0)).other W82 (Ne.symm ne111)).ext E83).keep K86 (ninS ne121 nin0)).other W93 (Ne.symm ne111))
  have f123 := ((((((((((((((((f14.wr W19).ext E20).keep K25).wr W37).ext E38).keep K43).wr W53).ext E54).keep K59).wr W69).ext E70).keep K73).wr W82).ext E83).keep K86).wr W93)
  obtain ⟨_, T124, L124, X124, hQ124, st124⟩ := own_vb X95 hx hZ hown (y := yn8) (own_w hw 92 rfl) (own_w hw 93 rfl) (own_w hw 95 rfl) (own_w hw 94 rfl) (own_w hw 96 rfl) (own_w hw 11 rfl) e95 f96 (argsL := [(.int (-1)), (.int 0), (.int 0), (.int 0)]) (rest := [(.ref o1)]) (rm9 l Z a0 hw [] b2 b4 k5 h93 n0 O93 g_b2 g_b4 OV8 f96 f107 f108 f109 f122 f123) (g := (mkF m 79 #[.val (.ref o1)] [(.int 0), (.int 0), (.int 0), (.int (-1)), (.ref b2), (.ref o1)])) rfl (by rw [hml]; rfl) rfl (hb hby d0_79) (lenOf pd2 rfl) (W := 1) (c1 := 11) (s1 := 123)
  obtain ⟨b125, k126, rfl, Nq127, K128, sz_b125, f129, f130, f131, f132, f133, f134, f135, f136⟩ := hQ124
  have N124 := Fr.app N93 Nq127
  have g_b125 : n0 ≤ b125 := Nat.le_trans (own_oz O93) sz_b125
  have M124 : h0.size ≤ T124.heap.size := Nat.le_trans M93 K128.1
  have O124 := Old.keep O93 K128 (allS g_b4 (allS g_b2 all0))
  have f137 := (((((((((((((((((((P6.ext E2).keep K7 (ninS ne16 nin0)).other W19 (Or.inr (slot_ne (Or.inl (own_w hw 105 rfl)) (Or.inr (own_w hw 21 rfl)) (by decide) (t := .int) (t' := (.object "com/example/mycelia/mycelia/wire/MessageTree$IntRecords")) (by decide) (by decide)))).ext E20).keep K25 (ninS ne34 nin0)).other W37 (Or.inr (slot_ne (Or.inl (own_w hw 105 rfl)) (Or.inr (own_w hw 23 rfl)) (by decide) (t := .int) (t' := (.object "com/example/mycelia/mycelia/wire/MessageTree$IntRecords")) (by decide) (by decide)))).ext E38).keep K43 (ninS ne50 nin0)).other W53 (Or.inr (slot_ne (Or.inl (own_w hw 105 rfl)) (Or.inr (own_w hw 45 rfl)) (by decide) (t := .int) (t' := (.object "java/lang/StringBuilder")) (by decide) (by decide)))).ext E54).keep K59 (ninS ne66 nin0)).other W69 (Or.inr (slot_ne (Or.inl (own_w hw 105 rfl)) (Or.inr (own_w hw 47 rfl)) (by decide) (t := .int) (t' := (.object "java/lang/StringBuilder")) (by decide) (by decide)))).ext E70).keep K73 (ninS ne79 nin0)).other W82 (Or.inr (slot_ne (Or.inl (own_w hw 105 rfl)) (Or.inr (own_w hw 73 rfl)) (by decide) (t := .int) (t' := (.object "java/util/List")) (by decide) (by decide)))).ext E83).keep K86 (ninS ne90 nin0)).other W93 (Or.inr (slot_ne (Or.inl (own_w hw 105 rfl)) (Or.inr (own_w hw 91 rfl)) (by decide) (t := .int) (t' := (.object "java/util/Map")) (by decide) (by decide)))).keep K128 (ninS ne111 (ninS ne16 nin0)))
  have f138 := ((f92.wr W93).keep K128)
  obtain ⟨T139, h139, X139, e139, W139, st139⟩ := putF X124 hx hZ hown (host := "") (Or.inl (own_w hw 104 rfl)) Via.refl rfl f137 f138 (Or.inl (own_w hw 105 rfl)) (own_w hw 1 rfl) (ty := .int) (by decide) rfl rfl (g := (mkF m 82 #[.val (.ref o1)] [(.int 0), (.ref o1)])) rfl rfl (hb hby d0_82)
  have N139 := Fr.snoc X139 N124 g_o1
  have Fw139 := f137.same W139
  have M139 : h0.size ≤ h139.size := Nat.le_trans M124 (Nat.le_of_eq W139.size.symm)
  have O139 := Old.wr O124 W139 g_o1
  obtain ⟨fs, hr, hrun, hended, hW, hsame⟩ := X139.leave (v := none) (fun _ => rfl)
  have KL : Keep h0 h139 [o1] := (((((((((((((((((((((Keep.refl h0 [o1]).ext E2).trans K7 (allS (Or.inr (Nat.le_trans (Nat.le_refl _) sz_b2)) all0)).wr W19 (Or.inl (List.mem_of_getElem? (i := 0) rfl))).ext E20).trans K25 (allS (Or.inr (Nat.le_trans M19 sz_b20)) all0)).wr W37 (Or.inl (List.mem_of_getElem? (i := 0) rfl))).ext E38).trans K43 (allS (Or.inr (Nat.le_trans M37 sz_b38)) all0)).wr W53 (Or.inl (List.mem_of_getElem? (i := 0) rfl))).ext E54).trans K59 (allS (Or.inr (Nat.le_trans M53 sz_b54)) all0)).wr W69 (Or.inl (List.mem_of_getElem? (i := 0) rfl))).ext E70).trans K73 (allS (Or.inr (Nat.le_trans M69 sz_b70)) all0)).wr W82 (Or.inl (List.mem_of_getElem? (i := 0) rfl))).ext E83).trans K86 (allS (Or.inr (Nat.le_trans M82 sz_b83)) all0)).wr W93 (Or.inl (List.mem_of_getElem? (i := 0) rfl))).trans K128 (allS (Or.inr (Nat.le_trans M2 sz_b4)) (allS (Or.inr (Nat.le_trans (Nat.le_refl _) sz_b2)) all0))).wr W139 (Or.inl (List.mem_of_getElem? (i := 0) rfl)))
  have f140 := (f138.wr W139)
  have f141 := ((((((((((((((Fw37.ext E38).keep K43 (ninS ne50 nin0)).other W53 (Or.inr (slot_ne (Or.inr (own_w hw 23 rfl)) (Or.inr (own_w hw 45 rfl)) (by decide) (t := (.object "com/example/mycelia/mycelia/wire/MessageTree$IntRecords")) (t' := (.object "java/lang/StringBuilder")) (by decide) (by decide)))).ext E54).keep K59 (ninS ne66 nin0)).other W69 (Or.inr (slot_ne (Or.inr (own_w hw 23 rfl)) (Or.inr (own_w hw 47 rfl)) (by decide) (t := (.object "com/example/mycelia/mycelia/wire/MessageTree$IntRecords")) (t' := (.object "java/lang/StringBuilder")) (by decide) (by decide)))).ext E70).keep K73 (ninS ne79 nin0)).other W82 (Or.inr (slot_ne (Or.inr (own_w hw 23 rfl)) (Or.inr (own_w hw 73 rfl)) (by decide) (t := (.object "com/example/mycelia/mycelia/wire/MessageTree$IntRecords")) (t' := (.object "java/util/List")) (by decide) (by decide)))).ext E83).keep K86 (ninS ne90 nin0)).other W93 (Or.inr (slot_ne (Or.inr (own_w hw 23 rfl)) (Or.inr (own_w hw 91 rfl)) (by decide) (t := (.object "com/example/mycelia/mycelia/wire/MessageTree$IntRecords")) (t' := (.object "java/util/Map")) (by decide) (by decide)))).keep K128 (ninS ne111 (ninS ne16 nin0))).other W139 (Or.inr (slot_ne (Or.inr (own_w hw 23 rfl)) (Or.inl (own_w hw 105 rfl)) (by decide) (t := (.object "com/example/mycelia/mycelia/wire/MessageTree$IntRecords")) (t' := .int) (by decide) (by decide))))
  have f142 := ((Fw93.keep K128 (ninS ne111 (ninS ne16 nin0))).other W139 (Or.inr (slot_ne (Or.inr (own_w hw 91 rfl)) (Or.inl (own_w hw 105 rfl)) (by decide) (t := (.object "java/util/Map")) (t' := .int) (by decide) (by decide))))
  have f143 := ((((((((((((((((((((P3.ext E2).keep K7 (ninS ne16 nin0)).other W19 (Or.inr (slot_ne (Or.inl (own_w hw 148 rfl)) (Or.inr (own_w hw 21 rfl)) (by decide) (t := .int) (t' := (.object "com/example/mycelia/mycelia/wire/MessageTree$IntRecords")) (by decide) (by decide)))).ext E20).keep K25 (ninS ne34 nin0)).other W37 (Or.inr (slot_ne (Or.inl (own_w hw 148 rfl)) (Or.inr (own_w hw 23 rfl)) (by decide) (t := .int) (t' := (.object "com/example/mycelia/mycelia/wire/MessageTree$IntRecords")) (by decide) (by decide)))).ext E38).keep K43 (ninS ne50 nin0)).other W53 (Or.inr (slot_ne (Or.inl (own_w hw 148 rfl)) (Or.inr (own_w hw 45 rfl)) (by decide) (t := .int) (t' := (.object "java/lang/StringBuilder")) (by decide) (by decide)))).ext E54).keep K59 (ninS ne66 nin0)).other W69 (Or.inr (slot_ne (Or.inl (own_w hw 148 rfl)) (Or.inr (own_w hw 47 rfl)) (by decide) (t := .int) (t' := (.object "java/lang/StringBuilder")) (by decide) (by decide)))).ext E70).keep K73 (ninS ne79 nin0)).other W82 (Or.inr (slot_ne (Or.inl (own_w hw 148 rfl)) (Or.inr (own_w hw 73 rfl)) (by decide) (t := .int) (t' := (.object "java/util/List")) (by decide) (by decide)))).ext E83).keep K86 (ninS ne90 nin0)).other W93 (Or.inr (slot_ne (Or.inl (own_w hw 148 rfl)) (Or.inr (own_w hw 91 rfl)) (by decide) (t := .int) (t' := (.object "java/util/Map")) (by decide) (by decide)))).keep K128 (ninS ne111 (ninS ne16 nin0))).other W139 (Or.inr (slot_ne (Or.inl (own_w hw 148 rfl)) (Or.inl (own_w hw 105 rfl)) (by decide) (t := .int) (t' := .int) (by decide) (by decide))))
  have f144 := ((f94.keep K128 (ninS ne111 (ninS ne16 nin0))).other W139 (Or.inr (slot_ne (Or.inr (own_w hw 21 rfl)) (Or.inl (own_w hw 105 rfl)) (by decide) (t := (.object "com/example/mycelia/mycelia/wire/MessageTree$IntRecords")) (t' := .int) (by decide) (by decide))))
  have f145 := (((((Fw82.ext E83).keep K86 (ninS ne90 nin0)).other W93 (Or.inr (slot_ne (Or.inr (own_w hw 73 rfl)) (Or.inr (own_w hw 91 rfl)) (by decide) (t := (.object "java/util/List")) (t' := (.object "java/util/Map")) (by decide) (by decide)))).keep K128 (ninS ne111 (ninS ne16 nin0))).other W139 (Or.inr (slot_ne (Or.inr (own_w hw 73 rfl)) (Or.inl (own_w hw 105 rfl)) (by decide) (t := (.object "java/util/List")) (t' := .int) (by decide) (by decide))))
  have f146 := ((((((((((((((((((((P7.ext E2).keep K7 (ninS ne16 nin0)).other W19 (Or.inr (slot_ne (Or.inl (own_w hw 131 rfl)) (Or.inr (own_w hw 21 rfl)) (by decide) (t := .long) (t' := (.object "com/example/mycelia/mycelia/wire/MessageTree$IntRecords")) (by decide) (by decide)))).ext E20).keep K25 (ninS ne34 nin0)).other W37 (Or.inr (slot_ne (Or.inl (own_w hw 131 rfl)) (Or.inr (own_w hw 23 rfl)) (by decide) (t := .long) (t' := (.object "com/example/mycelia/mycelia/wire/MessageTree$IntRecords")) (by decide) (by decide)))).ext E38).keep K43 (ninS ne50 nin0)).other W53 (Or.inr (slot_ne (Or.inl (own_w hw 131 rfl)) (Or.inr (own_w hw 45 rfl)) (by decide) (t := .long) (t' := (.object "java/lang/StringBuilder")) (by decide) (by decide)))).ext E54).keep K59 (ninS ne66 nin0)).other W69 (Or.inr (slot_ne (Or.inl (own_w hw 131 rfl)) (Or.inr (own_w hw 47 rfl)) (by decide) (t := .long) (t' := (.object "java/lang/StringBuilder")) (by decide) (by decide)))).ext E70).keep K73 (ninS ne79 nin0)).other W82 (Or.inr (slot_ne (Or.inl (own_w hw 131 rfl)) (Or.inr (own_w hw 73 rfl)) (by decide) (t := .long) (t' := (.object "java/util/List")) (by decide) (by decide)))).ext E83).keep K86 (ninS ne90 nin0)).other W93 (Or.inr (slot_ne (Or.inl (own_w hw 131 rfl)) (Or.inr (own_w hw 91 rfl)) (by decide) (t := .long) (t' := (.object "java/util/Map")) (by decide) (by decide)))).keep K128 (ninS ne111 (ninS ne16 nin0))).other W139 (Or.inr (slot_ne (Or.inl (own_w hw 131 rfl)) (Or.inl (own_w hw 105 rfl)) (by decide) (t := .long) (t' := .int) (by decide) (by decide))))
  have f147 := (((((((((((Fw53.ext E54).keep K59 (ninS ne66 nin0)).other W69 (Or.inr (slot_ne (Or.inr (own_w hw 45 rfl)) (Or.inr (own_w hw 47 rfl)) (by decide) (t := (.object "java/lang/StringBuilder")) (t' := (.object "java/lang/StringBuilder")) (by decide) (by decide)))).ext E70).keep K73 (ninS ne79 nin0)).other W82 (Or.inr (slot_ne (Or.inr (own_w hw 45 rfl)) (Or.inr (own_w hw 73 rfl)) (by decide) (t := (.object "java/lang/StringBuilder")) (t' := (.object "java/util/List")) (by decide) (by decide)))).ext E83).keep K86 (ninS ne90 nin0)).other W93 (Or.inr (slot_ne (Or.inr (own_w hw 45 rfl)) (Or.inr (own_w hw 91 rfl)) (by decide) (t := (.object "java/lang/StringBuilder")) (t' := (.object "java/util/Map")) (by decide) (by decide)))).keep K128 (ninS ne111 (ninS ne16 nin0))).other W139 (Or.inr (slot_ne (Or.inr (own_w hw 45 rfl)) (Or.inl (own_w hw 105 rfl)) (by decide) (t := (.object "java/lang/StringBuilder")) (t' := .int) (by decide) (by decide))))
  have f148 := ((((((((Fw69.ext E70).keep K73 (ninS ne79 nin0)).other W82 (Or.inr (slot_ne (Or.inr (own_w hw 47 rfl)) (Or.inr (own_w hw 73 rfl)) (by decide) (t := (.object "java/lang/StringBuilder")) (t' := (.object "java/util/List")) (by decide) (by decide)))).ext E83).keep K86 (ninS ne90 nin0)).other W93 (Or.inr (slot_ne (Or.inr (own_w hw 47 rfl)) (Or.inr (own_w hw 91 rfl)) (by decide) (t := (.object "java/lang/StringBuilder")) (t' := (.object "java/util/Map")) (by decide) (by decide)))).keep K128 (ninS ne111 (ninS ne16 nin0))).other W139 (Or.inr (slot_ne (Or.inr (own_w hw 47 rfl)) (Or.inl (own_w hw 105 rfl)) (by decide) (t := (.object "java/lang/StringBuilder")) (t' := .int) (by decide) (by decide))))
  have f149 := ((((((((((((((((((((P10.ext E2).keep K7 (ninS ne16 nin0)).other W19 (Or.inr (slot_ne (Or.inl (own_w hw 133 rfl)) (Or.inr (own_w hw 21 rfl)) (by decide) (t := .boolean) (t' := (.object "com/example/mycelia/mycelia/wire/MessageTree$IntRecords")) (by decide) (by decide)))).ext E20).keep K25 (ninS ne34 nin0)).other W37 (Or.inr (slot_ne (Or.inl (own_w hw 133 rfl)) (Or.inr (own_w hw 23 rfl)) (by decide) (t := .boolean) (t' := (.object "com/example/mycelia/mycelia/wire/MessageTree$IntRecords")) (by decide) (by decide)))).ext E38).keep K43 (ninS ne50 nin0)).other W53 (Or.inr (slot_ne (Or.inl (own_w hw 133 rfl)) (Or.inr (own_w hw 45 rfl)) (by decide) (t := .boolean) (t' := (.object "java/lang/StringBuilder")) (by decide) (by decide)))).ext E54).keep K59 (ninS ne66 nin0)).other W69 (Or.inr (slot_ne (Or.inl (own_w hw 133 rfl)) (Or.inr (own_w hw 47 rfl)) (by decide) (t := .boolean) (t' := (.object "java/lang/StringBuilder")) (by decide) (by decide)))).ext E70).keep K73 (ninS ne79 nin0)).other W82 (Or.inr (slot_ne (Or.inl (own_w hw 133 rfl)) (Or.inr (own_w hw 73 rfl)) (by decide) (t := .boolean) (t' := (.object "java/util/List")) (by decide) (by decide)))).ext E83).keep K86 (ninS ne90 nin0)).other W93 (Or.inr (slot_ne (Or.inl (own_w hw 133 rfl)) (Or.inr (own_w hw 91 rfl)) (by decide) (t := .boolean) (t' := (.object "java/util/Map")) (by decide) (by decide)))).keep K128 (ninS ne111 (ninS ne16 nin0))).other W139 (Or.inr (slot_ne (Or.inl (own_w hw 133 rfl)) (Or.inl (own_w hw 105 rfl)) (by decide) (t := .boolean) (t' := .int) (by decide) (by decide))))
  have f150 := ((((((((((((((((((((P11.ext E2).keep K7 (ninS ne16 nin0)).other W19 (Or.inr (slot_ne (Or.inl (own_w hw 127 rfl)) (Or.inr (own_w hw 21 rfl)) (by decide) (t := .boolean) (t' := (.object "com/example/mycelia/mycelia/wire/MessageTree$IntRecords")) (by decide) (by decide)))).ext E20).keep K25 (ninS ne34 nin0)).other W37 (Or.inr (slot_ne (Or.inl (own_w hw 127 rfl)) (Or.inr (own_w hw 23 rfl)) (by decide) (t := .boolean) (t' := (.object "com/example/mycelia/mycelia/wire/MessageTree$IntRecords")) (by decide) (by decide)))).ext E38).keep K43 (ninS ne50 nin0)).other W53 (Or.inr (slot_ne (Or.inl (own_w hw 127 rfl)) (Or.inr (own_w hw 45 rfl)) (by decide) (t := .boolean) (t' := (.object "java/lang/StringBuilder")) (by decide) (by decide)))).ext E54).keep K59 (ninS ne66 nin0)).other W69 (Or.inr (slot_ne (Or.inl (own_w hw 127 rfl)) (Or.inr (own_w hw 47 rfl)) (by decide) (t := .boolean) (t' := (.object "java/lang/StringBuilder")) (by decide) (by decide)))).ext E70).keep K73 (ninS ne79 nin0)).other W82 (Or.inr (slot_ne (Or.inl (own_w hw 127 rfl)) (Or.inr (own_w hw 73 rfl)) (by decide) (t := .boolean) (t' := (.object "java/util/List")) (by decide) (by decide)))).ext E83).keep K86 (ninS ne90 nin0)).other W93 (Or.inr (slot_ne (Or.inl (own_w hw 127 rfl)) (Or.inr (own_w hw 91 rfl)) (by decide) (t := .boolean) (t' := (.object "java/util/Map")) (by decide) (by decide)))).keep K128 (ninS ne111 (ninS ne16 nin0))).other W139 (Or.inr (slot_ne (Or.inl (own_w hw 127 rfl)) (Or.inl (own_w hw 105 rfl)) (by decide) (t := .boolean) (t' := .int) (by decide) (by decide))))
  have f151 := ((((((((((((((((((((P12.ext E2).keep K7 (ninS ne16 nin0)).other W19 (Or.inr (slot_ne (Or.inl (own_w hw 129 rfl)) (Or.inr (own_w hw 21 rfl)) (by decide) (t := .boolean) (t' := (.object "com/example/mycelia/mycelia/wire/MessageTree$IntRecords")) (by decide) (by decide)))).ext E20).keep K25 (ninS ne34 nin0)).other W37 (Or.inr (slot_ne (Or.inl (own_w hw 129 rfl)) (Or.inr (own_w hw 23 rfl)) (by decide) (t := .boolean) (t' := (.object "com/example/mycelia/mycelia/wire/MessageTree$IntRecords")) (by decide) (by decide)))).ext E38).keep K43 (ninS ne50 nin0)).other W53 (Or.inr (slot_ne (Or.inl (own_w hw 129 rfl)) (Or.inr (own_w hw 45 rfl)) (by decide) (t := .boolean) (t' := (.object "java/lang/StringBuilder")) (by decide) (by decide)))).ext E54).keep K59 (ninS ne66 nin0)).other W69 (Or.inr (slot_ne (Or.inl (own_w hw 129 rfl)) (Or.inr (own_w hw 47 rfl)) (by decide) (t := .boolean) (t' := (.object "java/lang/StringBuilder")) (by decide) (by decide)))).ext E70).keep K73 (ninS ne79 nin0)).other W82 (Or.inr (slot_ne (Or.inl (own_w hw 129 rfl)) (Or.inr (own_w hw 73 rfl)) (by decide) (t := .boolean) (t' := (.object "java/util/List")) (by decide) (by decide)))).ext E83).keep K86 (ninS ne90 nin0)).other W93 (Or.inr (slot_ne (Or.inl (own_w hw 129 rfl)) (Or.inr (own_w hw 91 rfl)) (by decide) (t := .boolean) (t' := (.object "java/util/Map")) (by decide) (by decide)))).keep K128 (ninS ne111 (ninS ne16 nin0))).other W139 (Or.inr (slot_ne (Or.inl (own_w hw 129 rfl)) (Or.inl (own_w hw 105 rfl)) (by decide) (t := .boolean) (t' := .int) (by decide) (by decide))))
  have f152 := (((((((((((((((f27.wr W37).ext E38).keep K43).wr W53).ext E54).keep K59).wr W69).ext E70).keep K73).wr W82).ext E83).keep K86).wr W93).keep K128).wr W139)
  have lt153 : b20 < h37.size := (Nat.lt_of_lt_of_le (Nat.lt_of_lt_of_le A20.lt K25.1) (Nat.le_of_eq W37.size.symm))
  have ne154 : b20 ≠ b38 := Nat.ne_of_lt (Nat.lt_of_lt_of_le lt153 sz_b38)
  have lt155 : b20 < h53.size := (Nat.lt_of_lt_of_le (Nat.lt_of_lt_of_le (Nat.lt_of_lt_of_le (Nat.lt_of_lt_of_le (Nat.lt_of_lt_of_le A20.lt K25.1) (Nat.le_of_eq W37.size.symm)) E38.1) K43.1) (Nat.le_of_eq W53.size.symm))
  have ne156 : b20 ≠ b54 := Nat.ne_of_lt (Nat.lt_of_lt_of_le lt155 sz_b54)
  have lt157 : b20 < h69.size := (Nat.lt_of_lt_of_le (Nat.lt_of_lt_of_le (Nat.lt_of_lt_of_le (Nat.lt_of_lt_of_le (Nat.lt_of_lt_of_le (Nat.lt_of_lt_of_le (Nat.lt_of_lt_of_le (Nat.lt_of_lt_of_le A20.lt K25.1) (Nat.le_of_eq W37.size.symm)) E38.1) K43.1) (Nat.le_of_eq W53.size.symm)) E54.1) K59.1) (Nat.le_of_eq W69.size.symm))
  have ne158 : b20 ≠ b70 := Nat.ne_of_lt (Nat.lt_of_lt_of_le lt157 sz_b70)
  have lt159 : b20 < h82.size := (Nat.lt_of_lt_of_le (Nat.lt_of_lt_of_le (Nat.lt_of_lt_of_le (Nat.lt_of_lt_of_le (Nat.lt_of_lt_of_le (Nat.lt_of_lt_of_le (Nat.lt_of_lt_of_le (Nat.lt_of_lt_of_le (Nat.lt_of_lt_of_le (Nat.lt_of_lt_of_le (Nat.lt_of_lt_of_le A20.lt K25.1) (Nat.le_of_eq W37.size.symm)) E38.1) K43.1) (Nat.le_of_eq W53.size.symm)) E54.1) K59.1) (Nat.le_of_eq W69.size.symm)) E70.1) K73.1) (Nat.le_of_eq W82.size.symm))
  have ne160 : b20 ≠ b83 := Nat.ne_of_lt (Nat.lt_of_lt_of_le lt159 sz_b83)
  have f161 := (((((((((((((((f28.other W37 (Or.inl (Ne.symm ne34))).ext E38).keep K43 (ninS ne154 nin0)).other W53 (Or.inl (Ne.symm ne34))).ext E54).keep K59 (ninS ne156 nin0)).other W69 (Or.inl (Ne.symm ne34))).ext E70).keep K73 (ninS ne158 nin0)).other W82 (Or.inl (Ne.symm ne34))).ext E83).keep K86 (ninS ne160 nin0)).other W93 (Or.inl (Ne.symm ne34))).keep K128 (ninS (Ne.symm ne113) (ninS (Ne.symm ne98) nin0))).other W139 (Or.inl (Ne.symm ne34)))
  have f162 := (((((((((((((((f29.other W37 (Or.inl (Ne.symm ne34))).ext E38).keep K43 (ninS ne154 nin0)).other W53 (Or.inl (Ne.symm ne34))).ext E54).keep K59 (ninS ne156 nin0)).other W69 (Or.inl (Ne.symm ne34))).ext E70).keep K73 (ninS ne158 nin0)).other W82 (Or.inl (Ne.symm ne34))).ext E83).keep K86 (ninS ne160 nin0)).other W93 (Or.inl (Ne.symm ne34))).keep K128 (ninS (Ne.symm ne113) (ninS (Ne.symm ne98) nin0))).other W139 (Or.inl (Ne.symm ne34)))
  have f163 := (((((((((((((((f30.other W37 (Or.inl (Ne.symm ne34))).ext E38).keep K43 (ninS ne154 nin0)).other W53 (Or.inl (Ne.symm ne34))).ext E54).keep K59 (ninS ne156 nin0)).other W69 (Or.inl (Ne.symm ne34))).ext E70).keep K73 (ninS ne158 nin0)).other W82 (Or.inl (Ne.symm ne34))).ext E83).keep K86 (ninS ne160 nin0)).other W93 (Or.inl (Ne.symm ne34))).keep K128 (ninS (Ne.symm ne113) (ninS (Ne.symm ne98) nin0))).other W139 (Or.inl (Ne.symm ne34)))
  have f164 := (((f87.wr W93).keep K128).wr W139)
  have f165 := (((f88.other W93 (Or.inl (Ne.symm ne90))).keep K128 (ninS (Ne.symm ne121) (ninS (Ne.symm ne106) nin0))).other W139 (Or.inl (Ne.symm ne90)))
  have f166 := (f131.wr W139)
  have f167 := (f132.other W139 (Or.inl (Ne.symm ne16)))
  have f168 := (f133.other W139 (Or.inl (Ne.symm ne16)))
  have f169 := (f134.other W139 (Or.inl (Ne.symm ne16)))
  have f170 := ((((((f74.wr W82).ext E83).keep K86).wr W93).keep K128).wr W139)
  have lt171 : b70 < h82.size := (Nat.lt_of_lt_of_le (Nat.lt_of_lt_of_le A70.lt K73.1) (Nat.le_of_eq W82.size.symm))
  have ne172 : b70 ≠ b83 := Nat.ne_of_lt (Nat.lt_of_lt_of_le lt171 sz_b83)
  have f173 := ((((((f75.other W82 (Or.inl (Ne.symm ne79))).ext E83).keep K86 (ninS ne172 nin0)).other W93 (Or.inl (Ne.symm ne79))).keep K128 (ninS (Ne.symm ne119) (ninS (Ne.symm ne104) nin0))).other W139 (Or.inl (Ne.symm ne79)))
  have f174 := ((((((f76.other W82 (Or.inl (Ne.symm ne79))).ext E83).keep K86 (ninS ne172 nin0)).other W93 (Or.inl (Ne.symm ne79))).keep K128 (ninS (Ne.symm ne119) (ninS (Ne.symm ne104) nin0))).other W139 (Or.inl (Ne.symm ne79)))
  have f175 := ((((((f77.other W82 (Or.inl (Ne.symm ne79))).ext E83).keep K86 (ninS ne172 nin0)).other W93 (Or.inl (Ne.symm ne79))).keep K128 (ninS (Ne.symm ne119) (ninS (Ne.symm ne104) nin0))).other W139 (Or.inl (Ne.symm ne79)))
  have f176 := ((((((((((((f44.wr W53).ext E54).keep K59).wr W69).ext E70).keep K73).wr W82).ext E83).keep K86).wr W93).keep K128).wr W139)
  have lt177 : b38 < h53.size := (Nat.lt_of_lt_of_le (Nat.lt_of_lt_of_le A38.lt K43.1) (Nat.le_of_eq W53.size.symm))
  have ne178 : b38 ≠ b54 := Nat.ne_of_lt (Nat.lt_of_lt_of_le lt177 sz_b54)
  have lt179 : b38 < h69.size := (Nat.lt_of_lt_of_le (Nat.lt_of_lt_of_le (Nat.lt_of_lt_of_le (Nat.lt_of_lt_of_le (Nat.lt_of_lt_of_le A38.lt K43.1) (Nat.le_of_eq W53.size.symm)) E54.1) K59.1) (Nat.le_of_eq W69.size.symm))
  have ne180 : b38 ≠ b70 := Nat.ne_of_lt (Nat.lt_of_lt_of_le lt179 sz_b70)
  have lt181 : b38 < h82.size := (Nat.lt_of_lt_of_le (Nat.lt_of_lt_of_le (Nat.lt_of_lt_of_le (Nat.lt_of_lt_of_le (Nat.lt_of_lt_of_le (Nat.lt_of_lt_of_le (Nat.lt_of_lt_of_le (Nat.lt_of_lt_of_le A38.lt K43.1) (Nat.le_of_eq W53.size.symm)) E54.1) K59.1) (Nat.le_of_eq W69.size.symm)) E70.1) K73.1) (Nat.le_of_eq W82.size.symm))
  have ne182 : b38 ≠ b83 := Nat.ne_of_lt (Nat.lt_of_lt_of_le lt181 sz_b83)
  have f183 := ((((((((((((f45.other W53 (Or.inl (Ne.symm ne50))).ext E54).keep K59 (ninS ne178 nin0)).other W69 (Or.inl (Ne.symm ne50))).ext E70).keep K73 (ninS ne180 nin0)).other W82 (Or.inl (Ne.symm ne50))).ext E83).keep K86 (ninS ne182 nin0)).other W93 (Or.inl (Ne.symm ne50))).keep K128 (ninS (Ne.symm ne115) (ninS (Ne.symm ne100) nin0))).other W139 (Or.inl (Ne.symm ne50)))
  have f184 := ((((((((((((f46.other W53 (Or.inl (Ne.symm ne50))).ext E54).keep K59 (ninS ne178 nin0)).other W69 (Or.inl (Ne.symm ne50))).ext E70).keep K73 (ninS ne180 nin0)).other W82 (Or.inl (Ne.symm ne50))).ext E83).keep K86 (ninS ne182 nin0)).other W93 (Or.inl (Ne.symm ne50))).keep K128 (ninS (Ne.symm ne115) (ninS (Ne.symm ne100) nin0))).other W139 (Or.inl (Ne.symm ne50)))
  have f185 := (((((((((f60.wr W69).ext E70).keep K73).wr W82).ext E83).keep K86).wr W93).keep K128).wr W139)
  have lt186 : b54 < h69.size := (Nat.lt_of_lt_of_le (Nat.lt_of_lt_of_le A54.lt K59.1) (Nat.le_of_eq W69.size.symm))
  have ne187 : b54 ≠ b70 := Nat.ne_of_lt (Nat.lt_of_lt_of_le lt186 sz_b70)
  have lt188 : b54 < h82.size := (Nat.lt_of_lt_of_le (Nat.lt_of_lt_of_le (Nat.lt_of_lt_of_le (Nat.lt_of_lt_of_le (Nat.lt_of_lt_of_le A54.lt K59.1) (Nat.le_of_eq W69.size.symm)) E70.1) K73.1) (Nat.le_of_eq W82.size.symm))
  have ne189 : b54 ≠ b83 := Nat.ne_of_lt (Nat.lt_of_lt_of_le lt188 sz_b83)
  have f190 := (((((((((f61.other W69 (Or.inl (Ne.symm ne66))).ext E70).keep K73 (ninS ne187 nin0)).other W82 (Or.inl (Ne.symm ne66))).ext E83).keep K86 (ninS ne189 nin0)).other W93 (Or.inl (Ne.symm ne66))).keep K128 (ninS (Ne.symm ne117) (ninS (Ne.symm ne102) nin0))).other W139 (Or.inl (Ne.symm ne66)))
  have f191 := (((((((((f62.other W69 (Or.inl (Ne.symm ne66))).ext E70).keep K73 (ninS ne187 nin0)).other W82 (Or.inl (Ne.symm ne66))).ext E83).keep K86 (ninS ne189 nin0)).other W93 (Or.inl (Ne.symm ne66))).keep K128 (ninS (Ne.symm ne117) (ninS (Ne.symm ne102) nin0))).other W139 (Or.inl (Ne.symm ne66)))
  have lt192 : o1 < h20.size := (Nat.lt_of_lt_of_le (Nat.lt_of_lt_of_le (Nat.lt_of_lt_of_le (Nat.lt_of_lt_of_le P0.lt E2.1) K7.1) (Nat.le_of_eq W19.size.symm)) E20.1)
  have ne193 : o1 ≠ b22 := Nat.ne_of_lt (Nat.lt_of_lt_of_le lt192 sz_b22)
  have lt194 : b22 < h37.size := (Nat.lt_of_lt_of_le f31.lt (Nat.le_of_eq W37.size.symm))
  have ne195 : b22 ≠ b38 := Nat.ne_of_lt (Nat.lt_of_lt_of_le lt194 sz_b38)
  have lt196 : b22 < h53.size := (Nat.lt_of_lt_of_le (Nat.lt_of_lt_of_le (Nat.lt_of_lt_of_le (Nat.lt_of_lt_of_le f31.lt (Nat.le_of_eq W37.size.symm)) E38.1) K43.1) (Nat.le_of_eq W53.size.symm))
  have ne197 : b22 ≠ b54 := Nat.ne_of_lt (Nat.lt_of_lt_of_le lt196 sz_b54)
  have lt198 : b22 < h69.size := (Nat.lt_of_lt_of_le (Nat.lt_of_lt_of_le (Nat.lt_of_lt_of_le (Nat.lt_of_lt_of_le (Nat.lt_of_lt_of_le (Nat.lt_of_lt_of_le (Nat.lt_of_lt_of_le f31.lt (Nat.le_of_eq W37.size.symm)) E38.1) K43.1) (Nat.le_of_eq W53.size.symm)) E54.1) K59.1) (Nat.le_of_eq W69.size.symm))
  have ne199 : b22 ≠ b70 := Nat.ne_of_lt (Nat.lt_of_lt_of_le lt198 sz_b70)
  have lt200 : b22 < h82.size := (Nat.lt_of_lt_of_le (Nat.lt_of_lt_of_le (Nat.lt_of_lt_of_le (Nat.lt_of_lt_of_le (Nat.lt_of_lt_of_le (Nat.lt_of_lt_of_le (Nat.lt_of_lt_of_le (Nat.lt_of_lt_of_le (Nat.lt_of_lt_of_le (Nat.lt_of_lt_of_le f31.lt (Nat.le_of_eq W37.size.symm)) E38.1) K43.1) (Nat.le_of_eq W53.size.symm)) E54.1) K59.1) (Nat.le_of_eq W69.size.symm)) E70.1) K73.1) (Nat.le_of_eq W82.size.symm))
  have ne201 : b22 ≠ b83 := Nat.ne_of_lt (Nat.lt_of_lt_of_le lt200 sz_b83)
  have lt202 : b2 < h20.size := (Nat.lt_of_lt_of_le (Nat.lt_of_lt_of_le (Nat.lt_of_lt_of_le A2.lt K7.1) (Nat.le_of_eq W19.size.symm)) E20.1)
  have ne203 : b2 ≠ b22 := Nat.ne_of_lt (Nat.lt_of_lt_of_le lt202 sz_b22)
  have lt204 : b4 < h20.size := (Nat.lt_of_lt_of_le (Nat.lt_of_lt_of_le f13.lt (Nat.le_of_eq W19.size.symm)) E20.1)
  have ne205 : b4 ≠ b22 := Nat.ne_of_lt (Nat.lt_of_lt_of_le lt204 sz_b22)
  have f206 := (((((((((((((((f31.other W37 (Ne.symm ne193)).ext E38).keep K43 (ninS ne195 nin0)).other W53 (Ne.symm ne193)).ext E54).keep K59 (ninS ne197 nin0)).other W69 (Ne.symm ne193)).ext E70).keep K73 (ninS ne199 nin0)).other W82 (Ne.symm ne193)).ext E83).keep K86 (ninS ne201 nin0)).other W93 (Ne.symm ne193)).keep K128 (ninS (Ne.symm ne205) (ninS (Ne.symm ne203) nin0))).other W139 (Ne.symm ne193))
  have f207 := (((((((((((((((f32.wr W37).ext E38).keep K43).wr W53).ext E54).keep K59).wr W69).ext E70).keep K73).wr W82).ext E83).keep K86).wr W93).keep K128).wr W139)
  have f208 := (f129.other W139 (Ne.symm ne111))
  have f209 := (f130.wr W139)
  have lt210 : o1 < h38.size := (Nat.lt_of_lt_of_le (Nat.lt_of_lt_of_le (Nat.lt_of_lt_of_le (Nat.lt_of_lt_of_le (Nat.lt_of_lt_of_le (Nat.lt_of_lt_of_le (Nat.lt_of_lt_of_le P0.lt E2.1) K7.1) (Nat.le_of_eq W19.size.symm)) E20.1) K25.1) (Nat.le_of_eq W37.size.symm)) E38.1)
  have ne211 : o1 ≠ b40 := Nat.ne_of_lt (Nat.lt_of_lt_of_le lt210 sz_b40)
  have lt212 : b40 < h53.size := (Nat.lt_of_lt_of_le f47.lt (Nat.le_of_eq W53.size.symm))
  have ne213 : b40 ≠ b54 := Nat.ne_of_lt (Nat.lt_of_lt_of_le lt212 sz_b54)
  have lt214 : b40 < h69.size := (Nat.lt_of_lt_of_le (Nat.lt_of_lt_of_le (Nat.lt_of_lt_of_le (Nat.lt_of_lt_of_le f47.lt (Nat.le_of_eq W53.size.symm)) E54.1) K59.1) (Nat.le_of_eq W69.size.symm))
  have ne215 : b40 ≠ b70 := Nat.ne_of_lt (Nat.lt_of_lt_of_le lt214 sz_b70)
  have lt216 : b40 < h82.size := (Nat.lt_of_lt_of_le (Nat.lt_of_lt_of_le (Nat.lt_of_lt_of_le (Nat.lt_of_lt_of_le (Nat.lt_of_lt_of_le (Nat.lt_of_lt_of_le (Nat.lt_of_lt_of_le f47.lt (Nat.le_of_eq W53.size.symm)) E54.1) K59.1) (Nat.le_of_eq W69.size.symm)) E70.1) K73.1) (Nat.le_of_eq W82.size.symm))
  have ne217 : b40 ≠ b83 := Nat.ne_of_lt (Nat.lt_of_lt_of_le lt216 sz_b83)
  have lt218 : b2 < h38.size := (Nat.lt_of_lt_of_le (Nat.lt_of_lt_of_le (Nat.lt_of_lt_of_le (Nat.lt_of_lt_of_le (Nat.lt_of_lt_of_le (Nat.lt_of_lt_of_le A2.lt K7.1) (Nat.le_of_eq W19.size.symm)) E20.1) K25.1) (Nat.le_of_eq W37.size.symm)) E38.1)
  have ne219 : b2 ≠ b40 := Nat.ne_of_lt (Nat.lt_of_lt_of_le lt218 sz_b40)
  have lt220 : b4 < h38.size := (Nat.lt_of_lt_of_le (Nat.lt_of_lt_of_le (Nat.lt_of_lt_of_le (Nat.lt_of_lt_of_le (Nat.lt_of_lt_of_le f13.lt (Nat.le_of_eq W19.size.symm)) E20.1) K25.1) (Nat.le_of_eq W37.size.symm)) E38.1)
  have ne221 : b4 ≠ b40 := Nat.ne_of_lt (Nat.lt_of_lt_of_le lt220 sz_b40)
  have f222 := ((((((((((((f47.other W53 (Ne.symm ne211)).ext E54).keep K59 (ninS ne213 nin0)).other W69 (Ne.symm ne211)).ext E70).keep K73 (ninS ne215 nin0)).other W82 (Ne.symm ne211)).ext E83).keep K86 (ninS ne217 nin0)).other W93 (Ne.symm ne211)).keep K128 (ninS (Ne.symm ne221) (ninS (Ne.symm ne219) nin0))).other W139 (Ne.symm ne211))
  have f223 := ((((((((((((f48.wr W53).ext E54).keep K59).wr W69).ext E70).keep K73).wr W82).ext E83).keep K86).wr W93).keep K128).wr W139)
  have lt224 : o1 < h54.size := (Nat.lt_of_lt_of_le (Nat.lt_of_lt_of_le (Nat.lt_of_lt_of_le (Nat.lt_of_lt_of_le (Nat.lt_of_lt_of_le (Nat.lt_of_lt_of_le (Nat.lt_of_lt_of_le (Nat.lt_of_lt_of_le (Nat.lt_of_lt_of_le (Nat.lt_of_lt_of_le P0.lt E2.1) K7.1) (Nat.le_of_eq W19.size.symm)) E20.1) K25.1) (Nat.le_of_eq W37.size.symm)) E38.1) K43.1) (Nat.le_of_eq W53.size.symm)) E54.1)
  have ne225 : o1 ≠ b56 := Nat.ne_of_lt (Nat.lt_of_lt_of_le lt224 sz_b56)
  have lt226 : b56 < h69.size := (Nat.lt_of_lt_of_le f63.lt (Nat.le_of_eq W69.size.symm))
  have ne227 : b56 ≠ b70 := Nat.ne_of_lt (Nat.lt_of_lt_of_le lt226 sz_b70)
  have lt228 : b56 < h82.size := (Nat.lt_of_lt_of_le (Nat.lt_of_lt_of_le (Nat.lt_of_lt_of_le (Nat.lt_of_lt_of_le f63.lt (Nat.le_of_eq W69.size.symm)) E70.1) K73.1) (Nat.le_of_eq W82.size.symm))
  have ne229 : b56 ≠ b83 := Nat.ne_of_lt (Nat.lt_of_lt_of_le lt228 sz_b83)
  have lt230 : b2 < h54.size := (Nat.lt_of_lt_of_le (Nat.lt_of_lt_of_le (Nat.lt_of_lt_of_le (Nat.lt_of_lt_of_le (Nat.lt_of_lt_of_le (Nat.lt_of_lt_of_le (Nat.lt_of_lt_of_le (Nat.lt_of_lt_of_le (Nat.lt_of_lt_of_le A2.lt K7.1) (Nat.le_of_eq W19.size.symm)) E20.1) K25.1) (Nat.le_of_eq W37.size.symm)) E38.1) K43.1) (Nat.le_of_eq W53.size.symm)) E54.1)
  have ne231 : b2 ≠ b56 := Nat.ne_of_lt (Nat.lt_of_lt_of_le lt230 sz_b56)
  have lt232 : b4 < h54.size := (Nat.lt_of_lt_of_le (Nat.lt_of_lt_of_le (Nat.lt_of_lt_of_le (Nat.lt_of_lt_of_le (Nat.lt_of_lt_of_le (Nat.lt_of_lt_of_le (Nat.lt_of_lt_of_le (Nat.lt_of_lt_of_le f13.lt (Nat.le_of_eq W19.size.symm)) E20.1) K25.1) (Nat.le_of_eq W37.size.symm)) E38.1) K43.1) (Nat.le_of_eq W53.size.symm)) E54.1)
  have ne233 : b4 ≠ b56 := Nat.ne_of_lt (Nat.lt_of_lt_of_le lt232 sz_b56)
  have f234 := (((((((((f63.other W69 (Ne.symm ne225)).ext E70).keep K73 (ninS ne227 nin0)).other W82 (Ne.symm ne225)).ext E83).keep K86 (ninS ne229 nin0)).other W93 (Ne.symm ne225)).keep K128 (ninS (Ne.symm ne233) (ninS (Ne.symm ne231) nin0))).other W139 (Ne.symm ne225))
  have f235 := (((((((((f64.wr W69).ext E70).keep K73).wr W82).ext E83).keep K86).wr W93).keep K128).wr W139)
  have lt236 : o1 < h93.size := (Nat.lt_of_lt_of_le (Nat.lt_of_lt_of_le (Nat.lt_of_lt_of_le (Nat.lt_of_lt_of_le (Nat.lt_of_lt_of_le (Nat.lt_of_lt_of_le (Nat.lt_of_lt_of_le (Nat.lt_of_lt_of_le (Nat.lt_of_lt_of_le (Nat.lt_of_lt_of_le (Nat.lt_of_lt_of_le (Nat.lt_of_lt_of_le (Nat.lt_of_lt_of_le (Nat.lt_of_lt_of_le (Nat.lt_of_lt_of_le (Nat.lt_of_lt_of_le (Nat.lt_of_lt_of_le (Nat.lt_of_lt_of_le P0.lt E2.1) K7.1) (Nat.le_of_eq W19.size.symm)) E20.1) K25.1) (Nat.le_of_eq W37.size.symm)) E38.1) K43.1) (Nat.le_of_eq W53.size.symm)) E54.1) K59.1) (Nat.le_of_eq W69.size.symm)) E70.1) K73.1) (Nat.le_of_eq W82.size.symm)) E83.1) K86.1) (Nat.le_of_eq W93.size.symm))
  have ne237 : o1 ≠ b125 := Nat.ne_of_lt (Nat.lt_of_lt_of_le lt236 sz_b125)
  have f238 := (f135.other W139 (Ne.symm ne237))
  have f239 := (f136.wr W139)
  have lt240 : b20 < h20.size := A20.lt
  have ne241 : b20 ≠ b22 := Nat.ne_of_lt (Nat.lt_of_lt_of_le lt240 sz_b22)
  have lt242 : b20 < h38.size := (Nat.lt_of_lt_of_le (Nat.lt_of_lt_of_le (Nat.lt_of_lt_of_le A20.lt K25.1) (Nat.le_of_eq W37.size.symm)) E38.1)
  have ne243 : b20 ≠ b40 := Nat.ne_of_lt (Nat.lt_of_lt_of_le lt242 sz_b40)
  have lt244 : b20 < h54.size := (Nat.lt_of_lt_of_le (Nat.lt_of_lt_of_le (Nat.lt_of_lt_of_le (Nat.lt_of_lt_of_le (Nat.lt_of_lt_of_le (Nat.lt_of_lt_of_le A20.lt K25.1) (Nat.le_of_eq W37.size.symm)) E38.1) K43.1) (Nat.le_of_eq W53.size.symm)) E54.1)
  have ne245 : b20 ≠ b56 := Nat.ne_of_lt (Nat.lt_of_lt_of_le lt244 sz_b56)
  have lt246 : b20 < h93.size := (Nat.lt_of_lt_of_le (Nat.lt_of_lt_of_le (Nat.lt_of_lt_of_le (Nat.lt_of_lt_of_le (Nat.lt_of_lt_of_le (Nat.lt_of_lt_of_le (Nat.lt_of_lt_of_le (Nat.lt_of_lt_of_le (Nat.lt_of_lt_of_le (Nat.lt_of_lt_of_le (Nat.lt_of_lt_of_le (Nat.lt_of_lt_of_le (Nat.lt_of_lt_of_le (Nat.lt_of_lt_of_le A20.lt K25.1) (Nat.le_of_eq W37.size.symm)) E38.1) K43.1) (Nat.le_of_eq W53.size.symm)) E54.1) K59.1) (Nat.le_of_eq W69.size.symm)) E70.1) K73.1) (Nat.le_of_eq W82.size.symm)) E83.1) K86.1) (Nat.le_of_eq W93.size.symm))
  have ne247 : b20 ≠ b125 := Nat.ne_of_lt (Nat.lt_of_lt_of_le lt246 sz_b125)
  have lt248 : b83 < h93.size := (Nat.lt_of_lt_of_le (Nat.lt_of_lt_of_le A83.lt K86.1) (Nat.le_of_eq W93.size.symm))
  have ne249 : b83 ≠ b125 := Nat.ne_of_lt (Nat.lt_of_lt_of_le lt248 sz_b125)
  have lt250 : b2 < h2.size := A2.lt
  have ne251 : b2 ≠ b4 := Nat.ne_of_lt (Nat.lt_of_lt_of_le lt250 sz_b4)
  have lt252 : b2 < h93.size := (Nat.lt_of_lt_of_le (Nat.lt_of_lt_of_le (Nat.lt_of_lt_of_le (Nat.lt_of_lt_of_le (Nat.lt_of_lt_of_le (Nat.lt_of_lt_of_le (Nat.lt_of_lt_of_le (Nat.lt_of_lt_of_le (Nat.lt_of_lt_of_le (Nat.lt_of_lt_of_le (Nat.lt_of_lt_of_le (Nat.lt_of_lt_of_le (Nat.lt_of_lt_of_le (Nat.lt_of_lt_of_le (Nat.lt_of_lt_of_le (Nat.lt_of_lt_of_le (Nat.lt_of_lt_of_le A2.lt K7.1) (Nat.le_of_eq W19.size.symm)) E20.1) K25.1) (Nat.le_of_eq W37.size.symm)) E38.1) K43.1) (Nat.le_of_eq W53.size.symm)) E54.1) K59.1) (Nat.le_of_eq W69.size.symm)) E70.1) K73.1) (Nat.le_of_eq W82.size.symm)) E83.1) K86.1) (Nat.le_of_eq W93.size.symm))
  have ne253 : b2 ≠ b125 := Nat.ne_of_lt (Nat.lt_of_lt_of_le lt252 sz_b125)
  have lt254 : b70 < h93.size := (Nat.lt_of_lt_of_le (Nat.lt_of_lt_of_le (Nat.lt_of_lt_of_le (Nat.lt_of_lt_of_le (Nat.lt_of_lt_of_le A70.lt K73.1) (Nat.le_of_eq W82.size.symm)) E83.1) K86.1) (Nat.le_of_eq W93.size.symm))
  have ne255 : b70 ≠ b125 := Nat.ne_of_lt (Nat.lt_of_lt_of_le lt254 sz_b125)
  have lt256 : b38 < h38.size := A38.lt
  have ne257 : b38 ≠ b40 := Nat.ne_of_lt (Nat.lt_of_lt_of_le lt256 sz_b40)
  have lt258 : b38 < h54.size := (Nat.lt_of_lt_of_le (Nat.lt_of_lt_of_le (Nat.lt_of_lt_of_le A38.lt K43.1) (Nat.le_of_eq W53.size.symm)) E54.1)
  have ne259 : b38 ≠ b56 := Nat.ne_of_lt (Nat.lt_of_lt_of_le lt258 sz_b56)
  have lt260 : b38 < h93.size := (Nat.lt_of_lt_of_le (Nat.lt_of_lt_of_le (Nat.lt_of_lt_of_le (Nat.lt_of_lt_of_le (Nat.lt_of_lt_of_le (Nat.lt_of_lt_of_le (Nat.lt_of_lt_of_le (Nat.lt_of_lt_of_le (Nat.lt_of_lt_of_le (Nat.lt_of_lt_of_le (Nat.lt_of_lt_of_le A38.lt K43.1) (Nat.le_of_eq W53.size.symm)) E54.1) K59.1) (Nat.le_of_eq W69.size.symm)) E70.1) K73.1) (Nat.le_of_eq W82.size.symm)) E83.1) K86.1) (Nat.le_of_eq W93.size.symm))
  have ne261 : b38 ≠ b125 := Nat.ne_of_lt (Nat.lt_of_lt_of_le lt260 sz_b125)
  have lt262 : b54 < h54.size := A54.lt
  have ne263 : b54 ≠ b56 := Nat.ne_of_lt (Nat.lt_of_lt_of_le lt262 sz_b56)
  have lt264 : b54 < h93.size := (Nat.lt_of_lt_of_le (Nat.lt_of_lt_of_le (Nat.lt_of_lt_of_le (Nat.lt_of_lt_of_le (Nat.lt_of_lt_of_le (Nat.lt_of_lt_of_le (Nat.lt_of_lt_of_le (Nat.lt_of_lt_of_le A54.lt K59.1) (Nat.le_of_eq W69.size.symm)) E70.1) K73.1) (Nat.le_of_eq W82.size.symm)) E83.1) K86.1) (Nat.le_of_eq W93.size.symm))
  have ne265 : b54 ≠ b125 := Nat.ne_of_lt (Nat.lt_of_lt_of_le lt264 sz_b125)
  have lt266 : b22 < h38.size := (Nat.lt_of_lt_of_le (Nat.lt_of_lt_of_le f31.lt (Nat.le_of_eq W37.size.symm)) E38.1)
  have ne267 : b22 ≠ b40 := Nat.ne_of_lt (Nat.lt_of_lt_of_le lt266 sz_b40)
  have lt268 : b22 < h54.size := (Nat.lt_of_lt_of_le (Nat.lt_of_lt_of_le (Nat.lt_of_lt_of_le (Nat.lt_of_lt_of_le (Nat.lt_of_lt_of_le f31.lt (Nat.le_of_eq W37.size.symm)) E38.1) K43.1) (Nat.le_of_eq W53.size.symm)) E54.1)
  have ne269 : b22 ≠ b56 := Nat.ne_of_lt (Nat.lt_of_lt_of_le lt268 sz_b56)
  have lt270 : b22 < h93.size := (Nat.lt_of_lt_of_le (Nat.lt_of_lt_of_le (Nat.lt_of_lt_of_le (Nat.lt_of_lt_of_le (Nat.lt_of_lt_of_le (Nat.lt_of_lt_of_le (Nat.lt_of_lt_of_le (Nat.lt_of_lt_of_le (Nat.lt_of_lt_of_le (Nat.lt_of_lt_of_le (Nat.lt_of_lt_of_le (Nat.lt_of_lt_of_le (Nat.lt_of_lt_of_le f31.lt (Nat.le_of_eq W37.size.symm)) E38.1) K43.1) (Nat.le_of_eq W53.size.symm)) E54.1) K59.1) (Nat.le_of_eq W69.size.symm)) E70.1) K73.1) (Nat.le_of_eq W82.size.symm)) E83.1) K86.1) (Nat.le_of_eq W93.size.symm))
  have ne271 : b22 ≠ b125 := Nat.ne_of_lt (Nat.lt_of_lt_of_le lt270 sz_b125)
  have lt272 : b4 < h93.size := (Nat.lt_of_lt_of_le (Nat.lt_of_lt_of_le (Nat.lt_of_lt_of_le (Nat.lt_of_lt_of_le (Nat.lt_of_lt_of_le (Nat.lt_of_lt_of_le (Nat.lt_of_lt_of_le (Nat.lt_of_lt_of_le (Nat.lt_of_lt_of_le (Nat.lt_of_lt_of_le (Nat.lt_of_lt_of_le (Nat.lt_of_lt_of_le (Nat.lt_of_lt_of_le (Nat.lt_of_lt_of_le (Nat.lt_of_lt_of_le (Nat.lt_of_lt_of_le f13.lt (Nat.le_of_eq W19.size.symm)) E20.1) K25.1) (Nat.le_of_eq W37.size.symm)) E38.1) K43.1) (Nat.le_of_eq W53.size.symm)) E54.1) K59.1) (Nat.le_of_eq W69.size.symm)) E70.1) K73.1) (Nat.le_of_eq W82.size.symm)) E83.1) K86.1) (Nat.le_of_eq W93.size.symm))
  have ne273 : b4 ≠ b125 := Nat.ne_of_lt (Nat.lt_of_lt_of_le lt272 sz_b125)
  have lt274 : b40 < h54.size := (Nat.lt_of_lt_of_le (Nat.lt_of_lt_of_le f47.lt (Nat.le_of_eq W53.size.symm)) E54.1)
  have ne275 : b40 ≠ b56 := Nat.ne_of_lt (Nat.lt_of_lt_of_le lt274 sz_b56)
  have lt276 : b40 < h93.size := (Nat.lt_of_lt_of_le (Nat.lt_of_lt_of_le (Nat.lt_of_lt_of_le (Nat.lt_of_lt_of_le (Nat.lt_of_lt_of_le (Nat.lt_of_lt_of_le (Nat.lt_of_lt_of_le (Nat.lt_of_lt_of_le (Nat.lt_of_lt_of_le (Nat.lt_of_lt_of_le f47.lt (Nat.le_of_eq W53.size.symm)) E54.1) K59.1) (Nat.le_of_eq W69.size.symm)) E70.1) K73.1) (Nat.le_of_eq W82.size.symm)) E83.1) K86.1) (Nat.le_of_eq W93.size.symm))
  have ne277 : b40 ≠ b125 := Nat.ne_of_lt (Nat.lt_of_lt_of_le lt276 sz_b125)
  have lt278 : b56 < h93.size := (Nat.lt_of_lt_of_le (Nat.lt_of_lt_of_le (Nat.lt_of_lt_of_le (Nat.lt_of_lt_of_le (Nat.lt_of_lt_of_le (Nat.lt_of_lt_of_le (Nat.lt_of_lt_of_le f63.lt (Nat.le_of_eq W69.size.symm)) E70.1) K73.1) (Nat.le_of_eq W82.size.symm)) E83.1) K86.1) (Nat.le_of_eq W93.size.symm))
  have ne279 : b56 ≠ b125 := Nat.ne_of_lt (Nat.lt_of_lt_of_le lt278 sz_b125)
  refine ⟨_, _, pre0 _ ?_, hrun, hended, _, _, rfl, ?_, ⟨_, rfl⟩, hW, hsame.mono (by decide) (by decide)⟩
  ·
    show Steps p.tables e below (s₁.setTop (mkF m 0 #[.val (.ref o1)] [])) _
    refine XS.aloadN X0.here hx rfl (hb hby d0_0) rfl rfl ?_
    refine st1 _ ?_
    refine XS.aloadN X1.here hx rfl (hb hby d0_4) rfl rfl ?_
    refine st2 _ ?_
    refine XS.dup X2.here hx rfl (hb hby d0_8) rfl rfl ?_
    refine st3 _ ?_
    refine st19 _ ?_
    refine XS.aloadN X19.here hx rfl (hb hby d0_15) rfl rfl ?_
    refine st20 _ ?_
    refine XS.dup X20.here hx rfl (hb hby d0_19) rfl rfl ?_
    refine st21 _ ?_
    refine st37 _ ?_
    refine XS.aloadN X37.here hx rfl (hb hby d0_26) rfl rfl ?_
    refine st38 _ ?_
    refine XS.dup X38.here hx rfl (hb hby d0_30) rfl rfl ?_
    refine st39 _ ?_
    refine st53 _ ?_
    refine XS.aloadN X53.here hx rfl (hb hby d0_37) rfl rfl ?_
    refine st54 _ ?_
    refine XS.dup X54.here hx rfl (hb hby d0_41) rfl rfl ?_
    refine st55 _ ?_
    refine st69 _ ?_
    refine XS.aloadN X69.here hx rfl (hb hby d0_48) rfl rfl ?_
    refine st70 _ ?_
    refine XS.dup X70.here hx rfl (hb hby d0_52) rfl rfl ?_
    refine st71 _ ?_
    refine st82 _ ?_
    refine XS.aloadN X82.here hx rfl (hb hby d0_59) rfl rfl ?_
    refine st83 _ ?_
    refine XS.dup X83.here hx rfl (hb hby d0_63) rfl rfl ?_
    refine st84 _ ?_
    refine st93 _ ?_
    refine XS.aloadN X93.here hx rfl (hb hby d0_70) rfl rfl ?_
    refine XS.aloadN X93.here hx rfl (hb hby d0_71) rfl rfl ?_
    refine st95 _ ?_
    refine XS.iconst X95.here hx rfl (hb hby d0_75) ?_
    refine XS.iconst X95.here hx rfl (hb hby d0_76) ?_
    refine XS.iconst X95.here hx rfl (hb hby d0_77) ?_
    refine XS.iconst X95.here hx rfl (hb hby d0_78) ?_
    refine st124 _ ?_
    show Steps p.tables e below (T124.setTop (mkF m 82 #[.val (.ref o1)] [(.int 0), (.ref o1)])) _
    refine st139 _ ?_
    show Steps p.tables e below (T139.setTop (mkF m 85 #[.val (.ref o1)] [])) _
    exact X139.returnOut hx hret (hb hby d0_85) hr
  ·
    show Q10 Z w1 w2 kw1 kw2 gi1 o1 h0 n0 _ T139.heap _
    rw [e139]
    exact ⟨b20, b83, b2, b70, b38, b54, b22, b4, b40, b56, b125, k23, k5, k41, k57, k126, rfl, N139, KL, (Nat.le_trans M19 sz_b20), (Nat.le_trans M82 sz_b83), (Nat.le_trans (Nat.le_refl _) sz_b2), (Nat.le_trans M69 sz_b70), (Nat.le_trans M37 sz_b38), (Nat.le_trans M53 sz_b54), (Nat.le_trans M20 sz_b22), (Nat.le_trans M2 sz_b4), (Nat.le_trans M38 sz_b40), (Nat.le_trans M54 sz_b56), (Nat.le_trans M93 sz_b125), ne160, (Ne.symm ne98), ne158, ne154, ne156, ne241, (Ne.symm ne113), ne243, ne245, ne247, (Ne.symm ne106), (Ne.symm ne172), (Ne.symm ne182), (Ne.symm ne189), (Ne.symm ne201), (Ne.symm ne121), (Ne.symm ne217), (Ne.symm ne229), ne249, ne104, ne100, ne102, ne203, ne251, ne219, ne231, ne253, (Ne.symm ne180), (Ne.symm ne187), (Ne.symm ne199), (Ne.symm ne119), (Ne.symm ne215), (Ne.symm ne227), ne255, ne178, (Ne.symm ne195), (Ne.symm ne115), ne257, ne259, ne261, (Ne.symm ne197), (Ne.symm ne117), (Ne.symm ne213), ne263, ne265, (Ne.symm ne205), ne267, ne269, ne271, ne221, ne233, ne273, ne275, ne277, ne279, OV26, OV8, f140, f141, f142, f143, f144, f145, Fw139, f146, f147, f148, f149, f150, f151, f152, f161, f162, f163, f164, f165, f166, f167, f168, f169, f170, f173, f174, f175, f176, f183, f184, f185, f190, f191, f206, f207, f208, f209, f222, f223, f234, f235, f238, f239⟩
theorem d10_0 : decode prog_21_method_14_code 0 = .ok (.aload_n 0, 1) := by decide +kernel
theorem d10_1 : decode prog_21_method_14_code 1 = .ok (.getfield 10, 3) := by decide +kernel
theorem d10_4 : decode prog_21_method_14_code 4 = .ok (.invokevirtual 125, 3) := by decide +kernel
theorem d11_0 : decode prog_22_method_6_code 0 = .ok (.aload_n 0, 1) := by decide +kernel
theorem d11_1 : decode prog_22_method_6_code 1 = .ok (.getfield 26, 3) := by decide +kernel
theorem d11_4 : decode prog_22_method_6_code 4 = .ok (.lreturn, 1) := by decide +kernel
theorem ef11 (m : MethodId) (x0 : Addr) : entryFrame m #[(.ref x0)] 1 = mkF m 0 #[.val (.ref x0)] [] := by first | (simp [entryFrame, mkF, argsToLocals, Value.category]; done) | rfl
def Q11 (Z : State) (o1 : Addr) (o2 : Addr) (o4 : Addr) (kc3 : ClassId) (h0 : Heap) (n0 : Nat) (v : Option Value) (h : Heap) (L : List Loc) : Prop :=
  (v = some (.long 256) ∧ Fr n0 L ∧ h = h0)
set_option maxRecDepth 65536 in
set_option maxHeartbeats 40000000 in
theorem rm11 (l : Launch) (Z : State) (a0 : Array Value) (hw : ∀ d ∈ tables_1, d.before a0 Z = true) (ws : List Jvm.Cond) (o1 : Addr) (o2 : Addr) (o4 : Addr) (kc3 : ClassId) (h0 : Heap) (n0 : Nat) (O0 : Old Z n0 h0) (g_o1 : n0 ≤ o1) (g_o2 : n0 ≤ o2) (g_o4 : n0 ≤ o4) (Ov_kc3 : OvrA Z kc3 .int "[I") (P2 : Fld Z h0 o1 "com/example/mycelia/mycelia/wire/MessageTree$IntRecords" "heap" "J" (.long 256)) :
    MetFree l yn10 (head1 (Jvm.Cond.code yn10 prog_22_method_6_code 1 (some .long) :: ws) ({ frames := 0, cells := 0, slots := 0, locals := 0 } : Room)) (fun a U => a = #[(.ref o1)] ∧ Z.Warmed39 U.vm ∧ U.heap = h0) (fun _ _ _ _ _ => True) (fun _ U o U' => ∃ v L, o = .returned v ∧ Q11 Z o1 o2 o4 kc3 h0 n0 v U'.heap L ∧ FrameEnd U o U' L ({ frames := 0, cells := 0, slots := 0, locals := 0 } : Room).cells ({ frames := 0, cells := 0, slots := 0, locals := 0 } : Room).slots) := by
  refine MetFree.of_bodySF (plainFor_of_name pn0) hisR ?_
  intro p e s m args below meth c s₁ Bd hml0 hP hK
  obtain ⟨rfl, hZ, hh⟩ := hP
  have hx := Bd.exec
  have hby := Bd.bytes
  have hml : c.maxLocals = 1 := hml0
  have hown : s.vm.findClass "com/example/mycelia/mycelia/wire/MessageTree$IntRecords" = some m.cls := findClass_of_methodNamed Bd.named
  have hnm := (name_of_methodNamed Bd.named Bd.method).1
  have hret := Bd.returns
  have hlk : meth.locks = false := BodyLoose.notSynchronized Bd
  have X0 : Stand p l e ({ frames := 0, cells := 0, slots := 0, locals := 0 } : Room) s m #[(.ref o1)] below meth c s₁ [] 0 0 := Stand.of_body Bd
  have e0 : s₁.heap = h0 := by rw [← hh, Bd.state]; rfl
  have N0 := Fr.nil n0
  have pre0 : ∀ t, Steps p.tables e below (s₁.setTop (mkF m 0 #[.val (.ref o1)] [])) t → Steps p.tables e below (s₁.setTop (entryFrame m #[(.ref o1)] 1)) t := fun t k => castTop (ef11 m o1) k
  obtain ⟨T1, X1, e1, st1⟩ := getF X0 hx hZ hown (host := "") (Or.inl (own_w hw 101 rfl)) Via.refl e0 P2 (g := (mkF m 1 #[.val (.ref o1)] [(.ref o1)])) rfl rfl (hb hby d11_1)
  obtain ⟨fs, hr, hrun, hended, hW, hsame⟩ := X1.leave (v := some (.long 256)) (fun h => by rw [hret] at h; cases h)
  refine ⟨_, _, pre0 _ ?_, hrun, hended, _, _, rfl, ?_, ⟨_, rfl⟩, hW, hsame.mono (by decide) (by decide)⟩
  ·
    show Steps p.tables e below (s₁.setTop (mkF m 0 #[.val (.ref o1)] [])) _
    refine XS.aloadN X0.here hx rfl (hb hby d11_0) rfl rfl ?_
    refine st1 _ ?_
    show Steps p.tables e below (T1.setTop (mkF m 4 #[.val (.ref o1)] [(.long 256)])) _
    exact retOut X1 hx hret rfl (Or.inr (Or.inl ⟨rfl, rfl, _, rfl⟩)) (hb hby d11_4) hr
  ·
    show Q11 Z o1 o2 o4 kc3 h0 n0 _ T1.heap _
    rw [e1]
    exact ⟨rfl, N0, rfl⟩
theorem pd3 : parseMethodDescriptor "()J" = some ⟨[], some .long⟩ := by decide +kernel
theorem d10_7 : decode prog_21_method_14_code 7 = .ok (.aload_n 0, 1) := by decide +kernel
theorem d10_8 : decode prog_21_method_14_code 8 = .ok (.getfield 16, 3) := by decide +kernel
theorem d10_11 : decode prog_21_method_14_code 11 = .ok (.invokevirtual 125, 3) := by decide +kernel
theorem ef12 (m : MethodId) (x0 : Addr) : entryFrame m #[(.ref x0)] 1 = mkF m 0 #[.val (.ref x0)] [] := by first | (simp [entryFrame, mkF, argsToLocals, Value.category]; done) | rfl
def Q12 (Z : State) (o1 : Addr) (o2 : Addr) (kc3 : ClassId) (h0 : Heap) (n0 : Nat) (v : Option Value) (h : Heap) (L : List Loc) : Prop :=
  (v = some (.long 0) ∧ Fr n0 L ∧ h = h0)
set_option maxRecDepth 65536 in
set_option maxHeartbeats 40000000 in
theorem rm12 (l : Launch) (Z : State) (a0 : Array Value) (hw : ∀ d ∈ tables_1, d.before a0 Z = true) (ws : List Jvm.Cond) (o1 : Addr) (o2 : Addr) (kc3 : ClassId) (h0 : Heap) (n0 : Nat) (O0 : Old Z n0 h0) (g_o1 : n0 ≤ o1) (g_o2 : n0 ≤ o2) (Ov_kc3 : OvrA Z kc3 .int "[I") (P2 : Fld Z h0 o1 "com/example/mycelia/mycelia/wire/MessageTree$IntRecords" "heap" "J" (.long 0)) :
    MetFree l yn10 (head1 (Jvm.Cond.code yn10 prog_22_method_6_code 1 (some .long) :: ws) ({ frames := 0, cells := 0, slots := 0, locals := 0 } : Room)) (fun a U => a = #[(.ref o1)] ∧ Z.Warmed39 U.vm ∧ U.heap = h0) (fun _ _ _ _ _ => True) (fun _ U o U' => ∃ v L, o = .returned v ∧ Q12 Z o1 o2 kc3 h0 n0 v U'.heap L ∧ FrameEnd U o U' L ({ frames := 0, cells := 0, slots := 0, locals := 0 } : Room).cells ({ frames := 0, cells := 0, slots := 0, locals := 0 } : Room).slots) := by
  refine MetFree.of_bodySF (plainFor_of_name pn0) hisR ?_
  intro p e s m args below meth c s₁ Bd hml0 hP hK
  obtain ⟨rfl, hZ, hh⟩ := hP
  have hx := Bd.exec
  have hby := Bd.bytes
  have hml : c.maxLocals = 1 := hml0
  have hown : s.vm.findClass "com/example/mycelia/mycelia/wire/MessageTree$IntRecords" = some m.cls := findClass_of_methodNamed Bd.named
  have hnm := (name_of_methodNamed Bd.named Bd.method).1
  have hret := Bd.returns
  have hlk : meth.locks = false := BodyLoose.notSynchronized Bd
  have X0 : Stand p l e ({ frames := 0, cells := 0, slots := 0, locals := 0 } : Room) s m #[(.ref o1)] below meth c s₁ [] 0 0 := Stand.of_body Bd
  have e0 : s₁.heap = h0 := by rw [← hh, Bd.state]; rfl
  have N0 := Fr.nil n0
  have pre0 : ∀ t, Steps p.tables e below (s₁.setTop (mkF m 0 #[.val (.ref o1)] [])) t → Steps p.tables e below (s₁.setTop (entryFrame m #[(.ref o1)] 1)) t := fun t k => castTop (ef12 m o1) k
  obtain ⟨T1, X1, e1, st1⟩ := getF X0 hx hZ hown (host := "") (Or.inl (own_w hw 101 rfl)) Via.refl e0 P2 (g := (mkF m 1 #[.val (.ref o1)] [(.ref o1)])) rfl rfl (hb hby d11_1)
  obtain ⟨fs, hr, hrun, hended, hW, hsame⟩ := X1.leave (v := some (.long 0)) (fun h => by rw [hret] at h; cases h)
  refine ⟨_, _, pre0 _ ?_, hrun, hended, _, _, rfl, ?_, ⟨_, rfl⟩, hW, hsame.mono (by decide) (by decide)⟩
  ·
    show Steps p.tables e below (s₁.setTop (mkF m 0 #[.val (.ref o1)] [])) _
    refine XS.aloadN X0.here hx rfl (hb hby d11_0) rfl rfl ?_
    refine st1 _ ?_
    show Steps p.tables e below (T1.setTop (mkF m 4 #[.val (.ref o1)] [(.long 0)])) _
    exact retOut X1 hx hret rfl (Or.inr (Or.inl ⟨rfl, rfl, _, rfl⟩)) (hb hby d11_4) hr
  ·
    show Q12 Z o1 o2 kc3 h0 n0 _ T1.heap _
    rw [e1]
    exact ⟨rfl, N0, rfl⟩
theorem d10_14 : decode prog_21_method_14_code 14 = .ok (.ladd, 1) := by decide +kernel
theorem d10_15 : decode prog_21_method_14_code 15 = .ok (.aload_n 0, 1) := by decide +kernel
theorem d10_16 : decode prog_21_method_14_code 16 = .ok (.getfield 22, 3) := by decide +kernel
theorem d10_19 : decode prog_21_method_14_code 19 = .ok (.invokevirtual 129, 3) := by decide +kernel
theorem d12_0 : decode jdk_67_method_92_code 0 = .ok (.aload_n 0, 1) := by decide +kernel
theorem d12_1 : decode jdk_67_method_92_code 1 = .ok (.invokespecial 342, 3) := by decide +kernel
theorem d13_0 : decode jdk_68_method_7_code 0 = .ok (.aload_n 0, 1) := by decide +kernel
theorem d13_1 : decode jdk_68_method_7_code 1 = .ok (.getfield 15, 3) := by decide +kernel
theorem d13_4 : decode jdk_68_method_7_code 4 = .ok (.arraylength, 1) := by decide +kernel
theorem d13_5 : decode jdk_68_method_7_code 5 = .ok (.aload_n 0, 1) := by decide +kernel
theorem d13_6 : decode jdk_68_method_7_code 6 = .ok (.getfield 22, 3) := by decide +kernel
theorem d13_9 : decode jdk_68_method_7_code 9 = .ok (.ishr, 1) := by decide +kernel
theorem d13_10 : decode jdk_68_method_7_code 10 = .ok (.ireturn, 1) := by decide +kernel
theorem ef13 (m : MethodId) (x0 : Addr) : entryFrame m #[(.ref x0)] 1 = mkF m 0 #[.val (.ref x0)] [] := by first | (simp [entryFrame, mkF, argsToLocals, Value.category]; done) | rfl
def Q13 (Z : State) (o1 : Addr) (o2 : Addr) (kc3 : ClassId) (h0 : Heap) (n0 : Nat) (v : Option Value) (h : Heap) (L : List Loc) : Prop :=
  (v = some (.int 16) ∧ Fr n0 L ∧ h = h0)
set_option maxRecDepth 65536 in
set_option maxHeartbeats 40000000 in
theorem rm13 (l : Launch) (Z : State) (a0 : Array Value) (hw : ∀ d ∈ tables_1, d.before a0 Z = true) (ws : List Jvm.Cond) (o1 : Addr) (o2 : Addr) (kc3 : ClassId) (h0 : Heap) (n0 : Nat) (O0 : Old Z n0 h0) (g_o1 : n0 ≤ o1) (g_o2 : n0 ≤ o2) (P1 : Fld Z h0 o1 "java/lang/AbstractStringBuilder" "coder" "B" (.int 0)) (P2 : Fld Z h0 o1 "java/lang/AbstractStringBuilder" "value" "[B" (.ref o2)) (P3 : Arv Z h0 o2 kc3 .byte (16 : Int32) [(.int 0), (.int 0), (.int 0), (.int 0), (.int 0), (.int 0), (.int 0), (.int 0), (.int 0), (.int 0), (.int 0), (.int 0), (.int 0), (.int 0), (.int 0), (.int 0)] (.int 0)) :
    MetFree l yn11 (head1 (Jvm.Cond.code yn11 jdk_68_method_7_code 1 (some .int) :: ws) ({ frames := 0, cells := 0, slots := 0, locals := 0 } : Room)) (fun a U => a = #[(.ref o1)] ∧ Z.Warmed39 U.vm ∧ U.heap = h0) (fun _ _ _ _ _ => True) (fun _ U o U' => ∃ v L, o = .returned v ∧ Q13 Z o1 o2 kc3 h0 n0 v U'.heap L ∧ FrameEnd U o U' L ({ frames := 0, cells := 0, slots := 0, locals := 0 } : Room).cells ({ frames := 0, cells := 0, slots := 0, locals := 0 } : Room).slots) := by
  refine MetFree.of_bodySF (plainFor_of_name pn1) hisR ?_
  intro p e s m args below meth c s₁ Bd hml0 hP hK
  obtain ⟨rfl, hZ, hh⟩ := hP
  have hx := Bd.exec
  have hby := Bd.bytes
  have hml : c.maxLocals = 1 := hml0
  have hown : s.vm.findClass "java/lang/AbstractStringBuilder" = some m.cls := findClass_of_methodNamed Bd.named
  have hnm := (name_of_methodNamed Bd.named Bd.method).1
  have hret := Bd.returns
  have hlk : meth.locks = false := BodyLoose.notSynchronized Bd
  have X0 : Stand p l e ({ frames := 0, cells := 0, slots := 0, locals := 0 } : Room) s m #[(.ref o1)] below meth c s₁ [] 0 0 := Stand.of_body Bd
  have e0 : s₁.heap = h0 := by rw [← hh, Bd.state]; rfl
  have N0 := Fr.nil n0
  have pre0 : ∀ t, Steps p.tables e below (s₁.setTop (mkF m 0 #[.val (.ref o1)] [])) t → Steps p.tables e below (s₁.setTop (entryFrame m #[(.ref o1)] 1)) t := fun t k => castTop (ef13 m o1) k
  obtain ⟨T1, X1, e1, st1⟩ := getF X0 hx hZ hown (host := "") (Or.inl (own_w hw 40 rfl)) Via.refl e0 P2 (g := (mkF m 1 #[.val (.ref o1)] [(.ref o1)])) rfl rfl (hb hby d13_1)
  obtain ⟨cl2, Ar2, qa2, Sa2, Na2, Ha2, Ga2⟩ := id (P3)
  obtain ⟨T3, X3, e3, st3⟩ := getF X1 hx hZ hown (host := "") (Or.inl (own_w hw 42 rfl)) Via.refl e1 P1 (g := (mkF m 6 #[.val (.ref o1)] [(.ref o1), (.int 16)])) rfl rfl (hb hby d13_6)
  obtain ⟨fs, hr, hrun, hended, hW, hsame⟩ := X3.leave (v := some (.int 16)) (fun h => by rw [hret] at h; cases h)
  refine ⟨_, _, pre0 _ ?_, hrun, hended, _, _, rfl, ?_, ⟨_, rfl⟩, hW, hsame.mono (by decide) (by decide)⟩
  ·
    show Steps p.tables e below (s₁.setTop (mkF m 0 #[.val (.ref o1)] [])) _
    refine XS.aloadN X0.here hx rfl (hb hby d13_0) rfl rfl ?_
    refine st1 _ ?_
    refine X1.arraylength hx (by rw [e1]; exact Ar2.1) (State.isArrayOf_alike hZ.alike Ar2.2.1) (g := (mkF m 4 #[.val (.ref o1)] [(.ref o2)])) rfl rfl (hb hby d13_4) _ ?_
    rw [len_of Sa2 Na2]
    refine XS.aloadN X1.here hx rfl (hb hby d13_5) rfl rfl ?_
    refine st3 _ ?_
    refine XS.ishr X3.here hx rfl (hb hby d13_9) rfl ?_
    show Steps p.tables e below (T3.setTop (mkF m 10 #[.val (.ref o1)] [(.int 16)])) _
    exact retI X3 hx hret (hb hby d13_10) hr
  ·
    show Q13 Z o1 o2 kc3 h0 n0 _ T3.heap _
    rw [e3]
    exact ⟨rfl, N0, rfl⟩
theorem pd4 : parseMethodDescriptor "()I" = some ⟨[], some .int⟩ := by decide +kernel
theorem d12_4 : decode jdk_67_method_92_code 4 = .ok (.ireturn, 1) := by decide +kernel
theorem ef14 (m : MethodId) (x0 : Addr) : entryFrame m #[(.ref x0)] 1 = mkF m 0 #[.val (.ref x0)] [] := by first | (simp [entryFrame, mkF, argsToLocals, Value.category]; done) | rfl
def Q14 (Z : State) (o1 : Addr) (o2 : Addr) (kc3 : ClassId) (h0 : Heap) (n0 : Nat) (v : Option Value) (h : Heap) (L : List Loc) : Prop :=
  (v = some (.int 16) ∧ Fr n0 L ∧ h = h0)
set_option maxRecDepth 65536 in
set_option maxHeartbeats 40000000 in
theorem rm14 (l : Launch) (Z : State) (a0 : Array Value) (hw : ∀ d ∈ tables_1, d.before a0 Z = true) (ws : List Jvm.Cond) (o1 : Addr) (o2 : Addr) (kc3 : ClassId) (h0 : Heap) (n0 : Nat) (O0 : Old Z n0 h0) (g_o1 : n0 ≤ o1) (g_o2 : n0 ≤ o2) (P0 : Exa Z h0 o1 "java/lang/StringBuilder") (P1 : Fld Z h0 o1 "java/lang/AbstractStringBuilder" "coder" "B" (.int 0)) (P2 : Fld Z h0 o1 "java/lang/AbstractStringBuilder" "value" "[B" (.ref o2)) (P3 : Arv Z h0 o2 kc3 .byte (16 : Int32) [(.int 0), (.int 0), (.int 0), (.int 0), (.int 0), (.int 0), (.int 0), (.int 0), (.int 0), (.int 0), (.int 0), (.int 0), (.int 0), (.int 0), (.int 0), (.int 0)] (.int 0)) :
    MetFree l yn12 (head1 (Jvm.Cond.code yn12 jdk_67_method_92_code 1 (some .int) :: ws) ({ frames := 1, cells := 0, slots := 0, locals := 12 } : Room)) (fun a U => a = #[(.ref o1)] ∧ Z.Warmed39 U.vm ∧ U.heap = h0) (fun _ _ _ _ _ => True) (fun _ U o U' => ∃ v L, o = .returned v ∧ Q14 Z o1 o2 kc3 h0 n0 v U'.heap L ∧ FrameEnd U o U' L ({ frames := 1, cells := 0, slots := 0, locals := 12 } : Room).cells ({ frames := 1, cells := 0, slots := 0, locals := 12 } : Room).slots) := by
  refine MetFree.of_bodySF (plainFor_of_name pn2) hisR ?_
  intro p e s m args below meth c s₁ Bd hml0 hP hK
  obtain ⟨rfl, hZ, hh⟩ := hP
  have hx := Bd.exec
  have hby := Bd.bytes
  have hml : c.maxLocals = 1 := hml0
  have hown : s.vm.findClass "java/lang/StringBuilder" = some m.cls := findClass_of_methodNamed Bd.named
  have hnm := (name_of_methodNamed Bd.named Bd.method).1
  have hret := Bd.returns
  have hlk : meth.locks = false := BodyLoose.notSynchronized Bd
  have X0 : Stand p l e ({ frames := 1, cells := 0, slots := 0, locals := 12 } : Room) s m #[(.ref o1)] below meth c s₁ [] 0 0 := Stand.of_body Bd
  have e0 : s₁.heap = h0 := by rw [← hh, Bd.state]; rfl
  have N0 := Fr.nil n0
  have pre0 : ∀ t, Steps p.tables e below (s₁.setTop (mkF m 0 #[.val (.ref o1)] [])) t → Steps p.tables e below (s₁.setTop (entryFrame m #[(.ref o1)] 1)) t := fun t k => castTop (ef14 m o1) k
  obtain ⟨_, T1, L1, X1, hQ1, st1⟩ := own_su X0 hx hZ hown (y := yn11) (own_w hw 121 rfl) (own_w hw 122 rfl) (own_w hw 123 rfl) (own_w hw 125 rfl) (own_w hw 34 rfl) e0 P0 (argsL := []) (rest := []) (rm13 l Z a0 hw [] o1 o2 kc3 h0 n0 O0 g_o1 g_o2 P1 P2 P3) (g := (mkF m 1 #[.val (.ref o1)] [(.ref o1)])) rfl (by rw [hml]; rfl) rfl (hb hby d12_1) (lenOf pd4 rfl) (W := 0) (c1 := 0) (s1 := 0)
  obtain ⟨rfl, Nq2, e3⟩ := hQ1
  have N1 := Fr.app N0 Nq2
  obtain ⟨fs, hr, hrun, hended, hW, hsame⟩ := X1.leave (v := some (.int 16)) (fun h => by rw [hret] at h; cases h)
  refine ⟨_, _, pre0 _ ?_, hrun, hended, _, _, rfl, ?_, ⟨_, rfl⟩, hW, hsame.mono (by decide) (by decide)⟩
  ·
    show Steps p.tables e below (s₁.setTop (mkF m 0 #[.val (.ref o1)] [])) _
    refine XS.aloadN X0.here hx rfl (hb hby d12_0) rfl rfl ?_
    refine st1 _ ?_
    show Steps p.tables e below (T1.setTop (mkF m 4 #[.val (.ref o1)] [(.int 16)])) _
    exact retI X1 hx hret (hb hby d12_4) hr
  ·
    show Q14 Z o1 o2 kc3 h0 n0 _ T1.heap _
    rw [e3]
    exact ⟨rfl, N1, rfl⟩
theorem d10_22 : decode prog_21_method_14_code 22 = .ok (.i2l, 1) := by decide +kernel
theorem d10_23 : decode prog_21_method_14_code 23 = .ok (.aload_n 0, 1) := by decide +kernel
theorem d10_24 : decode prog_21_method_14_code 24 = .ok (.getfield 89, 3) := by decide +kernel
theorem d10_27 : decode prog_21_method_14_code 27 = .ok (.ifCond .eq 7, 3) := by decide +kernel
theorem d10_34 : decode prog_21_method_14_code 34 = .ok (.iconst 0, 1) := by decide +kernel
theorem d10_35 : decode prog_21_method_14_code 35 = .ok (.lshl, 1) := by decide +kernel
theorem d10_36 : decode prog_21_method_14_code 36 = .ok (.ladd, 1) := by decide +kernel
theorem d10_37 : decode prog_21_method_14_code 37 = .ok (.aload_n 0, 1) := by decide +kernel
theorem d10_38 : decode prog_21_method_14_code 38 = .ok (.getfield 26, 3) := by decide +kernel
theorem d10_41 : decode prog_21_method_14_code 41 = .ok (.invokevirtual 129, 3) := by decide +kernel
theorem d10_44 : decode prog_21_method_14_code 44 = .ok (.i2l, 1) := by decide +kernel
theorem d10_45 : decode prog_21_method_14_code 45 = .ok (.aload_n 0, 1) := by decide +kernel
theorem d10_46 : decode prog_21_method_14_code 46 = .ok (.getfield 78, 3) := by decide +kernel
theorem d10_49 : decode prog_21_method_14_code 49 = .ok (.ifCond .eq 7, 3) := by decide +kernel
theorem d10_56 : decode prog_21_method_14_code 56 = .ok (.iconst 0, 1) := by decide +kernel
theorem d10_57 : decode prog_21_method_14_code 57 = .ok (.lshl, 1) := by decide +kernel
theorem d10_58 : decode prog_21_method_14_code 58 = .ok (.ladd, 1) := by decide +kernel
theorem d10_59 : decode prog_21_method_14_code 59 = .ok (.aload_n 0, 1) := by decide +kernel
theorem d10_60 : decode prog_21_method_14_code 60 = .ok (.getfield 105, 3) := by decide +kernel
theorem d10_63 : decode prog_21_method_14_code 63 = .ok (.aload_n 0, 1) := by decide +kernel
theorem d10_64 : decode prog_21_method_14_code 64 = .ok (.getfield 108, 3) := by decide +kernel
theorem d10_67 : decode prog_21_method_14_code 67 = .ok (.ifCond .eq 7, 3) := by decide +kernel
theorem d10_74 : decode prog_21_method_14_code 74 = .ok (.iconst 0, 1) := by decide +kernel
theorem d10_75 : decode prog_21_method_14_code 75 = .ok (.lshl, 1) := by decide +kernel
theorem d10_76 : decode prog_21_method_14_code 76 = .ok (.ladd, 1) := by decide +kernel
theorem d10_77 : decode prog_21_method_14_code 77 = .ok (.ldc2_w 132, 3) := by decide +kernel
theorem d10_80 : decode prog_21_method_14_code 80 = .ok (.aload_n 0, 1) := by decide +kernel
theorem d10_81 : decode prog_21_method_14_code 81 = .ok (.getfield 32, 3) := by decide +kernel
theorem d10_84 : decode prog_21_method_14_code 84 = .ok (.invokeinterface 134 1, 5) := by decide +kernel
theorem d14_0 : decode jdk_38_method_8_code 0 = .ok (.aload_n 0, 1) := by decide +kernel
theorem d14_1 : decode jdk_38_method_8_code 1 = .ok (.getfield 48, 3) := by decide +kernel
theorem d14_4 : decode jdk_38_method_8_code 4 = .ok (.ireturn, 1) := by decide +kernel
theorem ef15 (m : MethodId) (x0 : Addr) : entryFrame m #[(.ref x0)] 1 = mkF m 0 #[.val (.ref x0)] [] := by first | (simp [entryFrame, mkF, argsToLocals, Value.category]; done) | rfl
def Q15 (Z : State) (o1 : Addr) (h0 : Heap) (n0 : Nat) (v : Option Value) (h : Heap) (L : List Loc) : Prop :=
  (v = some (.int 0) ∧ Fr n0 L ∧ h = h0)
set_option maxRecDepth 65536 in
set_option maxHeartbeats 40000000 in
theorem rm15 (l : Launch) (Z : State) (a0 : Array Value) (hw : ∀ d ∈ tables_1, d.before a0 Z = true) (ws : List Jvm.Cond) (o1 : Addr) (h0 : Heap) (n0 : Nat) (O0 : Old Z n0 h0) (g_o1 : n0 ≤ o1) (P3 : Fld Z h0 o1 "java/util/ArrayList" "size" "I" (.int 0)) :
    MetFree l yn13 (head1 (Jvm.Cond.code yn13 jdk_38_method_8_code 1 (some .int) :: ws) ({ frames := 0, cells := 0, slots := 0, locals := 0 } : Room)) (fun a U => a = #[(.ref o1)] ∧ Z.Warmed39 U.vm ∧ U.heap = h0) (fun _ _ _ _ _ => True) (fun _ U o U' => ∃ v L, o = .returned v ∧ Q15 Z o1 h0 n0 v U'.heap L ∧ FrameEnd U o U' L ({ frames := 0, cells := 0, slots := 0, locals := 0 } : Room).cells ({ frames := 0, cells := 0, slots := 0, locals := 0 } : Room).slots) := by
  refine MetFree.of_bodySF (plainFor_of_name pn5) hisR ?_
  intro p e s m args below meth c s₁ Bd hml0 hP hK
  obtain ⟨rfl, hZ, hh⟩ := hP
  have hx := Bd.exec
  have hby := Bd.bytes
  have hml : c.maxLocals = 1 := hml0
  have hown : s.vm.findClass "java/util/ArrayList" = some m.cls := findClass_of_methodNamed Bd.named
  have hnm := (name_of_methodNamed Bd.named Bd.method).1
  have hret := Bd.returns
  have hlk : meth.locks = false := BodyLoose.notSynchronized Bd
  have X0 : Stand p l e ({ frames := 0, cells := 0, slots := 0, locals := 0 } : Room) s m #[(.ref o1)] below meth c s₁ [] 0 0 := Stand.of_body Bd
  have e0 : s₁.heap = h0 := by rw [← hh, Bd.state]; rfl
  have N0 := Fr.nil n0
  have pre0 : ∀ t, Steps p.tables e below (s₁.setTop (mkF m 0 #[.val (.ref o1)] [])) t → Steps p.tables e below (s₁.setTop (entryFrame m #[(.ref o1)] 1)) t := fun t k => castTop (ef15 m o1) k
  obtain ⟨T1, X1, e1, st1⟩ := getF X0 hx hZ hown (host := "") (Or.inl (own_w hw 144 rfl)) Via.refl e0 P3 (g := (mkF m 1 #[.val (.ref o1)] [(.ref o1)])) rfl rfl (hb hby d14_1)
  obtain ⟨fs, hr, hrun, hended, hW, hsame⟩ := X1.leave (v := some (.int 0)) (fun h => by rw [hret] at h; cases h)
  refine ⟨_, _, pre0 _ ?_, hrun, hended, _, _, rfl, ?_, ⟨_, rfl⟩, hW, hsame.mono (by decide) (by decide)⟩
  ·
    show Steps p.tables e below (s₁.setTop (mkF m 0 #[.val (.ref o1)] [])) _
    refine XS.aloadN X0.here hx rfl (hb hby d14_0) rfl rfl ?_
    refine st1 _ ?_
    show Steps p.tables e below (T1.setTop (mkF m 4 #[.val (.ref o1)] [(.int 0)])) _
    exact retI X1 hx hret (hb hby d14_4) hr
  ·
    show Q15 Z o1 h0 n0 _ T1.heap _
    rw [e1]
    exact ⟨rfl, N0, rfl⟩
theorem d10_89 : decode prog_21_method_14_code 89 = .ok (.i2l, 1) := by decide +kernel
theorem d10_90 : decode prog_21_method_14_code 90 = .ok (.lmul, 1) := by decide +kernel
theorem d10_91 : decode prog_21_method_14_code 91 = .ok (.ladd, 1) := by decide +kernel
theorem d10_92 : decode prog_21_method_14_code 92 = .ok (.ldc2_w 137, 3) := by decide +kernel
theorem d10_95 : decode prog_21_method_14_code 95 = .ok (.aload_n 0, 1) := by decide +kernel
theorem d10_96 : decode prog_21_method_14_code 96 = .ok (.getfield 62, 3) := by decide +kernel
theorem d10_99 : decode prog_21_method_14_code 99 = .ok (.i2l, 1) := by decide +kernel
theorem d10_100 : decode prog_21_method_14_code 100 = .ok (.lmul, 1) := by decide +kernel
theorem d10_101 : decode prog_21_method_14_code 101 = .ok (.ladd, 1) := by decide +kernel
theorem d10_102 : decode prog_21_method_14_code 102 = .ok (.lreturn, 1) := by decide +kernel
theorem ef16 (m : MethodId) (x0 : Addr) : entryFrame m #[(.ref x0)] 1 = mkF m 0 #[.val (.ref x0)] [] := by first | (simp [entryFrame, mkF, argsToLocals, Value.category]; done) | rfl
def Q16 (Z : State) (o1 : Addr) (o2 : Addr) (o3 : Addr) (o4 : Addr) (o5 : Addr) (o6 : Addr) (o7 : Addr) (o8 : Addr) (o9 : Addr) (o10 : Addr) (o11 : Addr) (o14 : Addr) (kc12 : ClassId) (kc13 : ClassId) (kc15 : ClassId) (kc16 : ClassId) (h0 : Heap) (n0 : Nat) (v : Option Value) (h : Heap) (L : List Loc) : Prop :=
  (v = some (.long 288) ∧ Fr n0 L ∧ h = h0)
set_option maxRecDepth 65536 in
set_option maxHeartbeats 40000000 in
theorem rm16 (l : Launch) (Z : State) (a0 : Array Value) (hw : ∀ d ∈ tables_1, d.before a0 Z = true) (ws : List Jvm.Cond) (o1 : Addr) (o2 : Addr) (o3 : Addr) (o4 : Addr) (o5 : Addr) (o6 : Addr) (o7 : Addr) (o8 : Addr) (o9 : Addr) (o10 : Addr) (o11 : Addr) (o14 : Addr) (kc12 : ClassId) (kc13 : ClassId) (kc15 : ClassId) (kc16 : ClassId) (h0 : Heap) (n0 : Nat) (O0 : Old Z n0 h0) (g_o1 : n0 ≤ o1) (g_o2 : n0 ≤ o2) (g_o3 : n0 ≤ o3) (g_o4 : n0 ≤ o4) (g_o5 : n0 ≤ o5) (g_o6 : n0 ≤ o6) (g_o7 : n0 ≤ o7) (g_o8 : n0 ≤ o8) (g_o9 : n0 ≤ o9) (g_o10 : n0 ≤ o10) (g_o11 : n0 ≤ o11) (g_o14 : n0 ≤ o14) (Ov_kc12 : OvrA Z kc12 .int "[I") (Ov_kc13 : OvrA Z kc13 .int "[I") (P1 : Fld Z h0 o1 "com/example/mycelia/mycelia/wire/MessageTree" "attributes" "Lcom/example/mycelia/mycelia/wire/MessageTree$IntRecords;" (.ref o2)) (P3 : Fld Z h0 o1 "com/example/mycelia/mycelia/wire/MessageTree" "deepest" "I" (.int 0)) (P4 : Fld Z h0 o1 "com/example/mycelia/mycelia/wire/MessageTree" "elements" "Lcom/example/mycelia/mycelia/wire/MessageTree$IntRecords;" (.ref o4)) (P5 : Fld Z h0 o1 "com/example/mycelia/mycelia/wire/MessageTree" "names" "Ljava/util/List;" (.ref o5)) (P7 : Fld Z h0 o1 "com/example/mycelia/mycelia/wire/MessageTree" "passed" "J" (.long 0)) (P8 : Fld Z h0 o1 "com/example/mycelia/mycelia/wire/MessageTree" "text" "Ljava/lang/StringBuilder;" (.ref o6)) (P9 : Fld Z h0 o1 "com/example/mycelia/mycelia/wire/MessageTree" "values" "Ljava/lang/StringBuilder;" (.ref o7)) (P10 : Fld Z h0 o1 "com/example/mycelia/mycelia/wire/MessageTree" "widePassed" "Z" (.int 0)) (P11 : Fld Z h0 o1 "com/example/mycelia/mycelia/wire/MessageTree" "wideText" "Z" (.int 0)) (P12 : Fld Z h0 o1 "com/example/mycelia/mycelia/wire/MessageTree" "wideValues" "Z" (.int 0)) (P13 : Exa Z h0 o2 "com/example/mycelia/mycelia/wire/MessageTree$IntRecords") (P15 : Fld Z h0 o2 "com/example/mycelia/mycelia/wire/MessageTree$IntRecords" "heap" "J" (.long 0)) (P19 : Exa Z h0 o4 "com/example/mycelia/mycelia/wire/MessageTree$IntRecords") (P21 : Fld Z h0 o4 "com/example/mycelia/mycelia/wire/MessageTree$IntRecords" "heap" "J" (.long 256)) (P23 : Exa Z h0 o5 "java/util/ArrayList") (P26 : Fld Z h0 o5 "java/util/ArrayList" "size" "I" (.int 0)) (P27 : Exa Z h0 o6 "java/lang/StringBuilder") (P28 : Fld Z h0 o6 "java/lang/AbstractStringBuilder" "coder" "B" (.int 0)) (P29 : Fld Z h0 o6 "java/lang/AbstractStringBuilder" "value" "[B" (.ref o10)) (P30 : Exa Z h0 o7 "java/lang/StringBuilder") (P31 : Fld Z h0 o7 "java/lang/AbstractStringBuilder" "coder" "B" (.int 0)) (P32 : Fld Z h0 o7 "java/lang/AbstractStringBuilder" "value" "[B" (.ref o11)) (P37 : Arv Z h0 o10 kc15 .byte (16 : Int32) [(.int 0), (.int 0), (.int 0), (.int 0), (.int 0), (.int 0), (.int 0), (.int 0), (.int 0), (.int 0), (.int 0), (.int 0), (.int 0), (.int 0), (.int 0), (.int 0)] (.int 0)) (P39 : Arv Z h0 o11 kc16 .byte (16 : Int32) [(.int 0), (.int 0), (.int 0), (.int 0), (.int 0), (.int 0), (.int 0), (.int 0), (.int 0), (.int 0), (.int 0), (.int 0), (.int 0), (.int 0), (.int 0), (.int 0)] (.int 0)) :
    MetFree l yn15 (head1 (Jvm.Cond.code yn15 prog_21_method_14_code 1 (some .long) :: ws) ({ frames := 2, cells := 0, slots := 0, locals := 26 } : Room)) (fun a U => a = #[(.ref o1)] ∧ Z.Warmed39 U.vm ∧ U.heap = h0) (fun _ _ _ _ _ => True) (fun _ U o U' => ∃ v L, o = .returned v ∧ Q16 Z o1 o2 o3 o4 o5 o6 o7 o8 o9 o10 o11 o14 kc12 kc13 kc15 kc16 h0 n0 v U'.heap L ∧ FrameEnd U o U' L ({ frames := 2, cells := 0, slots := 0, locals := 26 } : Room).cells ({ frames := 2, cells := 0, slots := 0, locals := 26 } : Room).slots) := by
  refine MetFree.of_bodySF (plainFor_of_name pn8) hisR ?_
  intro p e s m args below meth c s₁ Bd hml0 hP hK
  obtain ⟨rfl, hZ, hh⟩ := hP
  have hx := Bd.exec
  have hby := Bd.bytes
  have hml : c.maxLocals = 1 := hml0
  have hown : s.vm.findClass "com/example/mycelia/mycelia/wire/MessageTree" = some m.cls := findClass_of_methodNamed Bd.named
  have hnm := (name_of_methodNamed Bd.named Bd.method).1
  have hret := Bd.returns
  have hlk : meth.locks = false := BodyLoose.notSynchronized Bd
  have X0 : Stand p l e ({ frames := 2, cells := 0, slots := 0, locals := 26 } : Room) s m #[(.ref o1)] below meth c s₁ [] 0 0 := Stand.of_body Bd
  have e0 : s₁.heap = h0 := by rw [← hh, Bd.state]; rfl
  have N0 := Fr.nil n0
  have pre0 : ∀ t, Steps p.tables e below (s₁.setTop (mkF m 0 #[.val (.ref o1)] [])) t → Steps p.tables e below (s₁.setTop (entryFrame m #[(.ref o1)] 1)) t := fun t k => castTop (ef16 m o1) k
  obtain ⟨T1, X1, e1, st1⟩ := getF X0 hx hZ hown (host := "") (Or.inl (own_w hw 20 rfl)) Via.refl e0 P4 (g := (mkF m 1 #[.val (.ref o1)] [(.ref o1)])) rfl rfl (hb hby d10_1)
  obtain ⟨_, T2, L2, X2, hQ2, st2⟩ := own_vb X1 hx hZ hown (y := yn10) (own_w hw 111 rfl) (own_w hw 112 rfl) (own_w hw 114 rfl) (own_w hw 113 rfl) (own_w hw 115 rfl) (own_w hw 11 rfl) e1 P19 (argsL := []) (rest := []) (rm11 l Z a0 hw [] o4 o9 o14 kc13 h0 n0 O0 g_o4 g_o9 g_o14 Ov_kc13 P21) (g := (mkF m 4 #[.val (.ref o1)] [(.ref o4)])) rfl (by rw [hml]; rfl) rfl (hb hby d10_4) (lenOf pd3 rfl) (W := 0) (c1 := 0) (s1 := 0)
  obtain ⟨rfl, Nq3, e4⟩ := hQ2
  have N2 := Fr.app N0 Nq3
  obtain ⟨T5, X5, e5, st5⟩ := getF X2 hx hZ hown (host := "") (Or.inl (own_w hw 22 rfl)) Via.refl e4 P1 (g := (mkF m 8 #[.val (.ref o1)] [(.ref o1), (.long 256)])) rfl rfl (hb hby d10_8)
  obtain ⟨_, T6, L6, X6, hQ6, st6⟩ := own_vb X5 hx hZ hown (y := yn10) (own_w hw 111 rfl) (own_w hw 112 rfl) (own_w hw 114 rfl) (own_w hw 113 rfl) (own_w hw 115 rfl) (own_w hw 11 rfl) e5 P13 (argsL := []) (rest := [(.long 256)]) (rm12 l Z a0 hw [] o2 o8 kc12 h0 n0 O0 g_o2 g_o8 Ov_kc12 P15) (g := (mkF m 11 #[.val (.ref o1)] [(.ref o2), (.long 256)])) rfl (by rw [hml]; rfl) rfl (hb hby d10_11) (lenOf pd3 rfl) (W := 2) (c1 := 0) (s1 := 0)
  obtain ⟨rfl, Nq7, e8⟩ := hQ6
  have N6 := Fr.app N2 Nq7
  obtain ⟨T9, X9, e9, st9⟩ := getF X6 hx hZ hown (host := "") (Or.inl (own_w hw 44 rfl)) Via.refl e8 P8 (g := (mkF m 16 #[.val (.ref o1)] [(.ref o1), (.long 256)])) rfl rfl (hb hby d10_16)
  obtain ⟨_, T10, L10, X10, hQ10, st10⟩ := own_vb X9 hx hZ hown (y := yn12) (own_w hw 116 rfl) (own_w hw 117 rfl) (own_w hw 119 rfl) (own_w hw 118 rfl) (own_w hw 120 rfl) (own_w hw 26 rfl) e9 P27 (argsL := []) (rest := [(.long 256)]) (rm14 l Z a0 hw [] o6 o10 kc15 h0 n0 O0 g_o6 g_o10 P27 P28 P29 P37) (g := (mkF m 19 #[.val (.ref o1)] [(.ref o6), (.long 256)])) rfl (by rw [hml]; rfl) rfl (hb hby d10_19) (lenOf pd4 rfl) (W := 2) (c1 := 0) (s1 := 0)
  obtain ⟨rfl, Nq11, e12⟩ := hQ10
  have N10 := Fr.app N6 Nq11
  obtain ⟨T13, X13, e13, st13⟩ := getF X10 hx hZ hown (host := "") (Or.inl (own_w hw 126 rfl)) Via.refl e12 P11 (g := (mkF m 24 #[.val (.ref o1)] [(.ref o1), (.long 16), (.long 256)])) rfl rfl (hb hby d10_24)
  obtain ⟨T14, X14, e14, st14⟩ := getF X13 hx hZ hown (host := "") (Or.inl (own_w hw 46 rfl)) Via.refl e13 P9 (g := (mkF m 38 #[.val (.ref o1)] [(.ref o1), (.long 272)])) rfl rfl (hb hby d10_38)
  obtain ⟨_, T15, L15, X15, hQ15, st15⟩ := own_vb X14 hx hZ hown (y := yn12) (own_w hw 116 rfl) (own_w hw 117 rfl) (own_w hw 119 rfl) (own_w hw 118 rfl) (own_w hw 120 rfl) (own_w hw 26 rfl) e14 P30 (argsL := []) (rest := [(.long 272)]) (rm14 l Z a0 hw [] o7 o11 kc16 h0 n0 O0 g_o7 g_o11 P30 P31 P32 P39) (g := (mkF m 41 #[.val (.ref o1)] [(.ref o7), (.long 272)])) rfl (by rw [hml]; rfl) rfl (hb hby d10_41) (lenOf pd4 rfl) (W := 2) (c1 := 0) (s1 := 0)
  obtain ⟨rfl, Nq16, e17⟩ := hQ15
  have N15 := Fr.app N10 Nq16
  obtain ⟨T18, X18, e18, st18⟩ := getF X15 hx hZ hown (host := "") (Or.inl (own_w hw 128 rfl)) Via.refl e17 P12 (g := (mkF m 46 #[.val (.ref o1)] [(.ref o1), (.long 16), (.long 272)])) rfl rfl (hb hby d10_46)
  obtain ⟨T19, X19, e19, st19⟩ := getF X18 hx hZ hown (host := "") (Or.inl (own_w hw 130 rfl)) Via.refl e18 P7 (g := (mkF m 60 #[.val (.ref o1)] [(.ref o1), (.long 288)])) rfl rfl (hb hby d10_60)
  obtain ⟨T20, X20, e20, st20⟩ := getF X19 hx hZ hown (host := "") (Or.inl (own_w hw 132 rfl)) Via.refl e19 P10 (g := (mkF m 64 #[.val (.ref o1)] [(.ref o1), (.long 0), (.long 288)])) rfl rfl (hb hby d10_64)
  obtain ⟨T21, X21, e21, st21⟩ := getF X20 hx hZ hown (host := "") (Or.inl (own_w hw 72 rfl)) Via.refl e20 P5 (g := (mkF m 81 #[.val (.ref o1)] [(.ref o1), (.long 240), (.long 288)])) rfl rfl (hb hby d10_81)
  obtain ⟨_, T22, L22, X22, hQ22, st22⟩ := own_ib X21 hx hZ hown (z := yn14) (y := yn13) (own_w hw 135 rfl) (own_w hw 136 rfl) (mvT hZ (own_w hw 137 rfl)) (own_w hw 138 rfl) (own_w hw 139 rfl) (own_w hw 140 rfl) (mvT hZ (own_w hw 141 rfl)) (own_w hw 142 rfl) (own_w hw 143 rfl) (own_w hw 50 rfl) e21 P23 (argsL := []) (rest := [(.long 240), (.long 288)]) (rm15 l Z a0 hw [] o5 h0 n0 O0 g_o5 P26) (g := (mkF m 84 #[.val (.ref o1)] [(.ref o5), (.long 240), (.long 288)])) rfl (by rw [hml]; rfl) rfl (hb hby d10_84) (lenOf pd4 rfl) (W := 4) (c1 := 0) (s1 := 0)
  obtain ⟨rfl, Nq23, e24⟩ := hQ22
  have N22 := Fr.app N15 Nq23
  obtain ⟨T25, X25, e25, st25⟩ := getF X22 hx hZ hown (host := "") (Or.inl (own_w hw 147 rfl)) Via.refl e24 P3 (g := (mkF m 96 #[.val (.ref o1)] [(.ref o1), (.long 56), (.long 288)])) rfl rfl (hb hby d10_96)
  obtain ⟨fs, hr, hrun, hended, hW, hsame⟩ := X25.leave (v := some (.long 288)) (fun h => by rw [hret] at h; cases h)
  refine ⟨_, _, pre0 _ ?_, hrun, hended, _, _, rfl, ?_, ⟨_, rfl⟩, hW, hsame.mono (by decide) (by decide)⟩
  ·
    show Steps p.tables e below (s₁.setTop (mkF m 0 #[.val (.ref o1)] [])) _
    refine XS.aloadN X0.here hx rfl (hb hby d10_0) rfl rfl ?_
    refine st1 _ ?_
    refine st2 _ ?_
    refine XS.aloadN X2.here hx rfl (hb hby d10_7) rfl rfl ?_
    refine st5 _ ?_
    refine st6 _ ?_
    refine XS.ladd X6.here hx rfl (hb hby d10_14) rfl ?_
    refine XS.aloadN X6.here hx rfl (hb hby d10_15) rfl rfl ?_
    refine st9 _ ?_
    refine st10 _ ?_
    refine XS.i2l X10.here hx rfl (hb hby d10_22) rfl ?_
    refine XS.aloadN X10.here hx rfl (hb hby d10_23) rfl rfl ?_
    refine st13 _ ?_
    refine XS.ifYes X13.here hx rfl (pc0 := 27) (pc' := 34) rfl (hb hby d10_27) rfl ((if0 _ _).trans (teq (by decide : (0 : Int32) = (0 : Int32))).1) (by decide) (by decide) ?_
    refine XS.iconst X13.here hx rfl (hb hby d10_34) ?_
    refine XS.lshl X13.here hx rfl (hb hby d10_35) rfl ?_
    refine XS.ladd X13.here hx rfl (hb hby d10_36) rfl ?_
    refine XS.aloadN X13.here hx rfl (hb hby d10_37) rfl rfl ?_
    refine st14 _ ?_
    refine st15 _ ?_
    refine XS.i2l X15.here hx rfl (hb hby d10_44) rfl ?_
    refine XS.aloadN X15.here hx rfl (hb hby d10_45) rfl rfl ?_
    refine st18 _ ?_
    refine XS.ifYes X18.here hx rfl (pc0 := 49) (pc' := 56) rfl (hb hby d10_49) rfl ((if0 _ _).trans (teq (by decide : (0 : Int32) = (0 : Int32))).1) (by decide) (by decide) ?_
    refine XS.iconst X18.here hx rfl (hb hby d10_56) ?_
    refine XS.lshl X18.here hx rfl (hb hby d10_57) rfl ?_
    refine XS.ladd X18.here hx rfl (hb hby d10_58) rfl ?_
    refine XS.aloadN X18.here hx rfl (hb hby d10_59) rfl rfl ?_
    refine st19 _ ?_
    refine XS.aloadN X19.here hx rfl (hb hby d10_63) rfl rfl ?_
    refine st20 _ ?_
    refine XS.ifYes X20.here hx rfl (pc0 := 67) (pc' := 74) rfl (hb hby d10_67) rfl ((if0 _ _).trans (teq (by decide : (0 : Int32) = (0 : Int32))).1) (by decide) (by decide) ?_
    refine XS.iconst X20.here hx rfl (hb hby d10_74) ?_
    refine XS.lshl X20.here hx rfl (hb hby d10_75) rfl ?_
    refine XS.ladd X20.here hx rfl (hb hby d10_76) rfl ?_
    refine X20.ldc2Long hx hown (mvT hZ (own_w hw 134 rfl)) (g := (mkF m 77 #[.val (.ref o1)] [(.long 288)])) rfl (hb hby d10_77) _ ?_
    refine XS.aloadN X20.here hx rfl (hb hby d10_80) rfl rfl ?_
    refine st21 _ ?_
    refine st22 _ ?_
    refine XS.i2l X22.here hx rfl (hb hby d10_89) rfl ?_
    show Steps p.tables e below (T22.setTop (mkF m 90 #[.val (.ref o1)] [(.long 0), (.long 240), (.long 288)])) _
    refine XS.lmul X22.here hx rfl (hb hby d10_90) rfl ?_
    refine XS.ladd X22.here hx rfl (hb hby d10_91) rfl ?_
    refine X22.ldc2Long hx hown (mvT hZ (own_w hw 146 rfl)) (g := (mkF m 92 #[.val (.ref o1)] [(.long 288)])) rfl (hb hby d10_92) _ ?_
    refine XS.aloadN X22.here hx rfl (hb hby d10_95) rfl rfl ?_
    refine st25 _ ?_
    refine XS.i2l X25.here hx rfl (hb hby d10_99) rfl ?_
    refine XS.lmul X25.here hx rfl (hb hby d10_100) rfl ?_
    refine XS.ladd X25.here hx rfl (hb hby d10_101) rfl ?_
    show Steps p.tables e below (T25.setTop (mkF m 102 #[.val (.ref o1)] [(.long 288)])) _
    exact retOut X25 hx hret rfl (Or.inr (Or.inl ⟨rfl, rfl, _, rfl⟩)) (hb hby d10_102) hr
  ·
    show Q16 Z o1 o2 o3 o4 o5 o6 o7 o8 o9 o10 o11 o14 kc12 kc13 kc15 kc16 h0 n0 _ T25.heap _
    rw [e25]
    exact ⟨rfl, N22, rfl⟩
theorem d15_0 : decode prog_21_method_8_code 0 = .ok (.aload_n 0, 1) := by decide +kernel
theorem d15_1 : decode prog_21_method_8_code 1 = .ok (.dup, 1) := by decide +kernel
theorem d15_2 : decode prog_21_method_8_code 2 = .ok (.getfield 105, 3) := by decide +kernel
theorem d15_5 : decode prog_21_method_8_code 5 = .ok (.lload_n 1, 1) := by decide +kernel
theorem d15_6 : decode prog_21_method_8_code 6 = .ok (.ladd, 1) := by decide +kernel
theorem d15_7 : decode prog_21_method_8_code 7 = .ok (.putfield 105, 3) := by decide +kernel
theorem d15_10 : decode prog_21_method_8_code 10 = .ok (.aload_n 0, 1) := by decide +kernel
theorem d15_11 : decode prog_21_method_8_code 11 = .ok (.aload_n 0, 1) := by decide +kernel
theorem d15_12 : decode prog_21_method_8_code 12 = .ok (.getfield 108, 3) := by decide +kernel
theorem d15_15 : decode prog_21_method_8_code 15 = .ok (.ifCond .ne 7, 3) := by decide +kernel
theorem d15_18 : decode prog_21_method_8_code 18 = .ok (.iload_n 3, 1) := by decide +kernel
theorem d15_19 : decode prog_21_method_8_code 19 = .ok (.ifCond .eq 7, 3) := by decide +kernel
theorem d15_26 : decode prog_21_method_8_code 26 = .ok (.iconst 0, 1) := by decide +kernel
theorem d15_27 : decode prog_21_method_8_code 27 = .ok (.putfield 108, 3) := by decide +kernel
theorem d15_30 : decode prog_21_method_8_code 30 = .ok (.return_, 1) := by decide +kernel
theorem ef17 (m : MethodId) (x0 : Addr) (x1 : Int64) (x2 : Int32) : entryFrame m #[(.ref x0), (.long x1), (.int x2)] 4 = mkF m 0 #[.val (.ref x0), .val (.long x1), .second, .val (.int x2)] [] := by first | (simp [entryFrame, mkF, argsToLocals, Value.category]; done) | rfl
def Q17 (Z : State) (o1 : Addr) (o3 : Addr) (o4 : Addr) (o5 : Addr) (o6 : Addr) (o7 : Addr) (o8 : Addr) (o9 : Addr) (o10 : Addr) (o11 : Addr) (o12 : Addr) (o15 : Addr) (kc13 : ClassId) (kc14 : ClassId) (q2 : Int64) (h0 : Heap) (n0 : Nat) (v : Option Value) (h : Heap) (L : List Loc) : Prop :=
  (v = none ∧ Fr n0 L ∧ Keep h0 h [o1] ∧ (Exa Z h o1 "com/example/mycelia/mycelia/wire/MessageTree") ∧ (Fld Z h o1 "com/example/mycelia/mycelia/wire/MessageTree" "attributes" "Lcom/example/mycelia/mycelia/wire/MessageTree$IntRecords;" (.ref o3)) ∧ (Fld Z h o1 "com/example/mycelia/mycelia/wire/MessageTree" "codes" "Ljava/util/Map;" (.ref o4)) ∧ (Fld Z h o1 "com/example/mycelia/mycelia/wire/MessageTree" "deepest" "I" (.int 0)) ∧ (Fld Z h o1 "com/example/mycelia/mycelia/wire/MessageTree" "elements" "Lcom/example/mycelia/mycelia/wire/MessageTree$IntRecords;" (.ref o5)) ∧ (Fld Z h o1 "com/example/mycelia/mycelia/wire/MessageTree" "names" "Ljava/util/List;" (.ref o6)) ∧ (Fld Z h o1 "com/example/mycelia/mycelia/wire/MessageTree" "open" "I" (.int 0)) ∧ (Fld Z h o1 "com/example/mycelia/mycelia/wire/MessageTree" "passed" "J" (.long ((0 : Int64) + q2))) ∧ (Fld Z h o1 "com/example/mycelia/mycelia/wire/MessageTree" "text" "Ljava/lang/StringBuilder;" (.ref o7)) ∧ (Fld Z h o1 "com/example/mycelia/mycelia/wire/MessageTree" "values" "Ljava/lang/StringBuilder;" (.ref o8)) ∧ (Fld Z h o1 "com/example/mycelia/mycelia/wire/MessageTree" "widePassed" "Z" (.int 0)) ∧ (Fld Z h o1 "com/example/mycelia/mycelia/wire/MessageTree" "wideText" "Z" (.int 0)) ∧ (Fld Z h o1 "com/example/mycelia/mycelia/wire/MessageTree" "wideValues" "Z" (.int 0)))
set_option maxRecDepth 65536 in
set_option maxHeartbeats 40000000 in
theorem rm17 (l : Launch) (Z : State) (a0 : Array Value) (hw : ∀ d ∈ tables_1, d.before a0 Z = true) (ws : List Jvm.Cond) (o1 : Addr) (o3 : Addr) (o4 : Addr) (o5 : Addr) (o6 : Addr) (o7 : Addr) (o8 : Addr) (o9 : Addr) (o10 : Addr) (o11 : Addr) (o12 : Addr) (o15 : Addr) (kc13 : ClassId) (kc14 : ClassId) (q2 : Int64) (h0 : Heap) (n0 : Nat) (O0 : Old Z n0 h0) (g_o1 : n0 ≤ o1) (g_o3 : n0 ≤ o3) (g_o4 : n0 ≤ o4) (g_o5 : n0 ≤ o5) (g_o6 : n0 ≤ o6) (g_o7 : n0 ≤ o7) (g_o8 : n0 ≤ o8) (g_o9 : n0 ≤ o9) (g_o10 : n0 ≤ o10) (g_o11 : n0 ≤ o11) (g_o12 : n0 ≤ o12) (g_o15 : n0 ≤ o15) (Ov_kc13 : OvrA Z kc13 .int "[I") (Ov_kc14 : OvrA Z kc14 .int "[I") (P0 : Exa Z h0 o1 "com/example/mycelia/mycelia/wire/MessageTree") (P1 : Fld Z h0 o1 "com/example/mycelia/mycelia/wire/MessageTree" "attributes" "Lcom/example/mycelia/mycelia/wire/MessageTree$IntRecords;" (.ref o3)) (P2 : Fld Z h0 o1 "com/example/mycelia/mycelia/wire/MessageTree" "codes" "Ljava/util/Map;" (.ref o4)) (P3 : Fld Z h0 o1 "com/example/mycelia/mycelia/wire/MessageTree" "deepest" "I" (.int 0)) (P4 : Fld Z h0 o1 "com/example/mycelia/mycelia/wire/MessageTree" "elements" "Lcom/example/mycelia/mycelia/wire/MessageTree$IntRecords;" (.ref o5)) (P5 : Fld Z h0 o1 "com/example/mycelia/mycelia/wire/MessageTree" "names" "Ljava/util/List;" (.ref o6)) (P6 : Fld Z h0 o1 "com/example/mycelia/mycelia/wire/MessageTree" "open" "I" (.int 0)) (P7 : Fld Z h0 o1 "com/example/mycelia/mycelia/wire/MessageTree" "passed" "J" (.long 0)) (P8 : Fld Z h0 o1 "com/example/mycelia/mycelia/wire/MessageTree" "text" "Ljava/lang/StringBuilder;" (.ref o7)) (P9 : Fld Z h0 o1 "com/example/mycelia/mycelia/wire/MessageTree" "values" "Ljava/lang/StringBuilder;" (.ref o8)) (P10 : Fld Z h0 o1 "com/example/mycelia/mycelia/wire/MessageTree" "widePassed" "Z" (.int 0)) (P11 : Fld Z h0 o1 "com/example/mycelia/mycelia/wire/MessageTree" "wideText" "Z" (.int 0)) (P12 : Fld Z h0 o1 "com/example/mycelia/mycelia/wire/MessageTree" "wideValues" "Z" (.int 0)) :
    MetFree l yn16 (head1 (Jvm.Cond.code yn16 prog_21_method_8_code 4 none :: ws) ({ frames := 0, cells := 0, slots := 0, locals := 0 } : Room)) (fun a U => a = #[(.ref o1), (.long q2), (.int 0)] ∧ Z.Warmed39 U.vm ∧ U.heap = h0) (fun _ _ _ _ _ => True) (fun _ U o U' => ∃ v L, o = .returned v ∧ Q17 Z o1 o3 o4 o5 o6 o7 o8 o9 o10 o11 o12 o15 kc13 kc14 q2 h0 n0 v U'.heap L ∧ FrameEnd U o U' L ({ frames := 0, cells := 0, slots := 0, locals := 0 } : Room).cells ({ frames := 0, cells := 0, slots := 0, locals := 0 } : Room).slots) := by
  refine MetFree.of_bodySF (plainFor_of_name pn8) hisR ?_
  intro p e s m args below meth c s₁ Bd hml0 hP hK
  obtain ⟨rfl, hZ, hh⟩ := hP
  have hx := Bd.exec
  have hby := Bd.bytes
  have hml : c.maxLocals = 4 := hml0
  have hown : s.vm.findClass "com/example/mycelia/mycelia/wire/MessageTree" = some m.cls := findClass_of_methodNamed Bd.named
  have hnm := (name_of_methodNamed Bd.named Bd.method).1
  have hret := Bd.returns
  have hlk : meth.locks = false := BodyLoose.notSynchronized Bd
  have X0 : Stand p l e ({ frames := 0, cells := 0, slots := 0, locals := 0 } : Room) s m #[(.ref o1), (.long q2), (.int 0)] below meth c s₁ [] 0 0 := Stand.of_body Bd
  have e0 : s₁.heap = h0 := by rw [← hh, Bd.state]; rfl
  have N0 := Fr.nil n0
  have pre0 : ∀ t, Steps p.tables e below (s₁.setTop (mkF m 0 #[.val (.ref o1), .val (.long q2), .second, .val (.int 0)] [])) t → Steps p.tables e below (s₁.setTop (entryFrame m #[(.ref o1), (.long q2), (.int 0)] 4)) t := fun t k => castTop (ef17 m o1 q2 (0 : Int32)) k
  obtain ⟨T1, X1, e1, st1⟩ := getF X0 hx hZ hown (host := "") (Or.inl (own_w hw 130 rfl)) Via.refl e0 P7 (g := (mkF m 2 #[.val (.ref o1), .val (.long q2), .second, .val (.int 0)] [(.ref o1), (.ref o1)])) rfl rfl (hb hby d15_2)
  obtain ⟨T2, h2, X2, e2, W2, st2⟩ := putF X1 hx hZ hown (host := "") (Or.inl (own_w hw 130 rfl)) Via.refl e1 P7 P0 (Or.inl (own_w hw 131 rfl)) (own_w hw 1 rfl) (ty := .long) (by decide) rfl rfl (g := (mkF m 7 #[.val (.ref o1), .val (.long q2), .second, .val (.int 0)] [(.long ((0 : Int64) + q2)), (.ref o1)])) rfl rfl (hb hby d15_7)
  have N2 := Fr.snoc X2 N0 g_o1
  have Fw2 := P7.same W2
  have M2 : h0.size ≤ h2.size := Nat.le_trans (Nat.le_refl _) (Nat.le_of_eq W2.size.symm)
  have O2 := Old.wr O0 W2 g_o1
  have f3 := (P10.other W2 (Or.inr (slot_ne (Or.inl (own_w hw 133 rfl)) (Or.inl (own_w hw 131 rfl)) (by decide) (t := .boolean) (t' := .long) (by decide) (by decide))))
  obtain ⟨T4, X4, e4, st4⟩ := getF X2 hx hZ hown (host := "") (Or.inl (own_w hw 132 rfl)) Via.refl e2 f3 (g := (mkF m 12 #[.val (.ref o1), .val (.long q2), .second, .val (.int 0)] [(.ref o1), (.ref o1)])) rfl rfl (hb hby d15_12)
  have f5 := (P0.wr W2)
  obtain ⟨T6, h6, X6, e6, W6, st6⟩ := putFN X4 hx hZ hown (own_w hw 132 rfl) Via.refl e4 f3 f5 (Or.inl (own_w hw 133 rfl)) (own_w hw 1 rfl) (ty := .boolean) (v' := (.int 0)) (by decide) rfl (by decide) (g := (mkF m 27 #[.val (.ref o1), .val (.long q2), .second, .val (.int 0)] [(.int 0), (.ref o1)])) rfl rfl (hb hby d15_27)
  have N6 := Fr.snoc X6 N2 g_o1
  have Fw6 := f3.same W6
  have M6 : h0.size ≤ h6.size := Nat.le_trans M2 (Nat.le_of_eq W6.size.symm)
  have O6 := Old.wr O2 W6 g_o1
  obtain ⟨fs, hr, hrun, hended, hW, hsame⟩ := X6.leave (v := none) (fun _ => rfl)
  have KL : Keep h0 h6 [o1] := (((Keep.refl h0 [o1]).wr W2 (Or.inl (List.mem_of_getElem? (i := 0) rfl))).wr W6 (Or.inl (List.mem_of_getElem? (i := 0) rfl)))
  have f7 := (f5.wr W6)
  have f8 := ((P1.other W2 (Or.inr (slot_ne (Or.inr (own_w hw 23 rfl)) (Or.inl (own_w hw 131 rfl)) (by decide) (t := (.object "com/example/mycelia/mycelia/wire/MessageTree$IntRecords")) (t' := .long) (by decide) (by decide)))).other W6 (Or.inr (slot_ne (Or.inr (own_w hw 23 rfl)) (Or.inl (own_w hw 133 rfl)) (by decide) (t := (.object "com/example/mycelia/mycelia/wire/MessageTree$IntRecords")) (t' := .boolean) (by decide) (by decide))))
  have f9 := ((P2.other W2 (Or.inr (slot_ne (Or.inr (own_w hw 91 rfl)) (Or.inl (own_w hw 131 rfl)) (by decide) (t := (.object "java/util/Map")) (t' := .long) (by decide) (by decide)))).other W6 (Or.inr (slot_ne (Or.inr (own_w hw 91 rfl)) (Or.inl (own_w hw 133 rfl)) (by decide) (t := (.object "java/util/Map")) (t' := .boolean) (by decide) (by decide))))
  have f10 := ((P3.other W2 (Or.inr (slot_ne (Or.inl (own_w hw 148 rfl)) (Or.inl (own_w hw 131 rfl)) (by decide) (t := .int) (t' := .long) (by decide) (by decide)))).other W6 (Or.inr (slot_ne (Or.inl (own_w hw 148 rfl)) (Or.inl (own_w hw 133 rfl)) (by decide) (t := .int) (t' := .boolean) (by decide) (by decide))))
  have f11 := ((P4.other W2 (Or.inr (slot_ne (Or.inr (own_w hw 21 rfl)) (Or.inl (own_w hw 131 rfl)) (by decide) (t := (.object "com/example/mycelia/mycelia/wire/MessageTree$IntRecords")) (t' := .long) (by decide) (by decide)))).other W6 (Or.inr (slot_ne (Or.inr (own_w hw 21 rfl)) (Or.inl (own_w hw 133 rfl)) (by decide) (t := (.object "com/example/mycelia/mycelia/wire/MessageTree$IntRecords")) (t' := .boolean) (by decide) (by decide))))
  have f12 := ((P5.other W2 (Or.inr (slot_ne (Or.inr (own_w hw 73 rfl)) (Or.inl (own_w hw 131 rfl)) (by decide) (t := (.object "java/util/List")) (t' := .long) (by decide) (by decide)))).other W6 (Or.inr (slot_ne (Or.inr (own_w hw 73 rfl)) (Or.inl (own_w hw 133 rfl)) (by decide) (t := (.object "java/util/List")) (t' := .boolean) (by decide) (by decide))))
  have f13 := ((P6.other W2 (Or.inr (slot_ne (Or.inl (own_w hw 105 rfl)) (Or.inl (own_w hw 131 rfl)) (by decide) (t := .int) (t' := .long) (by decide) (by decide)))).other W6 (Or.inr (slot_ne (Or.inl (own_w hw 105 rfl)) (Or.inl (own_w hw 133 rfl)) (by decide) (t := .int) (t' := .boolean) (by decide) (by decide))))
  have f14 := (Fw2.other W6 (Or.inr (slot_ne (Or.inl (own_w hw 131 rfl)) (Or.inl (own_w hw 133 rfl)) (by decide) (t := .long) (t' := .boolean) (by decide) (by decide))))
  have f15 := ((P8.other W2 (Or.inr (slot_ne (Or.inr (own_w hw 45 rfl)) (Or.inl (own_w hw 131 rfl)) (by decide) (t := (.object "java/lang/StringBuilder")) (t' := .long) (by decide) (by decide)))).other W6 (Or.inr (slot_ne (Or.inr (own_w hw 45 rfl)) (Or.inl (own_w hw 133 rfl)) (by decide) (t := (.object "java/lang/StringBuilder")) (t' := .boolean) (by decide) (by decide))))
  have f16 := ((P9.other W2 (Or.inr (slot_ne (Or.inr (own_w hw 47 rfl)) (Or.inl (own_w hw 131 rfl)) (by decide) (t := (.object "java/lang/StringBuilder")) (t' := .long) (by decide) (by decide)))).other W6 (Or.inr (slot_ne (Or.inr (own_w hw 47 rfl)) (Or.inl (own_w hw 133 rfl)) (by decide) (t := (.object "java/lang/StringBuilder")) (t' := .boolean) (by decide) (by decide))))
  have f17 := ((P11.other W2 (Or.inr (slot_ne (Or.inl (own_w hw 127 rfl)) (Or.inl (own_w hw 131 rfl)) (by decide) (t := .boolean) (t' := .long) (by decide) (by decide)))).other W6 (Or.inr (slot_ne (Or.inl (own_w hw 127 rfl)) (Or.inl (own_w hw 133 rfl)) (by decide) (t := .boolean) (t' := .boolean) (by decide) (by decide))))
  have f18 := ((P12.other W2 (Or.inr (slot_ne (Or.inl (own_w hw 129 rfl)) (Or.inl (own_w hw 131 rfl)) (by decide) (t := .boolean) (t' := .long) (by decide) (by decide)))).other W6 (Or.inr (slot_ne (Or.inl (own_w hw 129 rfl)) (Or.inl (own_w hw 133 rfl)) (by decide) (t := .boolean) (t' := .boolean) (by decide) (by decide))))
  refine ⟨_, _, pre0 _ ?_, hrun, hended, _, _, rfl, ?_, ⟨_, rfl⟩, hW, hsame.mono (by decide) (by decide)⟩
  ·
    show Steps p.tables e below (s₁.setTop (mkF m 0 #[.val (.ref o1), .val (.long q2), .second, .val (.int 0)] [])) _
    refine XS.aloadN X0.here hx rfl (hb hby d15_0) rfl rfl ?_
    refine XS.dup X0.here hx rfl (hb hby d15_1) rfl rfl ?_
    refine st1 _ ?_
    refine XS.lloadN X1.here hx rfl (hb hby d15_5) rfl ?_
    refine XS.ladd X1.here hx rfl (hb hby d15_6) rfl ?_
    refine st2 _ ?_
    refine XS.aloadN X2.here hx rfl (hb hby d15_10) rfl rfl ?_
    refine XS.aloadN X2.here hx rfl (hb hby d15_11) rfl rfl ?_
    refine st4 _ ?_
    refine XS.ifNo X4.here hx rfl (hb hby d15_15) rfl ((if0 _ _).trans (teq (by decide : (0 : Int32) = (0 : Int32))).2) ?_
    refine XS.iloadN X4.here hx rfl (hb hby d15_18) rfl ?_
    refine XS.ifYes X4.here hx rfl (pc0 := 19) (pc' := 26) rfl (hb hby d15_19) rfl ((if0 _ _).trans (teq (by decide : (0 : Int32) = (0 : Int32))).1) (by decide) (by decide) ?_
    refine XS.iconst X4.here hx rfl (hb hby d15_26) ?_
    refine st6 _ ?_
    show Steps p.tables e below (T6.setTop (mkF m 30 #[.val (.ref o1), .val (.long q2), .second, .val (.int 0)] [])) _
    exact X6.returnOut hx hret (hb hby d15_30) hr
  ·
    show Q17 Z o1 o3 o4 o5 o6 o7 o8 o9 o10 o11 o12 o15 kc13 kc14 q2 h0 n0 _ T6.heap _
    rw [e6]
    exact ⟨rfl, N6, KL, f7, f8, f9, f10, f11, f12, f13, f14, f15, f16, Fw6, f17, f18⟩
theorem pd5 : parseMethodDescriptor "(JZ)V" = some ⟨[.long, .boolean], none⟩ := by decide +kernel
theorem ef18 (m : MethodId) (x0 : Addr) : entryFrame m #[(.ref x0)] 1 = mkF m 0 #[.val (.ref x0)] [] := by first | (simp [entryFrame, mkF, argsToLocals, Value.category]; done) | rfl
def Q18 (Z : State) (o1 : Addr) (o2 : Addr) (o3 : Addr) (o4 : Addr) (o5 : Addr) (o7 : Addr) (o8 : Addr) (o9 : Addr) (o10 : Addr) (o11 : Addr) (o12 : Addr) (o15 : Addr) (kc13 : ClassId) (kc14 : ClassId) (q6 : Int64) (kc16 : ClassId) (kc17 : ClassId) (h0 : Heap) (n0 : Nat) (v : Option Value) (h : Heap) (L : List Loc) : Prop :=
  (v = some (.long ((((288 : Int64) + (q6 <<< ((0 : Int32) &&& 0x3f).toInt64)) + (0 : Int64)) + (0 : Int64))) ∧ Fr n0 L ∧ h = h0)
set_option maxRecDepth 65536 in
set_option maxHeartbeats 40000000 in
theorem rm18 (l : Launch) (Z : State) (a0 : Array Value) (hw : ∀ d ∈ tables_1, d.before a0 Z = true) (ws : List Jvm.Cond) (o1 : Addr) (o2 : Addr) (o3 : Addr) (o4 : Addr) (o5 : Addr) (o7 : Addr) (o8 : Addr) (o9 : Addr) (o10 : Addr) (o11 : Addr) (o12 : Addr) (o15 : Addr) (kc13 : ClassId) (kc14 : ClassId) (q6 : Int64) (kc16 : ClassId) (kc17 : ClassId) (h0 : Heap) (n0 : Nat) (O0 : Old Z n0 h0) (g_o1 : n0 ≤ o1) (g_o2 : n0 ≤ o2) (g_o3 : n0 ≤ o3) (g_o4 : n0 ≤ o4) (g_o5 : n0 ≤ o5) (g_o7 : n0 ≤ o7) (g_o8 : n0 ≤ o8) (g_o9 : n0 ≤ o9) (g_o10 : n0 ≤ o10) (g_o11 : n0 ≤ o11) (g_o12 : n0 ≤ o12) (g_o15 : n0 ≤ o15) (Ov_kc13 : OvrA Z kc13 .int "[I") (Ov_kc14 : OvrA Z kc14 .int "[I") (P1 : Fld Z h0 o1 "com/example/mycelia/mycelia/wire/MessageTree" "attributes" "Lcom/example/mycelia/mycelia/wire/MessageTree$IntRecords;" (.ref o2)) (P3 : Fld Z h0 o1 "com/example/mycelia/mycelia/wire/MessageTree" "deepest" "I" (.int 0)) (P4 : Fld Z h0 o1 "com/example/mycelia/mycelia/wire/MessageTree" "elements" "Lcom/example/mycelia/mycelia/wire/MessageTree$IntRecords;" (.ref o4)) (P5 : Fld Z h0 o1 "com/example/mycelia/mycelia/wire/MessageTree" "names" "Ljava/util/List;" (.ref o5)) (P7 : Fld Z h0 o1 "com/example/mycelia/mycelia/wire/MessageTree" "passed" "J" (.long q6)) (P8 : Fld Z h0 o1 "com/example/mycelia/mycelia/wire/MessageTree" "text" "Ljava/lang/StringBuilder;" (.ref o7)) (P9 : Fld Z h0 o1 "com/example/mycelia/mycelia/wire/MessageTree" "values" "Ljava/lang/StringBuilder;" (.ref o8)) (P10 : Fld Z h0 o1 "com/example/mycelia/mycelia/wire/MessageTree" "widePassed" "Z" (.int 0)) (P11 : Fld Z h0 o1 "com/example/mycelia/mycelia/wire/MessageTree" "wideText" "Z" (.int 0)) (P12 : Fld Z h0 o1 "com/example/mycelia/mycelia/wire/MessageTree" "wideValues" "Z" (.int 0)) (P13 : Exa Z h0 o2 "com/example/mycelia/mycelia/wire/MessageTree$IntRecords") (P15 : Fld Z h0 o2 "com/example/mycelia/mycelia/wire/MessageTree$IntRecords" "heap" "J" (.long 0)) (P19 : Exa Z h0 o4 "com/example/mycelia/mycelia/wire/MessageTree$IntRecords") (P21 : Fld Z h0 o4 "com/example/mycelia/mycelia/wire/MessageTree$IntRecords" "heap" "J" (.long 256)) (P23 : Exa Z h0 o5 "java/util/ArrayList") (P26 : Fld Z h0 o5 "java/util/ArrayList" "size" "I" (.int 0)) (P27 : Exa Z h0 o7 "java/lang/StringBuilder") (P28 : Fld Z h0 o7 "java/lang/AbstractStringBuilder" "coder" "B" (.int 0)) (P29 : Fld Z h0 o7 "java/lang/AbstractStringBuilder" "value" "[B" (.ref o11)) (P30 : Exa Z h0 o8 "java/lang/StringBuilder") (P31 : Fld Z h0 o8 "java/lang/AbstractStringBuilder" "coder" "B" (.int 0)) (P32 : Fld Z h0 o8 "java/lang/AbstractStringBuilder" "value" "[B" (.ref o12)) (P37 : Arv Z h0 o11 kc16 .byte (16 : Int32) [(.int 0), (.int 0), (.int 0), (.int 0), (.int 0), (.int 0), (.int 0), (.int 0), (.int 0), (.int 0), (.int 0), (.int 0), (.int 0), (.int 0), (.int 0), (.int 0)] (.int 0)) (P39 : Arv Z h0 o12 kc17 .byte (16 : Int32) [(.int 0), (.int 0), (.int 0), (.int 0), (.int 0), (.int 0), (.int 0), (.int 0), (.int 0), (.int 0), (.int 0), (.int 0), (.int 0), (.int 0), (.int 0), (.int 0)] (.int 0)) :
    MetFree l yn15 (head1 (Jvm.Cond.code yn15 prog_21_method_14_code 1 (some .long) :: ws) ({ frames := 2, cells := 0, slots := 0, locals := 26 } : Room)) (fun a U => a = #[(.ref o1)] ∧ Z.Warmed39 U.vm ∧ U.heap = h0) (fun _ _ _ _ _ => True) (fun _ U o U' => ∃ v L, o = .returned v ∧ Q18 Z o1 o2 o3 o4 o5 o7 o8 o9 o10 o11 o12 o15 kc13 kc14 q6 kc16 kc17 h0 n0 v U'.heap L ∧ FrameEnd U o U' L ({ frames := 2, cells := 0, slots := 0, locals := 26 } : Room).cells ({ frames := 2, cells := 0, slots := 0, locals := 26 } : Room).slots) := by
  refine MetFree.of_bodySF (plainFor_of_name pn8) hisR ?_
  intro p e s m args below meth c s₁ Bd hml0 hP hK
  obtain ⟨rfl, hZ, hh⟩ := hP
  have hx := Bd.exec
  have hby := Bd.bytes
  have hml : c.maxLocals = 1 := hml0
  have hown : s.vm.findClass "com/example/mycelia/mycelia/wire/MessageTree" = some m.cls := findClass_of_methodNamed Bd.named
  have hnm := (name_of_methodNamed Bd.named Bd.method).1
  have hret := Bd.returns
  have hlk : meth.locks = false := BodyLoose.notSynchronized Bd
  have X0 : Stand p l e ({ frames := 2, cells := 0, slots := 0, locals := 26 } : Room) s m #[(.ref o1)] below meth c s₁ [] 0 0 := Stand.of_body Bd
  have e0 : s₁.heap = h0 := by rw [← hh, Bd.state]; rfl
  have N0 := Fr.nil n0
  have pre0 : ∀ t, Steps p.tables e below (s₁.setTop (mkF m 0 #[.val (.ref o1)] [])) t → Steps p.tables e below (s₁.setTop (entryFrame m #[(.ref o1)] 1)) t := fun t k => castTop (ef18 m o1) k
  obtain ⟨T1, X1, e1, st1⟩ := getF X0 hx hZ hown (host := "") (Or.inl (own_w hw 20 rfl)) Via.refl e0 P4 (g := (mkF m 1 #[.val (.ref o1)] [(.ref o1)])) rfl rfl (hb hby d10_1)
  obtain ⟨_, T2, L2, X2, hQ2, st2⟩ := own_vb X1 hx hZ hown (y := yn10) (own_w hw 111 rfl) (own_w hw 112 rfl) (own_w hw 114 rfl) (own_w hw 113 rfl) (own_w hw 115 rfl) (own_w hw 11 rfl) e1 P19 (argsL := []) (rest := []) (rm11 l Z a0 hw [] o4 o10 o15 kc14 h0 n0 O0 g_o4 g_o10 g_o15 Ov_kc14 P21) (g := (mkF m 4 #[.val (.ref o1)] [(.ref o4)])) rfl (by rw [hml]; rfl) rfl (hb hby d10_4) (lenOf pd3 rfl) (W := 0) (c1 := 0) (s1 := 0)
  obtain ⟨rfl, Nq3, e4⟩ := hQ2
  have N2 := Fr.app N0 Nq3
  obtain ⟨T5, X5, e5, st5⟩ := getF X2 hx hZ hown (host := "") (Or.inl (own_w hw 22 rfl)) Via.refl e4 P1 (g := (mkF m 8 #[.val (.ref o1)] [(.ref o1), (.long 256)])) rfl rfl (hb hby d10_8)
  obtain ⟨_, T6, L6, X6, hQ6, st6⟩ := own_vb X5 hx hZ hown (y := yn10) (own_w hw 111 rfl) (own_w hw 112 rfl) (own_w hw 114 rfl) (own_w hw 113 rfl) (own_w hw 115 rfl) (own_w hw 11 rfl) e5 P13 (argsL := []) (rest := [(.long 256)]) (rm12 l Z a0 hw [] o2 o9 kc13 h0 n0 O0 g_o2 g_o9 Ov_kc13 P15) (g := (mkF m 11 #[.val (.ref o1)] [(.ref o2), (.long 256)])) rfl (by rw [hml]; rfl) rfl (hb hby d10_11) (lenOf pd3 rfl) (W := 2) (c1 := 0) (s1 := 0)
  obtain ⟨rfl, Nq7, e8⟩ := hQ6
  have N6 := Fr.app N2 Nq7
  obtain ⟨T9, X9, e9, st9⟩ := getF X6 hx hZ hown (host := "") (Or.inl (own_w hw 44 rfl)) Via.refl e8 P8 (g := (mkF m 16 #[.val (.ref o1)] [(.ref o1), (.long 256)])) rfl rfl (hb hby d10_16)
  obtain ⟨_, T10, L10, X10, hQ10, st10⟩ := own_vb X9 hx hZ hown (y := yn12) (own_w hw 116 rfl) (own_w hw 117 rfl) (own_w hw 119 rfl) (own_w hw 118 rfl) (own_w hw 120 rfl) (own_w hw 26 rfl) e9 P27 (argsL := []) (rest := [(.long 256)]) (rm14 l Z a0 hw [] o7 o11 kc16 h0 n0 O0 g_o7 g_o11 P27 P28 P29 P37) (g := (mkF m 19 #[.val (.ref o1)] [(.ref o7), (.long 256)])) rfl (by rw [hml]; rfl) rfl (hb hby d10_19) (lenOf pd4 rfl) (W := 2) (c1 := 0) (s1 := 0)
  obtain ⟨rfl, Nq11, e12⟩ := hQ10
  have N10 := Fr.app N6 Nq11
  obtain ⟨T13, X13, e13, st13⟩ := getF X10 hx hZ hown (host := "") (Or.inl (own_w hw 126 rfl)) Via.refl e12 P11 (g := (mkF m 24 #[.val (.ref o1)] [(.ref o1), (.long 16), (.long 256)])) rfl rfl (hb hby d10_24)
  obtain ⟨T14, X14, e14, st14⟩ := getF X13 hx hZ hown (host := "") (Or.inl (own_w hw 46 rfl)) Via.refl e13 P9 (g := (mkF m 38 #[.val (.ref o1)] [(.ref o1), (.long 272)])) rfl rfl (hb hby d10_38)
  obtain ⟨_, T15, L15, X15, hQ15, st15⟩ := own_vb X14 hx hZ hown (y := yn12) (own_w hw 116 rfl) (own_w hw 117 rfl) (own_w hw 119 rfl) (own_w hw 118 rfl) (own_w hw 120 rfl) (own_w hw 26 rfl) e14 P30 (argsL := []) (rest := [(.long 272)]) (rm14 l Z a0 hw [] o8 o12 kc17 h0 n0 O0 g_o8 g_o12 P30 P31 P32 P39) (g := (mkF m 41 #[.val (.ref o1)] [(.ref o8), (.long 272)])) rfl (by rw [hml]; rfl) rfl (hb hby d10_41) (lenOf pd4 rfl) (W := 2) (c1 := 0) (s1 := 0)
  obtain ⟨rfl, Nq16, e17⟩ := hQ15
  have N15 := Fr.app N10 Nq16
  obtain ⟨T18, X18, e18, st18⟩ := getF X15 hx hZ hown (host := "") (Or.inl (own_w hw 128 rfl)) Via.refl e17 P12 (g := (mkF m 46 #[.val (.ref o1)] [(.ref o1), (.long 16), (.long 272)])) rfl rfl (hb hby d10_46)
  obtain ⟨T19, X19, e19, st19⟩ := getF X18 hx hZ hown (host := "") (Or.inl (own_w hw 130 rfl)) Via.refl e18 P7 (g := (mkF m 60 #[.val (.ref o1)] [(.ref o1), (.long 288)])) rfl rfl (hb hby d10_60)
  obtain ⟨T20, X20, e20, st20⟩ := getF X19 hx hZ hown (host := "") (Or.inl (own_w hw 132 rfl)) Via.refl e19 P10 (g := (mkF m 64 #[.val (.ref o1)] [(.ref o1), (.long q6), (.long 288)])) rfl rfl (hb hby d10_64)
  obtain ⟨T21, X21, e21, st21⟩ := getF X20 hx hZ hown (host := "") (Or.inl (own_w hw 72 rfl)) Via.refl e20 P5 (g := (mkF m 81 #[.val (.ref o1)] [(.ref o1), (.long 240), (.long ((288 : Int64) + (q6 <<< ((0 : Int32) &&& 0x3f).toInt64)))])) rfl rfl (hb hby d10_81)
  obtain ⟨_, T22, L22, X22, hQ22, st22⟩ := own_ib X21 hx hZ hown (z := yn14) (y := yn13) (own_w hw 135 rfl) (own_w hw 136 rfl) (mvT hZ (own_w hw 137 rfl)) (own_w hw 138 rfl) (own_w hw 139 rfl) (own_w hw 140 rfl) (mvT hZ (own_w hw 141 rfl)) (own_w hw 142 rfl) (own_w hw 143 rfl) (own_w hw 50 rfl) e21 P23 (argsL := []) (rest := [(.long 240), (.long ((288 : Int64) + (q6 <<< ((0 : Int32) &&& 0x3f).toInt64)))]) (rm15 l Z a0 hw [] o5 h0 n0 O0 g_o5 P26) (g := (mkF m 84 #[.val (.ref o1)] [(.ref o5), (.long 240), (.long ((288 : Int64) + (q6 <<< ((0 : Int32) &&& 0x3f).toInt64)))])) rfl (by rw [hml]; rfl) rfl (hb hby d10_84) (lenOf pd4 rfl) (W := 4) (c1 := 0) (s1 := 0)
  obtain ⟨rfl, Nq23, e24⟩ := hQ22
  have N22 := Fr.app N15 Nq23
  obtain ⟨T25, X25, e25, st25⟩ := getF X22 hx hZ hown (host := "") (Or.inl (own_w hw 147 rfl)) Via.refl e24 P3 (g := (mkF m 96 #[.val (.ref o1)] [(.ref o1), (.long 56), (.long (((288 : Int64) + (q6 <<< ((0 : Int32) &&& 0x3f).toInt64)) + (0 : Int64)))])) rfl rfl (hb hby d10_96)
  obtain ⟨fs, hr, hrun, hended, hW, hsame⟩ := X25.leave (v := some (.long ((((288 : Int64) + (q6 <<< ((0 : Int32) &&& 0x3f).toInt64)) + (0 : Int64)) + (0 : Int64)))) (fun h => by rw [hret] at h; cases h)
  refine ⟨_, _, pre0 _ ?_, hrun, hended, _, _, rfl, ?_, ⟨_, rfl⟩, hW, hsame.mono (by decide) (by decide)⟩
  ·
    show Steps p.tables e below (s₁.setTop (mkF m 0 #[.val (.ref o1)] [])) _
    refine XS.aloadN X0.here hx rfl (hb hby d10_0) rfl rfl ?_
    refine st1 _ ?_
    refine st2 _ ?_
    refine XS.aloadN X2.here hx rfl (hb hby d10_7) rfl rfl ?_
    refine st5 _ ?_
    refine st6 _ ?_
    refine XS.ladd X6.here hx rfl (hb hby d10_14) rfl ?_
    refine XS.aloadN X6.here hx rfl (hb hby d10_15) rfl rfl ?_
    refine st9 _ ?_
    refine st10 _ ?_
    refine XS.i2l X10.here hx rfl (hb hby d10_22) rfl ?_
    refine XS.aloadN X10.here hx rfl (hb hby d10_23) rfl rfl ?_
    refine st13 _ ?_
    refine XS.ifYes X13.here hx rfl (pc0 := 27) (pc' := 34) rfl (hb hby d10_27) rfl ((if0 _ _).trans (teq (by decide : (0 : Int32) = (0 : Int32))).1) (by decide) (by decide) ?_
    refine XS.iconst X13.here hx rfl (hb hby d10_34) ?_
    refine XS.lshl X13.here hx rfl (hb hby d10_35) rfl ?_
    refine XS.ladd X13.here hx rfl (hb hby d10_36) rfl ?_
    refine XS.aloadN X13.here hx rfl (hb hby d10_37) rfl rfl ?_
    refine st14 _ ?_
    refine st15 _ ?_
    refine XS.i2l X15.here hx rfl (hb hby d10_44) rfl ?_
    refine XS.aloadN X15.here hx rfl (hb hby d10_45) rfl rfl ?_
    refine st18 _ ?_
    refine XS.ifYes X18.here hx rfl (pc0 := 49) (pc' := 56) rfl (hb hby d10_49) rfl ((if0 _ _).trans (teq (by decide : (0 : Int32) = (0 : Int32))).1) (by decide) (by decide) ?_
    refine XS.iconst X18.here hx rfl (hb hby d10_56) ?_
    refine XS.lshl X18.here hx rfl (hb hby d10_57) rfl ?_
    refine XS.ladd X18.here hx rfl (hb hby d10_58) rfl ?_
    refine XS.aloadN X18.here hx rfl (hb hby d10_59) rfl rfl ?_
    refine st19 _ ?_
    refine XS.aloadN X19.here hx rfl (hb hby d10_63) rfl rfl ?_
    refine st20 _ ?_
    refine XS.ifYes X20.here hx rfl (pc0 := 67) (pc' := 74) rfl (hb hby d10_67) rfl ((if0 _ _).trans (teq (by decide : (0 : Int32) = (0 : Int32))).1) (by decide) (by decide) ?_
    refine XS.iconst X20.here hx rfl (hb hby d10_74) ?_
    refine XS.lshl X20.here hx rfl (hb hby d10_75) rfl ?_
    refine XS.ladd X20.here hx rfl (hb hby d10_76) rfl ?_
    refine X20.ldc2Long hx hown (mvT hZ (own_w hw 134 rfl)) (g := (mkF m 77 #[.val (.ref o1)] [(.long ((288 : Int64) + (q6 <<< ((0 : Int32) &&& 0x3f).toInt64)))])) rfl (hb hby d10_77) _ ?_
    refine XS.aloadN X20.here hx rfl (hb hby d10_80) rfl rfl ?_
    refine st21 _ ?_
    refine st22 _ ?_
    refine XS.i2l X22.here hx rfl (hb hby d10_89) rfl ?_
    show Steps p.tables e below (T22.setTop (mkF m 90 #[.val (.ref o1)] [(.long 0), (.long 240), (.long ((288 : Int64) + (q6 <<< ((0 : Int32) &&& 0x3f).toInt64)))])) _
    refine XS.lmul X22.here hx rfl (hb hby d10_90) rfl ?_
    refine XS.ladd X22.here hx rfl (hb hby d10_91) rfl ?_
    refine X22.ldc2Long hx hown (mvT hZ (own_w hw 146 rfl)) (g := (mkF m 92 #[.val (.ref o1)] [(.long (((288 : Int64) + (q6 <<< ((0 : Int32) &&& 0x3f).toInt64)) + (0 : Int64)))])) rfl (hb hby d10_92) _ ?_
    refine XS.aloadN X22.here hx rfl (hb hby d10_95) rfl rfl ?_
    refine st25 _ ?_
    refine XS.i2l X25.here hx rfl (hb hby d10_99) rfl ?_
    refine XS.lmul X25.here hx rfl (hb hby d10_100) rfl ?_
    refine XS.ladd X25.here hx rfl (hb hby d10_101) rfl ?_
    show Steps p.tables e below (T25.setTop (mkF m 102 #[.val (.ref o1)] [(.long ((((288 : Int64) + (q6 <<< ((0 : Int32) &&& 0x3f).toInt64)) + (0 : Int64)) + (0 : Int64)))])) _
    exact retOut X25 hx hret rfl (Or.inr (Or.inl ⟨rfl, rfl, _, rfl⟩)) (hb hby d10_102) hr
  ·
    show Q18 Z o1 o2 o3 o4 o5 o7 o8 o9 o10 o11 o12 o15 kc13 kc14 q6 kc16 kc17 h0 n0 _ T25.heap _
    rw [e25]
    exact ⟨rfl, N22, rfl⟩
theorem ef19 (m : MethodId) (x0 : Addr) (x1 : Int64) (x2 : Int32) : entryFrame m #[(.ref x0), (.long x1), (.int x2)] 4 = mkF m 0 #[.val (.ref x0), .val (.long x1), .second, .val (.int x2)] [] := by first | (simp [entryFrame, mkF, argsToLocals, Value.category]; done) | rfl
def Q19 (Z : State) (o1 : Addr) (o3 : Addr) (o4 : Addr) (o5 : Addr) (o6 : Addr) (o8 : Addr) (o9 : Addr) (o10 : Addr) (o11 : Addr) (o12 : Addr) (o13 : Addr) (o16 : Addr) (kc14 : ClassId) (kc15 : ClassId) (q7 : Int64) (q2 : Int64) (h0 : Heap) (n0 : Nat) (v : Option Value) (h : Heap) (L : List Loc) : Prop :=
  (v = none ∧ Fr n0 L ∧ Keep h0 h [o1] ∧ (Exa Z h o1 "com/example/mycelia/mycelia/wire/MessageTree") ∧ (Fld Z h o1 "com/example/mycelia/mycelia/wire/MessageTree" "attributes" "Lcom/example/mycelia/mycelia/wire/MessageTree$IntRecords;" (.ref o3)) ∧ (Fld Z h o1 "com/example/mycelia/mycelia/wire/MessageTree" "codes" "Ljava/util/Map;" (.ref o4)) ∧ (Fld Z h o1 "com/example/mycelia/mycelia/wire/MessageTree" "deepest" "I" (.int 0)) ∧ (Fld Z h o1 "com/example/mycelia/mycelia/wire/MessageTree" "elements" "Lcom/example/mycelia/mycelia/wire/MessageTree$IntRecords;" (.ref o5)) ∧ (Fld Z h o1 "com/example/mycelia/mycelia/wire/MessageTree" "names" "Ljava/util/List;" (.ref o6)) ∧ (Fld Z h o1 "com/example/mycelia/mycelia/wire/MessageTree" "open" "I" (.int 0)) ∧ (Fld Z h o1 "com/example/mycelia/mycelia/wire/MessageTree" "passed" "J" (.long (q7 + q2))) ∧ (Fld Z h o1 "com/example/mycelia/mycelia/wire/MessageTree" "text" "Ljava/lang/StringBuilder;" (.ref o8)) ∧ (Fld Z h o1 "com/example/mycelia/mycelia/wire/MessageTree" "values" "Ljava/lang/StringBuilder;" (.ref o9)) ∧ (Fld Z h o1 "com/example/mycelia/mycelia/wire/MessageTree" "widePassed" "Z" (.int 0)) ∧ (Fld Z h o1 "com/example/mycelia/mycelia/wire/MessageTree" "wideText" "Z" (.int 0)) ∧ (Fld Z h o1 "com/example/mycelia/mycelia/wire/MessageTree" "wideValues" "Z" (.int 0)))
set_option maxRecDepth 65536 in
set_option maxHeartbeats 40000000 in
theorem rm19 (l : Launch) (Z : State) (a0 : Array Value) (hw : ∀ d ∈ tables_1, d.before a0 Z = true) (ws : List Jvm.Cond) (o1 : Addr) (o3 : Addr) (o4 : Addr) (o5 : Addr) (o6 : Addr) (o8 : Addr) (o9 : Addr) (o10 : Addr) (o11 : Addr) (o12 : Addr) (o13 : Addr) (o16 : Addr) (kc14 : ClassId) (kc15 : ClassId) (q7 : Int64) (q2 : Int64) (h0 : Heap) (n0 : Nat) (O0 : Old Z n0 h0) (g_o1 : n0 ≤ o1) (g_o3 : n0 ≤ o3) (g_o4 : n0 ≤ o4) (g_o5 : n0 ≤ o5) (g_o6 : n0 ≤ o6) (g_o8 : n0 ≤ o8) (g_o9 : n0 ≤ o9) (g_o10 : n0 ≤ o10) (g_o11 : n0 ≤ o11) (g_o12 : n0 ≤ o12) (g_o13 : n0 ≤ o13) (g_o16 : n0 ≤ o16) (Ov_kc14 : OvrA Z kc14 .int "[I") (Ov_kc15 : OvrA Z kc15 .int "[I") (P0 : Exa Z h0 o1 "com/example/mycelia/mycelia/wire/MessageTree") (P1 : Fld Z h0 o1 "com/example/mycelia/mycelia/wire/MessageTree" "attributes" "Lcom/example/mycelia/mycelia/wire/MessageTree$IntRecords;" (.ref o3)) (P2 : Fld Z h0 o1 "com/example/mycelia/mycelia/wire/MessageTree" "codes" "Ljava/util/Map;" (.ref o4)) (P3 : Fld Z h0 o1 "com/example/mycelia/mycelia/wire/MessageTree" "deepest" "I" (.int 0)) (P4 : Fld Z h0 o1 "com/example/mycelia/mycelia/wire/MessageTree" "elements" "Lcom/example/mycelia/mycelia/wire/MessageTree$IntRecords;" (.ref o5)) (P5 : Fld Z h0 o1 "com/example/mycelia/mycelia/wire/MessageTree" "names" "Ljava/util/List;" (.ref o6)) (P6 : Fld Z h0 o1 "com/example/mycelia/mycelia/wire/MessageTree" "open" "I" (.int 0)) (P7 : Fld Z h0 o1 "com/example/mycelia/mycelia/wire/MessageTree" "passed" "J" (.long q7)) (P8 : Fld Z h0 o1 "com/example/mycelia/mycelia/wire/MessageTree" "text" "Ljava/lang/StringBuilder;" (.ref o8)) (P9 : Fld Z h0 o1 "com/example/mycelia/mycelia/wire/MessageTree" "values" "Ljava/lang/StringBuilder;" (.ref o9)) (P10 : Fld Z h0 o1 "com/example/mycelia/mycelia/wire/MessageTree" "widePassed" "Z" (.int 0)) (P11 : Fld Z h0 o1 "com/example/mycelia/mycelia/wire/MessageTree" "wideText" "Z" (.int 0)) (P12 : Fld Z h0 o1 "com/example/mycelia/mycelia/wire/MessageTree" "wideValues" "Z" (.int 0)) :
    MetFree l yn16 (head1 (Jvm.Cond.code yn16 prog_21_method_8_code 4 none :: ws) ({ frames := 0, cells := 0, slots := 0, locals := 0 } : Room)) (fun a U => a = #[(.ref o1), (.long q2), (.int 0)] ∧ Z.Warmed39 U.vm ∧ U.heap = h0) (fun _ _ _ _ _ => True) (fun _ U o U' => ∃ v L, o = .returned v ∧ Q19 Z o1 o3 o4 o5 o6 o8 o9 o10 o11 o12 o13 o16 kc14 kc15 q7 q2 h0 n0 v U'.heap L ∧ FrameEnd U o U' L ({ frames := 0, cells := 0, slots := 0, locals := 0 } : Room).cells ({ frames := 0, cells := 0, slots := 0, locals := 0 } : Room).slots) := by
  refine MetFree.of_bodySF (plainFor_of_name pn8) hisR ?_
  intro p e s m args below meth c s₁ Bd hml0 hP hK
  obtain ⟨rfl, hZ, hh⟩ := hP
  have hx := Bd.exec
  have hby := Bd.bytes
  have hml : c.maxLocals = 4 := hml0
  have hown : s.vm.findClass "com/example/mycelia/mycelia/wire/MessageTree" = some m.cls := findClass_of_methodNamed Bd.named
  have hnm := (name_of_methodNamed Bd.named Bd.method).1
  have hret := Bd.returns
  have hlk : meth.locks = false := BodyLoose.notSynchronized Bd
  have X0 : Stand p l e ({ frames := 0, cells := 0, slots := 0, locals := 0 } : Room) s m #[(.ref o1), (.long q2), (.int 0)] below meth c s₁ [] 0 0 := Stand.of_body Bd
  have e0 : s₁.heap = h0 := by rw [← hh, Bd.state]; rfl
  have N0 := Fr.nil n0
  have pre0 : ∀ t, Steps p.tables e below (s₁.setTop (mkF m 0 #[.val (.ref o1), .val (.long q2), .second, .val (.int 0)] [])) t → Steps p.tables e below (s₁.setTop (entryFrame m #[(.ref o1), (.long q2), (.int 0)] 4)) t := fun t k => castTop (ef19 m o1 q2 (0 : Int32)) k
  obtain ⟨T1, X1, e1, st1⟩ := getF X0 hx hZ hown (host := "") (Or.inl (own_w hw 130 rfl)) Via.refl e0 P7 (g := (mkF m 2 #[.val (.ref o1), .val (.long q2), .second, .val (.int 0)] [(.ref o1), (.ref o1)])) rfl rfl (hb hby d15_2)
  obtain ⟨T2, h2, X2, e2, W2, st2⟩ := putF X1 hx hZ hown (host := "") (Or.inl (own_w hw 130 rfl)) Via.refl e1 P7 P0 (Or.inl (own_w hw 131 rfl)) (own_w hw 1 rfl) (ty := .long) (by decide) rfl rfl (g := (mkF m 7 #[.val (.ref o1), .val (.long q2), .second, .val (.int 0)] [(.long (q7 + q2)), (.ref o1)])) rfl rfl (hb hby d15_7)
  have N2 := Fr.snoc X2 N0 g_o1
  have Fw2 := P7.same W2
  have M2 : h0.size ≤ h2.size := Nat.le_trans (Nat.le_refl _) (Nat.le_of_eq W2.size.symm)
  have O2 := Old.wr O0 W2 g_o1
  have f3 := (P10.other W2 (Or.inr (slot_ne (Or.inl (own_w hw 133 rfl)) (Or.inl (own_w hw 131 rfl)) (by decide) (t := .boolean) (t' := .long) (by decide) (by decide))))
  obtain ⟨T4, X4, e4, st4⟩ := getF X2 hx hZ hown (host := "") (Or.inl (own_w hw 132 rfl)) Via.refl e2 f3 (g := (mkF m 12 #[.val (.ref o1), .val (.long q2), .second, .val (.int 0)] [(.ref o1), (.ref o1)])) rfl rfl (hb hby d15_12)
  have f5 := (P0.wr W2)
  obtain ⟨T6, h6, X6, e6, W6, st6⟩ := putFN X4 hx hZ hown (own_w hw 132 rfl) Via.refl e4 f3 f5 (Or.inl (own_w hw 133 rfl)) (own_w hw 1 rfl) (ty := .boolean) (v' := (.int 0)) (by decide) rfl (by decide) (g := (mkF m 27 #[.val (.ref o1), .val (.long q2), .second, .val (.int 0)] [(.int 0), (.ref o1)])) rfl rfl (hb hby d15_27)
  have N6 := Fr.snoc X6 N2 g_o1
  have Fw6 := f3.same W6
  have M6 : h0.size ≤ h6.size := Nat.le_trans M2 (Nat.le_of_eq W6.size.symm)
  have O6 := Old.wr O2 W6 g_o1
  obtain ⟨fs, hr, hrun, hended, hW, hsame⟩ := X6.leave (v := none) (fun _ => rfl)
  have KL : Keep h0 h6 [o1] := (((Keep.refl h0 [o1]).wr W2 (Or.inl (List.mem_of_getElem? (i := 0) rfl))).wr W6 (Or.inl (List.mem_of_getElem? (i := 0) rfl)))
  have f7 := (f5.wr W6)
  have f8 := ((P1.other W2 (Or.inr (slot_ne (Or.inr (own_w hw 23 rfl)) (Or.inl (own_w hw 131 rfl)) (by decide) (t := (.object "com/example/mycelia/mycelia/wire/MessageTree$IntRecords")) (t' := .long) (by decide) (by decide)))).other W6 (Or.inr (slot_ne (Or.inr (own_w hw 23 rfl)) (Or.inl (own_w hw 133 rfl)) (by decide) (t := (.object "com/example/mycelia/mycelia/wire/MessageTree$IntRecords")) (t' := .boolean) (by decide) (by decide))))
  have f9 := ((P2.other W2 (Or.inr (slot_ne (Or.inr (own_w hw 91 rfl)) (Or.inl (own_w hw 131 rfl)) (by decide) (t := (.object "java/util/Map")) (t' := .long) (by decide) (by decide)))).other W6 (Or.inr (slot_ne (Or.inr (own_w hw 91 rfl)) (Or.inl (own_w hw 133 rfl)) (by decide) (t := (.object "java/util/Map")) (t' := .boolean) (by decide) (by decide))))
  have f10 := ((P3.other W2 (Or.inr (slot_ne (Or.inl (own_w hw 148 rfl)) (Or.inl (own_w hw 131 rfl)) (by decide) (t := .int) (t' := .long) (by decide) (by decide)))).other W6 (Or.inr (slot_ne (Or.inl (own_w hw 148 rfl)) (Or.inl (own_w hw 133 rfl)) (by decide) (t := .int) (t' := .boolean) (by decide) (by decide))))
  have f11 := ((P4.other W2 (Or.inr (slot_ne (Or.inr (own_w hw 21 rfl)) (Or.inl (own_w hw 131 rfl)) (by decide) (t := (.object "com/example/mycelia/mycelia/wire/MessageTree$IntRecords")) (t' := .long) (by decide) (by decide)))).other W6 (Or.inr (slot_ne (Or.inr (own_w hw 21 rfl)) (Or.inl (own_w hw 133 rfl)) (by decide) (t := (.object "com/example/mycelia/mycelia/wire/MessageTree$IntRecords")) (t' := .boolean) (by decide) (by decide))))
  have f12 := ((P5.other W2 (Or.inr (slot_ne (Or.inr (own_w hw 73 rfl)) (Or.inl (own_w hw 131 rfl)) (by decide) (t := (.object "java/util/List")) (t' := .long) (by decide) (by decide)))).other W6 (Or.inr (slot_ne (Or.inr (own_w hw 73 rfl)) (Or.inl (own_w hw 133 rfl)) (by decide) (t := (.object "java/util/List")) (t' := .boolean) (by decide) (by decide))))
  have f13 := ((P6.other W2 (Or.inr (slot_ne (Or.inl (own_w hw 105 rfl)) (Or.inl (own_w hw 131 rfl)) (by decide) (t := .int) (t' := .long) (by decide) (by decide)))).other W6 (Or.inr (slot_ne (Or.inl (own_w hw 105 rfl)) (Or.inl (own_w hw 133 rfl)) (by decide) (t := .int) (t' := .boolean) (by decide) (by decide))))
  have f14 := (Fw2.other W6 (Or.inr (slot_ne (Or.inl (own_w hw 131 rfl)) (Or.inl (own_w hw 133 rfl)) (by decide) (t := .long) (t' := .boolean) (by decide) (by decide))))
  have f15 := ((P8.other W2 (Or.inr (slot_ne (Or.inr (own_w hw 45 rfl)) (Or.inl (own_w hw 131 rfl)) (by decide) (t := (.object "java/lang/StringBuilder")) (t' := .long) (by decide) (by decide)))).other W6 (Or.inr (slot_ne (Or.inr (own_w hw 45 rfl)) (Or.inl (own_w hw 133 rfl)) (by decide) (t := (.object "java/lang/StringBuilder")) (t' := .boolean) (by decide) (by decide))))
  have f16 := ((P9.other W2 (Or.inr (slot_ne (Or.inr (own_w hw 47 rfl)) (Or.inl (own_w hw 131 rfl)) (by decide) (t := (.object "java/lang/StringBuilder")) (t' := .long) (by decide) (by decide)))).other W6 (Or.inr (slot_ne (Or.inr (own_w hw 47 rfl)) (Or.inl (own_w hw 133 rfl)) (by decide) (t := (.object "java/lang/StringBuilder")) (t' := .boolean) (by decide) (by decide))))
  have f17 := ((P11.other W2 (Or.inr (slot_ne (Or.inl (own_w hw 127 rfl)) (Or.inl (own_w hw 131 rfl)) (by decide) (t := .boolean) (t' := .long) (by decide) (by decide)))).other W6 (Or.inr (slot_ne (Or.inl (own_w hw 127 rfl)) (Or.inl (own_w hw 133 rfl)) (by decide) (t := .boolean) (t' := .boolean) (by decide) (by decide))))
  have f18 := ((P12.other W2 (Or.inr (slot_ne (Or.inl (own_w hw 129 rfl)) (Or.inl (own_w hw 131 rfl)) (by decide) (t := .boolean) (t' := .long) (by decide) (by decide)))).other W6 (Or.inr (slot_ne (Or.inl (own_w hw 129 rfl)) (Or.inl (own_w hw 133 rfl)) (by decide) (t := .boolean) (t' := .boolean) (by decide) (by decide))))
  refine ⟨_, _, pre0 _ ?_, hrun, hended, _, _, rfl, ?_, ⟨_, rfl⟩, hW, hsame.mono (by decide) (by decide)⟩
  ·
    show Steps p.tables e below (s₁.setTop (mkF m 0 #[.val (.ref o1), .val (.long q2), .second, .val (.int 0)] [])) _
    refine XS.aloadN X0.here hx rfl (hb hby d15_0) rfl rfl ?_
    refine XS.dup X0.here hx rfl (hb hby d15_1) rfl rfl ?_
    refine st1 _ ?_
    refine XS.lloadN X1.here hx rfl (hb hby d15_5) rfl ?_
    refine XS.ladd X1.here hx rfl (hb hby d15_6) rfl ?_
    refine st2 _ ?_
    refine XS.aloadN X2.here hx rfl (hb hby d15_10) rfl rfl ?_
    refine XS.aloadN X2.here hx rfl (hb hby d15_11) rfl rfl ?_
    refine st4 _ ?_
    refine XS.ifNo X4.here hx rfl (hb hby d15_15) rfl ((if0 _ _).trans (teq (by decide : (0 : Int32) = (0 : Int32))).2) ?_
    refine XS.iloadN X4.here hx rfl (hb hby d15_18) rfl ?_
    refine XS.ifYes X4.here hx rfl (pc0 := 19) (pc' := 26) rfl (hb hby d15_19) rfl ((if0 _ _).trans (teq (by decide : (0 : Int32) = (0 : Int32))).1) (by decide) (by decide) ?_
    refine XS.iconst X4.here hx rfl (hb hby d15_26) ?_
    refine st6 _ ?_
    show Steps p.tables e below (T6.setTop (mkF m 30 #[.val (.ref o1), .val (.long q2), .second, .val (.int 0)] [])) _
    exact X6.returnOut hx hret (hb hby d15_30) hr
  ·
    show Q19 Z o1 o3 o4 o5 o6 o8 o9 o10 o11 o12 o13 o16 kc14 kc15 q7 q2 h0 n0 _ T6.heap _
    rw [e6]
    exact ⟨rfl, N6, KL, f7, f8, f9, f10, f11, f12, f13, f14, f15, f16, Fw6, f17, f18⟩
theorem d15_22 : decode prog_21_method_8_code 22 = .ok (.iconst 1, 1) := by decide +kernel
theorem d15_23 : decode prog_21_method_8_code 23 = .ok (.goto 4, 3) := by decide +kernel
theorem ef20 (m : MethodId) (x0 : Addr) (x1 : Int64) (x2 : Int32) : entryFrame m #[(.ref x0), (.long x1), (.int x2)] 4 = mkF m 0 #[.val (.ref x0), .val (.long x1), .second, .val (.int x2)] [] := by first | (simp [entryFrame, mkF, argsToLocals, Value.category]; done) | rfl
def Q20 (Z : State) (o1 : Addr) (o3 : Addr) (o4 : Addr) (o5 : Addr) (o6 : Addr) (o8 : Addr) (o9 : Addr) (o10 : Addr) (o11 : Addr) (o12 : Addr) (o13 : Addr) (o16 : Addr) (kc14 : ClassId) (kc15 : ClassId) (q7 : Int64) (q2 : Int64) (h0 : Heap) (n0 : Nat) (v : Option Value) (h : Heap) (L : List Loc) : Prop :=
  (v = none ∧ Fr n0 L ∧ Keep h0 h [o1] ∧ (Exa Z h o1 "com/example/mycelia/mycelia/wire/MessageTree") ∧ (Fld Z h o1 "com/example/mycelia/mycelia/wire/MessageTree" "attributes" "Lcom/example/mycelia/mycelia/wire/MessageTree$IntRecords;" (.ref o3)) ∧ (Fld Z h o1 "com/example/mycelia/mycelia/wire/MessageTree" "codes" "Ljava/util/Map;" (.ref o4)) ∧ (Fld Z h o1 "com/example/mycelia/mycelia/wire/MessageTree" "deepest" "I" (.int 0)) ∧ (Fld Z h o1 "com/example/mycelia/mycelia/wire/MessageTree" "elements" "Lcom/example/mycelia/mycelia/wire/MessageTree$IntRecords;" (.ref o5)) ∧ (Fld Z h o1 "com/example/mycelia/mycelia/wire/MessageTree" "names" "Ljava/util/List;" (.ref o6)) ∧ (Fld Z h o1 "com/example/mycelia/mycelia/wire/MessageTree" "open" "I" (.int 0)) ∧ (Fld Z h o1 "com/example/mycelia/mycelia/wire/MessageTree" "passed" "J" (.long (q7 + q2))) ∧ (Fld Z h o1 "com/example/mycelia/mycelia/wire/MessageTree" "text" "Ljava/lang/StringBuilder;" (.ref o8)) ∧ (Fld Z h o1 "com/example/mycelia/mycelia/wire/MessageTree" "values" "Ljava/lang/StringBuilder;" (.ref o9)) ∧ (Fld Z h o1 "com/example/mycelia/mycelia/wire/MessageTree" "widePassed" "Z" (.int 1)) ∧ (Fld Z h o1 "com/example/mycelia/mycelia/wire/MessageTree" "wideText" "Z" (.int 0)) ∧ (Fld Z h o1 "com/example/mycelia/mycelia/wire/MessageTree" "wideValues" "Z" (.int 0)))
set_option maxRecDepth 65536 in
set_option maxHeartbeats 40000000 in
theorem rm20 (l : Launch) (Z : State) (a0 : Array Value) (hw : ∀ d ∈ tables_1, d.before a0 Z = true) (ws : List Jvm.Cond) (o1 : Addr) (o3 : Addr) (o4 : Addr) (o5 : Addr) (o6 : Addr) (o8 : Addr) (o9 : Addr) (o10 : Addr) (o11 : Addr) (o12 : Addr) (o13 : Addr) (o16 : Addr) (kc14 : ClassId) (kc15 : ClassId) (q7 : Int64) (q2 : Int64) (h0 : Heap) (n0 : Nat) (O0 : Old Z n0 h0) (g_o1 : n0 ≤ o1) (g_o3 : n0 ≤ o3) (g_o4 : n0 ≤ o4) (g_o5 : n0 ≤ o5) (g_o6 : n0 ≤ o6) (g_o8 : n0 ≤ o8) (g_o9 : n0 ≤ o9) (g_o10 : n0 ≤ o10) (g_o11 : n0 ≤ o11) (g_o12 : n0 ≤ o12) (g_o13 : n0 ≤ o13) (g_o16 : n0 ≤ o16) (Ov_kc14 : OvrA Z kc14 .int "[I") (Ov_kc15 : OvrA Z kc15 .int "[I") (P0 : Exa Z h0 o1 "com/example/mycelia/mycelia/wire/MessageTree") (P1 : Fld Z h0 o1 "com/example/mycelia/mycelia/wire/MessageTree" "attributes" "Lcom/example/mycelia/mycelia/wire/MessageTree$IntRecords;" (.ref o3)) (P2 : Fld Z h0 o1 "com/example/mycelia/mycelia/wire/MessageTree" "codes" "Ljava/util/Map;" (.ref o4)) (P3 : Fld Z h0 o1 "com/example/mycelia/mycelia/wire/MessageTree" "deepest" "I" (.int 0)) (P4 : Fld Z h0 o1 "com/example/mycelia/mycelia/wire/MessageTree" "elements" "Lcom/example/mycelia/mycelia/wire/MessageTree$IntRecords;" (.ref o5)) (P5 : Fld Z h0 o1 "com/example/mycelia/mycelia/wire/MessageTree" "names" "Ljava/util/List;" (.ref o6)) (P6 : Fld Z h0 o1 "com/example/mycelia/mycelia/wire/MessageTree" "open" "I" (.int 0)) (P7 : Fld Z h0 o1 "com/example/mycelia/mycelia/wire/MessageTree" "passed" "J" (.long q7)) (P8 : Fld Z h0 o1 "com/example/mycelia/mycelia/wire/MessageTree" "text" "Ljava/lang/StringBuilder;" (.ref o8)) (P9 : Fld Z h0 o1 "com/example/mycelia/mycelia/wire/MessageTree" "values" "Ljava/lang/StringBuilder;" (.ref o9)) (P10 : Fld Z h0 o1 "com/example/mycelia/mycelia/wire/MessageTree" "widePassed" "Z" (.int 0)) (P11 : Fld Z h0 o1 "com/example/mycelia/mycelia/wire/MessageTree" "wideText" "Z" (.int 0)) (P12 : Fld Z h0 o1 "com/example/mycelia/mycelia/wire/MessageTree" "wideValues" "Z" (.int 0)) :
    MetFree l yn16 (head1 (Jvm.Cond.code yn16 prog_21_method_8_code 4 none :: ws) ({ frames := 0, cells := 0, slots := 0, locals := 0 } : Room)) (fun a U => a = #[(.ref o1), (.long q2), (.int 1)] ∧ Z.Warmed39 U.vm ∧ U.heap = h0) (fun _ _ _ _ _ => True) (fun _ U o U' => ∃ v L, o = .returned v ∧ Q20 Z o1 o3 o4 o5 o6 o8 o9 o10 o11 o12 o13 o16 kc14 kc15 q7 q2 h0 n0 v U'.heap L ∧ FrameEnd U o U' L ({ frames := 0, cells := 0, slots := 0, locals := 0 } : Room).cells ({ frames := 0, cells := 0, slots := 0, locals := 0 } : Room).slots) := by
  refine MetFree.of_bodySF (plainFor_of_name pn8) hisR ?_
  intro p e s m args below meth c s₁ Bd hml0 hP hK
  obtain ⟨rfl, hZ, hh⟩ := hP
  have hx := Bd.exec
  have hby := Bd.bytes
  have hml : c.maxLocals = 4 := hml0
  have hown : s.vm.findClass "com/example/mycelia/mycelia/wire/MessageTree" = some m.cls := findClass_of_methodNamed Bd.named
  have hnm := (name_of_methodNamed Bd.named Bd.method).1
  have hret := Bd.returns
  have hlk : meth.locks = false := BodyLoose.notSynchronized Bd
  have X0 : Stand p l e ({ frames := 0, cells := 0, slots := 0, locals := 0 } : Room) s m #[(.ref o1), (.long q2), (.int 1)] below meth c s₁ [] 0 0 := Stand.of_body Bd
  have e0 : s₁.heap = h0 := by rw [← hh, Bd.state]; rfl
  have N0 := Fr.nil n0
  have pre0 : ∀ t, Steps p.tables e below (s₁.setTop (mkF m 0 #[.val (.ref o1), .val (.long q2), .second, .val (.int 1)] [])) t → Steps p.tables e below (s₁.setTop (entryFrame m #[(.ref o1), (.long q2), (.int 1)] 4)) t := fun t k => castTop (ef20 m o1 q2 (1 : Int32)) k
  obtain ⟨T1, X1, e1, st1⟩ := getF X0 hx hZ hown (host := "") (Or.inl (own_w hw 130 rfl)) Via.refl e0 P7 (g := (mkF m 2 #[.val (.ref o1), .val (.long q2), .second, .val (.int 1)] [(.ref o1), (.ref o1)])) rfl rfl (hb hby d15_2)
  obtain ⟨T2, h2, X2, e2, W2, st2⟩ := putF X1 hx hZ hown (host := "") (Or.inl (own_w hw 130 rfl)) Via.refl e1 P7 P0 (Or.inl (own_w hw 131 rfl)) (own_w hw 1 rfl) (ty := .long) (by decide) rfl rfl (g := (mkF m 7 #[.val (.ref o1), .val (.long q2), .second, .val (.int 1)] [(.long (q7 + q2)), (.ref o1)])) rfl rfl (hb hby d15_7)
  have N2 := Fr.snoc X2 N0 g_o1
  have Fw2 := P7.same W2
  have M2 : h0.size ≤ h2.size := Nat.le_trans (Nat.le_refl _) (Nat.le_of_eq W2.size.symm)
  have O2 := Old.wr O0 W2 g_o1
  have f3 := (P10.other W2 (Or.inr (slot_ne (Or.inl (own_w hw 133 rfl)) (Or.inl (own_w hw 131 rfl)) (by decide) (t := .boolean) (t' := .long) (by decide) (by decide))))
  obtain ⟨T4, X4, e4, st4⟩ := getF X2 hx hZ hown (host := "") (Or.inl (own_w hw 132 rfl)) Via.refl e2 f3 (g := (mkF m 12 #[.val (.ref o1), .val (.long q2), .second, .val (.int 1)] [(.ref o1), (.ref o1)])) rfl rfl (hb hby d15_12)
  have f5 := (P0.wr W2)
  obtain ⟨T6, h6, X6, e6, W6, st6⟩ := putFN X4 hx hZ hown (own_w hw 132 rfl) Via.refl e4 f3 f5 (Or.inl (own_w hw 133 rfl)) (own_w hw 1 rfl) (ty := .boolean) (v' := (.int 1)) (by decide) rfl (by decide) (g := (mkF m 27 #[.val (.ref o1), .val (.long q2), .second, .val (.int 1)] [(.int 1), (.ref o1)])) rfl rfl (hb hby d15_27)
  have N6 := Fr.snoc X6 N2 g_o1
  have Fw6 := f3.same W6
  have M6 : h0.size ≤ h6.size := Nat.le_trans M2 (Nat.le_of_eq W6.size.symm)
  have O6 := Old.wr O2 W6 g_o1
  obtain ⟨fs, hr, hrun, hended, hW, hsame⟩ := X6.leave (v := none) (fun _ => rfl)
  have KL : Keep h0 h6 [o1] := (((Keep.refl h0 [o1]).wr W2 (Or.inl (List.mem_of_getElem? (i := 0) rfl))).wr W6 (Or.inl (List.mem_of_getElem? (i := 0) rfl)))
  have f7 := (f5.wr W6)
  have f8 := ((P1.other W2 (Or.inr (slot_ne (Or.inr (own_w hw 23 rfl)) (Or.inl (own_w hw 131 rfl)) (by decide) (t := (.object "com/example/mycelia/mycelia/wire/MessageTree$IntRecords")) (t' := .long) (by decide) (by decide)))).other W6 (Or.inr (slot_ne (Or.inr (own_w hw 23 rfl)) (Or.inl (own_w hw 133 rfl)) (by decide) (t := (.object "com/example/mycelia/mycelia/wire/MessageTree$IntRecords")) (t' := .boolean) (by decide) (by decide))))
  have f9 := ((P2.other W2 (Or.inr (slot_ne (Or.inr (own_w hw 91 rfl)) (Or.inl (own_w hw 131 rfl)) (by decide) (t := (.object "java/util/Map")) (t' := .long) (by decide) (by decide)))).other W6 (Or.inr (slot_ne (Or.inr (own_w hw 91 rfl)) (Or.inl (own_w hw 133 rfl)) (by decide) (t := (.object "java/util/Map")) (t' := .boolean) (by decide) (by decide))))
  have f10 := ((P3.other W2 (Or.inr (slot_ne (Or.inl (own_w hw 148 rfl)) (Or.inl (own_w hw 131 rfl)) (by decide) (t := .int) (t' := .long) (by decide) (by decide)))).other W6 (Or.inr (slot_ne (Or.inl (own_w hw 148 rfl)) (Or.inl (own_w hw 133 rfl)) (by decide) (t := .int) (t' := .boolean) (by decide) (by decide))))
  have f11 := ((P4.other W2 (Or.inr (slot_ne (Or.inr (own_w hw 21 rfl)) (Or.inl (own_w hw 131 rfl)) (by decide) (t := (.object "com/example/mycelia/mycelia/wire/MessageTree$IntRecords")) (t' := .long) (by decide) (by decide)))).other W6 (Or.inr (slot_ne (Or.inr (own_w hw 21 rfl)) (Or.inl (own_w hw 133 rfl)) (by decide) (t := (.object "com/example/mycelia/mycelia/wire/MessageTree$IntRecords")) (t' := .boolean) (by decide) (by decide))))
  have f12 := ((P5.other W2 (Or.inr (slot_ne (Or.inr (own_w hw 73 rfl)) (Or.inl (own_w hw 131 rfl)) (by decide) (t := (.object "java/util/List")) (t' := .long) (by decide) (by decide)))).other W6 (Or.inr (slot_ne (Or.inr (own_w hw 73 rfl)) (Or.inl (own_w hw 133 rfl)) (by decide) (t := (.object "java/util/List")) (t' := .boolean) (by decide) (by decide))))
  have f13 := ((P6.other W2 (Or.inr (slot_ne (Or.inl (own_w hw 105 rfl)) (Or.inl (own_w hw 131 rfl)) (by decide) (t := .int) (t' := .long) (by decide) (by decide)))).other W6 (Or.inr (slot_ne (Or.inl (own_w hw 105 rfl)) (Or.inl (own_w hw 133 rfl)) (by decide) (t := .int) (t' := .boolean) (by decide) (by decide))))
  have f14 := (Fw2.other W6 (Or.inr (slot_ne (Or.inl (own_w hw 131 rfl)) (Or.inl (own_w hw 133 rfl)) (by decide) (t := .long) (t' := .boolean) (by decide) (by decide))))
  have f15 := ((P8.other W2 (Or.inr (slot_ne (Or.inr (own_w hw 45 rfl)) (Or.inl (own_w hw 131 rfl)) (by decide) (t := (.object "java/lang/StringBuilder")) (t' := .long) (by decide) (by decide)))).other W6 (Or.inr (slot_ne (Or.inr (own_w hw 45 rfl)) (Or.inl (own_w hw 133 rfl)) (by decide) (t := (.object "java/lang/StringBuilder")) (t' := .boolean) (by decide) (by decide))))
  have f16 := ((P9.other W2 (Or.inr (slot_ne (Or.inr (own_w hw 47 rfl)) (Or.inl (own_w hw 131 rfl)) (by decide) (t := (.object "java/lang/StringBuilder")) (t' := .long) (by decide) (by decide)))).other W6 (Or.inr (slot_ne (Or.inr (own_w hw 47 rfl)) (Or.inl (own_w hw 133 rfl)) (by decide) (t := (.object "java/lang/StringBuilder")) (t' := .boolean) (by decide) (by decide))))
  have f17 := ((P11.other W2 (Or.inr (slot_ne (Or.inl (own_w hw 127 rfl)) (Or.inl (own_w hw 131 rfl)) (by decide) (t := .boolean) (t' := .long) (by decide) (by decide)))).other W6 (Or.inr (slot_ne (Or.inl (own_w hw 127 rfl)) (Or.inl (own_w hw 133 rfl)) (by decide) (t := .boolean) (t' := .boolean) (by decide) (by decide))))
  have f18 := ((P12.other W2 (Or.inr (slot_ne (Or.inl (own_w hw 129 rfl)) (Or.inl (own_w hw 131 rfl)) (by decide) (t := .boolean) (t' := .long) (by decide) (by decide)))).other W6 (Or.inr (slot_ne (Or.inl (own_w hw 129 rfl)) (Or.inl (own_w hw 133 rfl)) (by decide) (t := .boolean) (t' := .boolean) (by decide) (by decide))))
  refine ⟨_, _, pre0 _ ?_, hrun, hended, _, _, rfl, ?_, ⟨_, rfl⟩, hW, hsame.mono (by decide) (by decide)⟩
  ·
    show Steps p.tables e below (s₁.setTop (mkF m 0 #[.val (.ref o1), .val (.long q2), .second, .val (.int 1)] [])) _
    refine XS.aloadN X0.here hx rfl (hb hby d15_0) rfl rfl ?_
    refine XS.dup X0.here hx rfl (hb hby d15_1) rfl rfl ?_
    refine st1 _ ?_
    refine XS.lloadN X1.here hx rfl (hb hby d15_5) rfl ?_
    refine XS.ladd X1.here hx rfl (hb hby d15_6) rfl ?_
    refine st2 _ ?_
    refine XS.aloadN X2.here hx rfl (hb hby d15_10) rfl rfl ?_
    refine XS.aloadN X2.here hx rfl (hb hby d15_11) rfl rfl ?_
    refine st4 _ ?_
    refine XS.ifNo X4.here hx rfl (hb hby d15_15) rfl ((if0 _ _).trans (teq (by decide : (0 : Int32) = (0 : Int32))).2) ?_
    refine XS.iloadN X4.here hx rfl (hb hby d15_18) rfl ?_
    refine XS.ifNo X4.here hx rfl (hb hby d15_19) rfl ((if0 _ _).trans (feq (by decide : ¬ ((1 : Int32) = (0 : Int32)))).1) ?_
    refine XS.iconst X4.here hx rfl (hb hby d15_22) ?_
    refine XS.goto X4.here hx rfl (pc0 := 23) (pc' := 27) rfl (hb hby d15_23) (by decide) (by decide) ?_
    refine st6 _ ?_
    show Steps p.tables e below (T6.setTop (mkF m 30 #[.val (.ref o1), .val (.long q2), .second, .val (.int 1)] [])) _
    exact X6.returnOut hx hret (hb hby d15_30) hr
  ·
    show Q20 Z o1 o3 o4 o5 o6 o8 o9 o10 o11 o12 o13 o16 kc14 kc15 q7 q2 h0 n0 _ T6.heap _
    rw [e6]
    exact ⟨rfl, N6, KL, f7, f8, f9, f10, f11, f12, f13, f14, f15, f16, Fw6, f17, f18⟩
theorem d10_70 : decode prog_21_method_14_code 70 = .ok (.iconst 1, 1) := by decide +kernel
theorem d10_71 : decode prog_21_method_14_code 71 = .ok (.goto 4, 3) := by decide +kernel
theorem ef21 (m : MethodId) (x0 : Addr) : entryFrame m #[(.ref x0)] 1 = mkF m 0 #[.val (.ref x0)] [] := by first | (simp [entryFrame, mkF, argsToLocals, Value.category]; done) | rfl
def Q21 (Z : State) (o1 : Addr) (o2 : Addr) (o3 : Addr) (o4 : Addr) (o5 : Addr) (o7 : Addr) (o8 : Addr) (o9 : Addr) (o10 : Addr) (o11 : Addr) (o12 : Addr) (o15 : Addr) (kc13 : ClassId) (kc14 : ClassId) (q6 : Int64) (kc16 : ClassId) (kc17 : ClassId) (h0 : Heap) (n0 : Nat) (v : Option Value) (h : Heap) (L : List Loc) : Prop :=
  (v = some (.long ((((288 : Int64) + (q6 <<< ((1 : Int32) &&& 0x3f).toInt64)) + (0 : Int64)) + (0 : Int64))) ∧ Fr n0 L ∧ h = h0)
set_option maxRecDepth 65536 in
set_option maxHeartbeats 40000000 in
theorem rm21 (l : Launch) (Z : State) (a0 : Array Value) (hw : ∀ d ∈ tables_1, d.before a0 Z = true) (ws : List Jvm.Cond) (o1 : Addr) (o2 : Addr) (o3 : Addr) (o4 : Addr) (o5 : Addr) (o7 : Addr) (o8 : Addr) (o9 : Addr) (o10 : Addr) (o11 : Addr) (o12 : Addr) (o15 : Addr) (kc13 : ClassId) (kc14 : ClassId) (q6 : Int64) (kc16 : ClassId) (kc17 : ClassId) (h0 : Heap) (n0 : Nat) (O0 : Old Z n0 h0) (g_o1 : n0 ≤ o1) (g_o2 : n0 ≤ o2) (g_o3 : n0 ≤ o3) (g_o4 : n0 ≤ o4) (g_o5 : n0 ≤ o5) (g_o7 : n0 ≤ o7) (g_o8 : n0 ≤ o8) (g_o9 : n0 ≤ o9) (g_o10 : n0 ≤ o10) (g_o11 : n0 ≤ o11) (g_o12 : n0 ≤ o12) (g_o15 : n0 ≤ o15) (Ov_kc13 : OvrA Z kc13 .int "[I") (Ov_kc14 : OvrA Z kc14 .int "[I") (P1 : Fld Z h0 o1 "com/example/mycelia/mycelia/wire/MessageTree" "attributes" "Lcom/example/mycelia/mycelia/wire/MessageTree$IntRecords;" (.ref o2)) (P3 : Fld Z h0 o1 "com/example/mycelia/mycelia/wire/MessageTree" "deepest" "I" (.int 0)) (P4 : Fld Z h0 o1 "com/example/mycelia/mycelia/wire/MessageTree" "elements" "Lcom/example/mycelia/mycelia/wire/MessageTree$IntRecords;" (.ref o4)) (P5 : Fld Z h0 o1 "com/example/mycelia/mycelia/wire/MessageTree" "names" "Ljava/util/List;" (.ref o5)) (P7 : Fld Z h0 o1 "com/example/mycelia/mycelia/wire/MessageTree" "passed" "J" (.long q6)) (P8 : Fld Z h0 o1 "com/example/mycelia/mycelia/wire/MessageTree" "text" "Ljava/lang/StringBuilder;" (.ref o7)) (P9 : Fld Z h0 o1 "com/example/mycelia/mycelia/wire/MessageTree" "values" "Ljava/lang/StringBuilder;" (.ref o8)) (P10 : Fld Z h0 o1 "com/example/mycelia/mycelia/wire/MessageTree" "widePassed" "Z" (.int 1)) (P11 : Fld Z h0 o1 "com/example/mycelia/mycelia/wire/MessageTree" "wideText" "Z" (.int 0)) (P12 : Fld Z h0 o1 "com/example/mycelia/mycelia/wire/MessageTree" "wideValues" "Z" (.int 0)) (P13 : Exa Z h0 o2 "com/example/mycelia/mycelia/wire/MessageTree$IntRecords") (P15 : Fld Z h0 o2 "com/example/mycelia/mycelia/wire/MessageTree$IntRecords" "heap" "J" (.long 0)) (P19 : Exa Z h0 o4 "com/example/mycelia/mycelia/wire/MessageTree$IntRecords") (P21 : Fld Z h0 o4 "com/example/mycelia/mycelia/wire/MessageTree$IntRecords" "heap" "J" (.long 256)) (P23 : Exa Z h0 o5 "java/util/ArrayList") (P26 : Fld Z h0 o5 "java/util/ArrayList" "size" "I" (.int 0)) (P27 : Exa Z h0 o7 "java/lang/StringBuilder") (P28 : Fld Z h0 o7 "java/lang/AbstractStringBuilder" "coder" "B" (.int 0)) (P29 : Fld Z h0 o7 "java/lang/AbstractStringBuilder" "value" "[B" (.ref o11)) (P30 : Exa Z h0 o8 "java/lang/StringBuilder") (P31 : Fld Z h0 o8 "java/lang/AbstractStringBuilder" "coder" "B" (.int 0)) (P32 : Fld Z h0 o8 "java/lang/AbstractStringBuilder" "value" "[B" (.ref o12)) (P37 : Arv Z h0 o11 kc16 .byte (16 : Int32) [(.int 0), (.int 0), (.int 0), (.int 0), (.int 0), (.int 0), (.int 0), (.int 0), (.int 0), (.int 0), (.int 0), (.int 0), (.int 0), (.int 0), (.int 0), (.int 0)] (.int 0)) (P39 : Arv Z h0 o12 kc17 .byte (16 : Int32) [(.int 0), (.int 0), (.int 0), (.int 0), (.int 0), (.int 0), (.int 0), (.int 0), (.int 0), (.int 0), (.int 0), (.int 0), (.int 0), (.int 0), (.int 0), (.int 0)] (.int 0)) :
    MetFree l yn15 (head1 (Jvm.Cond.code yn15 prog_21_method_14_code 1 (some .long) :: ws) ({ frames := 2, cells := 0, slots := 0, locals := 26 } : Room)) (fun a U => a = #[(.ref o1)] ∧ Z.Warmed39 U.vm ∧ U.heap = h0) (fun _ _ _ _ _ => True) (fun _ U o U' => ∃ v L, o = .returned v ∧ Q21 Z o1 o2 o3 o4 o5 o7 o8 o9 o10 o11 o12 o15 kc13 kc14 q6 kc16 kc17 h0 n0 v U'.heap L ∧ FrameEnd U o U' L ({ frames := 2, cells := 0, slots := 0, locals := 26 } : Room).cells ({ frames := 2, cells := 0, slots := 0, locals := 26 } : Room).slots) := by
  refine MetFree.of_bodySF (plainFor_of_name pn8) hisR ?_
  intro p e s m args below meth c s₁ Bd hml0 hP hK
  obtain ⟨rfl, hZ, hh⟩ := hP
  have hx := Bd.exec
  have hby := Bd.bytes
  have hml : c.maxLocals = 1 := hml0
  have hown : s.vm.findClass "com/example/mycelia/mycelia/wire/MessageTree" = some m.cls := findClass_of_methodNamed Bd.named
  have hnm := (name_of_methodNamed Bd.named Bd.method).1
  have hret := Bd.returns
  have hlk : meth.locks = false := BodyLoose.notSynchronized Bd
  have X0 : Stand p l e ({ frames := 2, cells := 0, slots := 0, locals := 26 } : Room) s m #[(.ref o1)] below meth c s₁ [] 0 0 := Stand.of_body Bd
  have e0 : s₁.heap = h0 := by rw [← hh, Bd.state]; rfl
  have N0 := Fr.nil n0
  have pre0 : ∀ t, Steps p.tables e below (s₁.setTop (mkF m 0 #[.val (.ref o1)] [])) t → Steps p.tables e below (s₁.setTop (entryFrame m #[(.ref o1)] 1)) t := fun t k => castTop (ef21 m o1) k
  obtain ⟨T1, X1, e1, st1⟩ := getF X0 hx hZ hown (host := "") (Or.inl (own_w hw 20 rfl)) Via.refl e0 P4 (g := (mkF m 1 #[.val (.ref o1)] [(.ref o1)])) rfl rfl (hb hby d10_1)
  obtain ⟨_, T2, L2, X2, hQ2, st2⟩ := own_vb X1 hx hZ hown (y := yn10) (own_w hw 111 rfl) (own_w hw 112 rfl) (own_w hw 114 rfl) (own_w hw 113 rfl) (own_w hw 115 rfl) (own_w hw 11 rfl) e1 P19 (argsL := []) (rest := []) (rm11 l Z a0 hw [] o4 o10 o15 kc14 h0 n0 O0 g_o4 g_o10 g_o15 Ov_kc14 P21) (g := (mkF m 4 #[.val (.ref o1)] [(.ref o4)])) rfl (by rw [hml]; rfl) rfl (hb hby d10_4) (lenOf pd3 rfl) (W := 0) (c1 := 0) (s1 := 0)
  obtain ⟨rfl, Nq3, e4⟩ := hQ2
  have N2 := Fr.app N0 Nq3
  obtain ⟨T5, X5, e5, st5⟩ := getF X2 hx hZ hown (host := "") (Or.inl (own_w hw 22 rfl)) Via.refl e4 P1 (g := (mkF m 8 #[.val (.ref o1)] [(.ref o1), (.long 256)])) rfl rfl (hb hby d10_8)
  obtain ⟨_, T6, L6, X6, hQ6, st6⟩ := own_vb X5 hx hZ hown (y := yn10) (own_w hw 111 rfl) (own_w hw 112 rfl) (own_w hw 114 rfl) (own_w hw 113 rfl) (own_w hw 115 rfl) (own_w hw 11 rfl) e5 P13 (argsL := []) (rest := [(.long 256)]) (rm12 l Z a0 hw [] o2 o9 kc13 h0 n0 O0 g_o2 g_o9 Ov_kc13 P15) (g := (mkF m 11 #[.val (.ref o1)] [(.ref o2), (.long 256)])) rfl (by rw [hml]; rfl) rfl (hb hby d10_11) (lenOf pd3 rfl) (W := 2) (c1 := 0) (s1 := 0)
  obtain ⟨rfl, Nq7, e8⟩ := hQ6
  have N6 := Fr.app N2 Nq7
  obtain ⟨T9, X9, e9, st9⟩ := getF X6 hx hZ hown (host := "") (Or.inl (own_w hw 44 rfl)) Via.refl e8 P8 (g := (mkF m 16 #[.val (.ref o1)] [(.ref o1), (.long 256)])) rfl rfl (hb hby d10_16)
  obtain ⟨_, T10, L10, X10, hQ10, st10⟩ := own_vb X9 hx hZ hown (y := yn12) (own_w hw 116 rfl) (own_w hw 117 rfl) (own_w hw 119 rfl) (own_w hw 118 rfl) (own_w hw 120 rfl) (own_w hw 26 rfl) e9 P27 (argsL := []) (rest := [(.long 256)]) (rm14 l Z a0 hw [] o7 o11 kc16 h0 n0 O0 g_o7 g_o11 P27 P28 P29 P37) (g := (mkF m 19 #[.val (.ref o1)] [(.ref o7), (.long 256)])) rfl (by rw [hml]; rfl) rfl (hb hby d10_19) (lenOf pd4 rfl) (W := 2) (c1 := 0) (s1 := 0)
  obtain ⟨rfl, Nq11, e12⟩ := hQ10
  have N10 := Fr.app N6 Nq11
  obtain ⟨T13, X13, e13, st13⟩ := getF X10 hx hZ hown (host := "") (Or.inl (own_w hw 126 rfl)) Via.refl e12 P11 (g := (mkF m 24 #[.val (.ref o1)] [(.ref o1), (.long 16), (.long 256)])) rfl rfl (hb hby d10_24)
  obtain ⟨T14, X14, e14, st14⟩ := getF X13 hx hZ hown (host := "") (Or.inl (own_w hw 46 rfl)) Via.refl e13 P9 (g := (mkF m 38 #[.val (.ref o1)] [(.ref o1), (.long 272)])) rfl rfl (hb hby d10_38)
  obtain ⟨_, T15, L15, X15, hQ15, st15⟩ := own_vb X14 hx hZ hown (y := yn12) (own_w hw 116 rfl) (own_w hw 117 rfl) (own_w hw 119 rfl) (own_w hw 118 rfl) (own_w hw 120 rfl) (own_w hw 26 rfl) e14 P30 (argsL := []) (rest := [(.long 272)]) (rm14 l Z a0 hw [] o8 o12 kc17 h0 n0 O0 g_o8 g_o12 P30 P31 P32 P39) (g := (mkF m 41 #[.val (.ref o1)] [(.ref o8), (.long 272)])) rfl (by rw [hml]; rfl) rfl (hb hby d10_41) (lenOf pd4 rfl) (W := 2) (c1 := 0) (s1 := 0)
  obtain ⟨rfl, Nq16, e17⟩ := hQ15
  have N15 := Fr.app N10 Nq16
  obtain ⟨T18, X18, e18, st18⟩ := getF X15 hx hZ hown (host := "") (Or.inl (own_w hw 128 rfl)) Via.refl e17 P12 (g := (mkF m 46 #[.val (.ref o1)] [(.ref o1), (.long 16), (.long 272)])) rfl rfl (hb hby d10_46)
  obtain ⟨T19, X19, e19, st19⟩ := getF X18 hx hZ hown (host := "") (Or.inl (own_w hw 130 rfl)) Via.refl e18 P7 (g := (mkF m 60 #[.val (.ref o1)] [(.ref o1), (.long 288)])) rfl rfl (hb hby d10_60)
  obtain ⟨T20, X20, e20, st20⟩ := getF X19 hx hZ hown (host := "") (Or.inl (own_w hw 132 rfl)) Via.refl e19 P10 (g := (mkF m 64 #[.val (.ref o1)] [(.ref o1), (.long q6), (.long 288)])) rfl rfl (hb hby d10_64)
  obtain ⟨T21, X21, e21, st21⟩ := getF X20 hx hZ hown (host := "") (Or.inl (own_w hw 72 rfl)) Via.refl e20 P5 (g := (mkF m 81 #[.val (.ref o1)] [(.ref o1), (.long 240), (.long ((288 : Int64) + (q6 <<< ((1 : Int32) &&& 0x3f).toInt64)))])) rfl rfl (hb hby d10_81)
  obtain ⟨_, T22, L22, X22, hQ22, st22⟩ := own_ib X21 hx hZ hown (z := yn14) (y := yn13) (own_w hw 135 rfl) (own_w hw 136 rfl) (mvT hZ (own_w hw 137 rfl)) (own_w hw 138 rfl) (own_w hw 139 rfl) (own_w hw 140 rfl) (mvT hZ (own_w hw 141 rfl)) (own_w hw 142 rfl) (own_w hw 143 rfl) (own_w hw 50 rfl) e21 P23 (argsL := []) (rest := [(.long 240), (.long ((288 : Int64) + (q6 <<< ((1 : Int32) &&& 0x3f).toInt64)))]) (rm15 l Z a0 hw [] o5 h0 n0 O0 g_o5 P26) (g := (mkF m 84 #[.val (.ref o1)] [(.ref o5), (.long 240), (.long ((288 : Int64) + (q6 <<< ((1 : Int32) &&& 0x3f).toInt64)))])) rfl (by rw [hml]; rfl) rfl (hb hby d10_84) (lenOf pd4 rfl) (W := 4) (c1 := 0) (s1 := 0)
  obtain ⟨rfl, Nq23, e24⟩ := hQ22
  have N22 := Fr.app N15 Nq23
  obtain ⟨T25, X25, e25, st25⟩ := getF X22 hx hZ hown (host := "") (Or.inl (own_w hw 147 rfl)) Via.refl e24 P3 (g := (mkF m 96 #[.val (.ref o1)] [(.ref o1), (.long 56), (.long (((288 : Int64) + (q6 <<< ((1 : Int32) &&& 0x3f).toInt64)) + (0 : Int64)))])) rfl rfl (hb hby d10_96)
  obtain ⟨fs, hr, hrun, hended, hW, hsame⟩ := X25.leave (v := some (.long ((((288 : Int64) + (q6 <<< ((1 : Int32) &&& 0x3f).toInt64)) + (0 : Int64)) + (0 : Int64)))) (fun h => by rw [hret] at h; cases h)
  refine ⟨_, _, pre0 _ ?_, hrun, hended, _, _, rfl, ?_, ⟨_, rfl⟩, hW, hsame.mono (by decide) (by decide)⟩
  ·
    show Steps p.tables e below (s₁.setTop (mkF m 0 #[.val (.ref o1)] [])) _
    refine XS.aloadN X0.here hx rfl (hb hby d10_0) rfl rfl ?_
    refine st1 _ ?_
    refine st2 _ ?_
    refine XS.aloadN X2.here hx rfl (hb hby d10_7) rfl rfl ?_
    refine st5 _ ?_
    refine st6 _ ?_
    refine XS.ladd X6.here hx rfl (hb hby d10_14) rfl ?_
    refine XS.aloadN X6.here hx rfl (hb hby d10_15) rfl rfl ?_
    refine st9 _ ?_
    refine st10 _ ?_
    refine XS.i2l X10.here hx rfl (hb hby d10_22) rfl ?_
    refine XS.aloadN X10.here hx rfl (hb hby d10_23) rfl rfl ?_
    refine st13 _ ?_
    refine XS.ifYes X13.here hx rfl (pc0 := 27) (pc' := 34) rfl (hb hby d10_27) rfl ((if0 _ _).trans (teq (by decide : (0 : Int32) = (0 : Int32))).1) (by decide) (by decide) ?_
    refine XS.iconst X13.here hx rfl (hb hby d10_34) ?_
    refine XS.lshl X13.here hx rfl (hb hby d10_35) rfl ?_
    refine XS.ladd X13.here hx rfl (hb hby d10_36) rfl ?_
    refine XS.aloadN X13.here hx rfl (hb hby d10_37) rfl rfl ?_
    refine st14 _ ?_
    refine st15 _ ?_
    refine XS.i2l X15.here hx rfl (hb hby d10_44) rfl ?_
    refine XS.aloadN X15.here hx rfl (hb hby d10_45) rfl rfl ?_
    refine st18 _ ?_
    refine XS.ifYes X18.here hx rfl (pc0 := 49) (pc' := 56) rfl (hb hby d10_49) rfl ((if0 _ _).trans (teq (by decide : (0 : Int32) = (0 : Int32))).1) (by decide) (by decide) ?_
    refine XS.iconst X18.here hx rfl (hb hby d10_56) ?_
    refine XS.lshl X18.here hx rfl (hb hby d10_57) rfl ?_
    refine XS.ladd X18.here hx rfl (hb hby d10_58) rfl ?_
    refine XS.aloadN X18.here hx rfl (hb hby d10_59) rfl rfl ?_
    refine st19 _ ?_
    refine XS.aloadN X19.here hx rfl (hb hby d10_63) rfl rfl ?_
    refine st20 _ ?_
    refine XS.ifNo X20.here hx rfl (hb hby d10_67) rfl ((if0 _ _).trans (feq (by decide : ¬ ((1 : Int32) = (0 : Int32)))).1) ?_
    refine XS.iconst X20.here hx rfl (hb hby d10_70) ?_
    refine XS.goto X20.here hx rfl (pc0 := 71) (pc' := 75) rfl (hb hby d10_71) (by decide) (by decide) ?_
    refine XS.lshl X20.here hx rfl (hb hby d10_75) rfl ?_
    refine XS.ladd X20.here hx rfl (hb hby d10_76) rfl ?_
    refine X20.ldc2Long hx hown (mvT hZ (own_w hw 134 rfl)) (g := (mkF m 77 #[.val (.ref o1)] [(.long ((288 : Int64) + (q6 <<< ((1 : Int32) &&& 0x3f).toInt64)))])) rfl (hb hby d10_77) _ ?_
    refine XS.aloadN X20.here hx rfl (hb hby d10_80) rfl rfl ?_
    refine st21 _ ?_
    refine st22 _ ?_
    show Steps p.tables e below (T22.setTop (mkF m 89 #[.val (.ref o1)] [(.int 0), (.long 240), (.long ((288 : Int64) + (q6 <<< ((1 : Int32) &&& 0x3f).toInt64)))])) _
    refine XS.i2l X22.here hx rfl (hb hby d10_89) rfl ?_
    refine XS.lmul X22.here hx rfl (hb hby d10_90) rfl ?_
    refine XS.ladd X22.here hx rfl (hb hby d10_91) rfl ?_
    refine X22.ldc2Long hx hown (mvT hZ (own_w hw 146 rfl)) (g := (mkF m 92 #[.val (.ref o1)] [(.long (((288 : Int64) + (q6 <<< ((1 : Int32) &&& 0x3f).toInt64)) + (0 : Int64)))])) rfl (hb hby d10_92) _ ?_
    refine XS.aloadN X22.here hx rfl (hb hby d10_95) rfl rfl ?_
    refine st25 _ ?_
    refine XS.i2l X25.here hx rfl (hb hby d10_99) rfl ?_
    refine XS.lmul X25.here hx rfl (hb hby d10_100) rfl ?_
    refine XS.ladd X25.here hx rfl (hb hby d10_101) rfl ?_
    show Steps p.tables e below (T25.setTop (mkF m 102 #[.val (.ref o1)] [(.long ((((288 : Int64) + (q6 <<< ((1 : Int32) &&& 0x3f).toInt64)) + (0 : Int64)) + (0 : Int64)))])) _
    exact retOut X25 hx hret rfl (Or.inr (Or.inl ⟨rfl, rfl, _, rfl⟩)) (hb hby d10_102) hr
  ·
    show Q21 Z o1 o2 o3 o4 o5 o7 o8 o9 o10 o11 o12 o15 kc13 kc14 q6 kc16 kc17 h0 n0 _ T25.heap _
    rw [e25]
    exact ⟨rfl, N22, rfl⟩
theorem ef22 (m : MethodId) (x0 : Addr) (x1 : Int64) (x2 : Int32) : entryFrame m #[(.ref x0), (.long x1), (.int x2)] 4 = mkF m 0 #[.val (.ref x0), .val (.long x1), .second, .val (.int x2)] [] := by first | (simp [entryFrame, mkF, argsToLocals, Value.category]; done) | rfl
def Q22 (Z : State) (o1 : Addr) (o3 : Addr) (o4 : Addr) (o5 : Addr) (o6 : Addr) (o8 : Addr) (o9 : Addr) (o10 : Addr) (o11 : Addr) (o12 : Addr) (o13 : Addr) (o16 : Addr) (kc14 : ClassId) (kc15 : ClassId) (q7 : Int64) (q2 : Int64) (h0 : Heap) (n0 : Nat) (v : Option Value) (h : Heap) (L : List Loc) : Prop :=
  (v = none ∧ Fr n0 L ∧ Keep h0 h [o1] ∧ (Exa Z h o1 "com/example/mycelia/mycelia/wire/MessageTree") ∧ (Fld Z h o1 "com/example/mycelia/mycelia/wire/MessageTree" "attributes" "Lcom/example/mycelia/mycelia/wire/MessageTree$IntRecords;" (.ref o3)) ∧ (Fld Z h o1 "com/example/mycelia/mycelia/wire/MessageTree" "codes" "Ljava/util/Map;" (.ref o4)) ∧ (Fld Z h o1 "com/example/mycelia/mycelia/wire/MessageTree" "deepest" "I" (.int 0)) ∧ (Fld Z h o1 "com/example/mycelia/mycelia/wire/MessageTree" "elements" "Lcom/example/mycelia/mycelia/wire/MessageTree$IntRecords;" (.ref o5)) ∧ (Fld Z h o1 "com/example/mycelia/mycelia/wire/MessageTree" "names" "Ljava/util/List;" (.ref o6)) ∧ (Fld Z h o1 "com/example/mycelia/mycelia/wire/MessageTree" "open" "I" (.int 0)) ∧ (Fld Z h o1 "com/example/mycelia/mycelia/wire/MessageTree" "passed" "J" (.long (q7 + q2))) ∧ (Fld Z h o1 "com/example/mycelia/mycelia/wire/MessageTree" "text" "Ljava/lang/StringBuilder;" (.ref o8)) ∧ (Fld Z h o1 "com/example/mycelia/mycelia/wire/MessageTree" "values" "Ljava/lang/StringBuilder;" (.ref o9)) ∧ (Fld Z h o1 "com/example/mycelia/mycelia/wire/MessageTree" "widePassed" "Z" (.int 1)) ∧ (Fld Z h o1 "com/example/mycelia/mycelia/wire/MessageTree" "wideText" "Z" (.int 0)) ∧ (Fld Z h o1 "com/example/mycelia/mycelia/wire/MessageTree" "wideValues" "Z" (.int 0)))
set_option maxRecDepth 65536 in
set_option maxHeartbeats 40000000 in
theorem rm22 (l : Launch) (Z : State) (a0 : Array Value) (hw : ∀ d ∈ tables_1, d.before a0 Z = true) (ws : List Jvm.Cond) (o1 : Addr) (o3 : Addr) (o4 : Addr) (o5 : Addr) (o6 : Addr) (o8 : Addr) (o9 : Addr) (o10 : Addr) (o11 : Addr) (o12 : Addr) (o13 : Addr) (o16 : Addr) (kc14 : ClassId) (kc15 : ClassId) (q7 : Int64) (q2 : Int64) (h0 : Heap) (n0 : Nat) (O0 : Old Z n0 h0) (g_o1 : n0 ≤ o1) (g_o3 : n0 ≤ o3) (g_o4 : n0 ≤ o4) (g_o5 : n0 ≤ o5) (g_o6 : n0 ≤ o6) (g_o8 : n0 ≤ o8) (g_o9 : n0 ≤ o9) (g_o10 : n0 ≤ o10) (g_o11 : n0 ≤ o11) (g_o12 : n0 ≤ o12) (g_o13 : n0 ≤ o13) (g_o16 : n0 ≤ o16) (Ov_kc14 : OvrA Z kc14 .int "[I") (Ov_kc15 : OvrA Z kc15 .int "[I") (P0 : Exa Z h0 o1 "com/example/mycelia/mycelia/wire/MessageTree") (P1 : Fld Z h0 o1 "com/example/mycelia/mycelia/wire/MessageTree" "attributes" "Lcom/example/mycelia/mycelia/wire/MessageTree$IntRecords;" (.ref o3)) (P2 : Fld Z h0 o1 "com/example/mycelia/mycelia/wire/MessageTree" "codes" "Ljava/util/Map;" (.ref o4)) (P3 : Fld Z h0 o1 "com/example/mycelia/mycelia/wire/MessageTree" "deepest" "I" (.int 0)) (P4 : Fld Z h0 o1 "com/example/mycelia/mycelia/wire/MessageTree" "elements" "Lcom/example/mycelia/mycelia/wire/MessageTree$IntRecords;" (.ref o5)) (P5 : Fld Z h0 o1 "com/example/mycelia/mycelia/wire/MessageTree" "names" "Ljava/util/List;" (.ref o6)) (P6 : Fld Z h0 o1 "com/example/mycelia/mycelia/wire/MessageTree" "open" "I" (.int 0)) (P7 : Fld Z h0 o1 "com/example/mycelia/mycelia/wire/MessageTree" "passed" "J" (.long q7)) (P8 : Fld Z h0 o1 "com/example/mycelia/mycelia/wire/MessageTree" "text" "Ljava/lang/StringBuilder;" (.ref o8)) (P9 : Fld Z h0 o1 "com/example/mycelia/mycelia/wire/MessageTree" "values" "Ljava/lang/StringBuilder;" (.ref o9)) (P10 : Fld Z h0 o1 "com/example/mycelia/mycelia/wire/MessageTree" "widePassed" "Z" (.int 1)) (P11 : Fld Z h0 o1 "com/example/mycelia/mycelia/wire/MessageTree" "wideText" "Z" (.int 0)) (P12 : Fld Z h0 o1 "com/example/mycelia/mycelia/wire/MessageTree" "wideValues" "Z" (.int 0)) :
    MetFree l yn16 (head1 (Jvm.Cond.code yn16 prog_21_method_8_code 4 none :: ws) ({ frames := 0, cells := 0, slots := 0, locals := 0 } : Room)) (fun a U => a = #[(.ref o1), (.long q2), (.int 0)] ∧ Z.Warmed39 U.vm ∧ U.heap = h0) (fun _ _ _ _ _ => True) (fun _ U o U' => ∃ v L, o = .returned v ∧ Q22 Z o1 o3 o4 o5 o6 o8 o9 o10 o11 o12 o13 o16 kc14 kc15 q7 q2 h0 n0 v U'.heap L ∧ FrameEnd U o U' L ({ frames := 0, cells := 0, slots := 0, locals := 0 } : Room).cells ({ frames := 0, cells := 0, slots := 0, locals := 0 } : Room).slots) := by
  refine MetFree.of_bodySF (plainFor_of_name pn8) hisR ?_
  intro p e s m args below meth c s₁ Bd hml0 hP hK
  obtain ⟨rfl, hZ, hh⟩ := hP
  have hx := Bd.exec
  have hby := Bd.bytes
  have hml : c.maxLocals = 4 := hml0
  have hown : s.vm.findClass "com/example/mycelia/mycelia/wire/MessageTree" = some m.cls := findClass_of_methodNamed Bd.named
  have hnm := (name_of_methodNamed Bd.named Bd.method).1
  have hret := Bd.returns
  have hlk : meth.locks = false := BodyLoose.notSynchronized Bd
  have X0 : Stand p l e ({ frames := 0, cells := 0, slots := 0, locals := 0 } : Room) s m #[(.ref o1), (.long q2), (.int 0)] below meth c s₁ [] 0 0 := Stand.of_body Bd
  have e0 : s₁.heap = h0 := by rw [← hh, Bd.state]; rfl
  have N0 := Fr.nil n0
  have pre0 : ∀ t, Steps p.tables e below (s₁.setTop (mkF m 0 #[.val (.ref o1), .val (.long q2), .second, .val (.int 0)] [])) t → Steps p.tables e below (s₁.setTop (entryFrame m #[(.ref o1), (.long q2), (.int 0)] 4)) t := fun t k => castTop (ef22 m o1 q2 (0 : Int32)) k
  obtain ⟨T1, X1, e1, st1⟩ := getF X0 hx hZ hown (host := "") (Or.inl (own_w hw 130 rfl)) Via.refl e0 P7 (g := (mkF m 2 #[.val (.ref o1), .val (.long q2), .second, .val (.int 0)] [(.ref o1), (.ref o1)])) rfl rfl (hb hby d15_2)
  obtain ⟨T2, h2, X2, e2, W2, st2⟩ := putF X1 hx hZ hown (host := "") (Or.inl (own_w hw 130 rfl)) Via.refl e1 P7 P0 (Or.inl (own_w hw 131 rfl)) (own_w hw 1 rfl) (ty := .long) (by decide) rfl rfl (g := (mkF m 7 #[.val (.ref o1), .val (.long q2), .second, .val (.int 0)] [(.long (q7 + q2)), (.ref o1)])) rfl rfl (hb hby d15_7)
  have N2 := Fr.snoc X2 N0 g_o1
  have Fw2 := P7.same W2
  have M2 : h0.size ≤ h2.size := Nat.le_trans (Nat.le_refl _) (Nat.le_of_eq W2.size.symm)
  have O2 := Old.wr O0 W2 g_o1
  have f3 := (P10.other W2 (Or.inr (slot_ne (Or.inl (own_w hw 133 rfl)) (Or.inl (own_w hw 131 rfl)) (by decide) (t := .boolean) (t' := .long) (by decide) (by decide))))
  obtain ⟨T4, X4, e4, st4⟩ := getF X2 hx hZ hown (host := "") (Or.inl (own_w hw 132 rfl)) Via.refl e2 f3 (g := (mkF m 12 #[.val (.ref o1), .val (.long q2), .second, .val (.int 0)] [(.ref o1), (.ref o1)])) rfl rfl (hb hby d15_12)
  have f5 := (P0.wr W2)
  obtain ⟨T6, h6, X6, e6, W6, st6⟩ := putFN X4 hx hZ hown (own_w hw 132 rfl) Via.refl e4 f3 f5 (Or.inl (own_w hw 133 rfl)) (own_w hw 1 rfl) (ty := .boolean) (v' := (.int 1)) (by decide) rfl (by decide) (g := (mkF m 27 #[.val (.ref o1), .val (.long q2), .second, .val (.int 0)] [(.int 1), (.ref o1)])) rfl rfl (hb hby d15_27)
  have N6 := Fr.snoc X6 N2 g_o1
  have Fw6 := f3.same W6
  have M6 : h0.size ≤ h6.size := Nat.le_trans M2 (Nat.le_of_eq W6.size.symm)
  have O6 := Old.wr O2 W6 g_o1
  obtain ⟨fs, hr, hrun, hended, hW, hsame⟩ := X6.leave (v := none) (fun _ => rfl)
  have KL : Keep h0 h6 [o1] := (((Keep.refl h0 [o1]).wr W2 (Or.inl (List.mem_of_getElem? (i := 0) rfl))).wr W6 (Or.inl (List.mem_of_getElem? (i := 0) rfl)))
  have f7 := (f5.wr W6)
  have f8 := ((P1.other W2 (Or.inr (slot_ne (Or.inr (own_w hw 23 rfl)) (Or.inl (own_w hw 131 rfl)) (by decide) (t := (.object "com/example/mycelia/mycelia/wire/MessageTree$IntRecords")) (t' := .long) (by decide) (by decide)))).other W6 (Or.inr (slot_ne (Or.inr (own_w hw 23 rfl)) (Or.inl (own_w hw 133 rfl)) (by decide) (t := (.object "com/example/mycelia/mycelia/wire/MessageTree$IntRecords")) (t' := .boolean) (by decide) (by decide))))
  have f9 := ((P2.other W2 (Or.inr (slot_ne (Or.inr (own_w hw 91 rfl)) (Or.inl (own_w hw 131 rfl)) (by decide) (t := (.object "java/util/Map")) (t' := .long) (by decide) (by decide)))).other W6 (Or.inr (slot_ne (Or.inr (own_w hw 91 rfl)) (Or.inl (own_w hw 133 rfl)) (by decide) (t := (.object "java/util/Map")) (t' := .boolean) (by decide) (by decide))))
  have f10 := ((P3.other W2 (Or.inr (slot_ne (Or.inl (own_w hw 148 rfl)) (Or.inl (own_w hw 131 rfl)) (by decide) (t := .int) (t' := .long) (by decide) (by decide)))).other W6 (Or.inr (slot_ne (Or.inl (own_w hw 148 rfl)) (Or.inl (own_w hw 133 rfl)) (by decide) (t := .int) (t' := .boolean) (by decide) (by decide))))
  have f11 := ((P4.other W2 (Or.inr (slot_ne (Or.inr (own_w hw 21 rfl)) (Or.inl (own_w hw 131 rfl)) (by decide) (t := (.object "com/example/mycelia/mycelia/wire/MessageTree$IntRecords")) (t' := .long) (by decide) (by decide)))).other W6 (Or.inr (slot_ne (Or.inr (own_w hw 21 rfl)) (Or.inl (own_w hw 133 rfl)) (by decide) (t := (.object "com/example/mycelia/mycelia/wire/MessageTree$IntRecords")) (t' := .boolean) (by decide) (by decide))))
  have f12 := ((P5.other W2 (Or.inr (slot_ne (Or.inr (own_w hw 73 rfl)) (Or.inl (own_w hw 131 rfl)) (by decide) (t := (.object "java/util/List")) (t' := .long) (by decide) (by decide)))).other W6 (Or.inr (slot_ne (Or.inr (own_w hw 73 rfl)) (Or.inl (own_w hw 133 rfl)) (by decide) (t := (.object "java/util/List")) (t' := .boolean) (by decide) (by decide))))
  have f13 := ((P6.other W2 (Or.inr (slot_ne (Or.inl (own_w hw 105 rfl)) (Or.inl (own_w hw 131 rfl)) (by decide) (t := .int) (t' := .long) (by decide) (by decide)))).other W6 (Or.inr (slot_ne (Or.inl (own_w hw 105 rfl)) (Or.inl (own_w hw 133 rfl)) (by decide) (t := .int) (t' := .boolean) (by decide) (by decide))))
  have f14 := (Fw2.other W6 (Or.inr (slot_ne (Or.inl (own_w hw 131 rfl)) (Or.inl (own_w hw 133 rfl)) (by decide) (t := .long) (t' := .boolean) (by decide) (by decide))))
  have f15 := ((P8.other W2 (Or.inr (slot_ne (Or.inr (own_w hw 45 rfl)) (Or.inl (own_w hw 131 rfl)) (by decide) (t := (.object "java/lang/StringBuilder")) (t' := .long) (by decide) (by decide)))).other W6 (Or.inr (slot_ne (Or.inr (own_w hw 45 rfl)) (Or.inl (own_w hw 133 rfl)) (by decide) (t := (.object "java/lang/StringBuilder")) (t' := .boolean) (by decide) (by decide))))
  have f16 := ((P9.other W2 (Or.inr (slot_ne (Or.inr (own_w hw 47 rfl)) (Or.inl (own_w hw 131 rfl)) (by decide) (t := (.object "java/lang/StringBuilder")) (t' := .long) (by decide) (by decide)))).other W6 (Or.inr (slot_ne (Or.inr (own_w hw 47 rfl)) (Or.inl (own_w hw 133 rfl)) (by decide) (t := (.object "java/lang/StringBuilder")) (t' := .boolean) (by decide) (by decide))))
  have f17 := ((P11.other W2 (Or.inr (slot_ne (Or.inl (own_w hw 127 rfl)) (Or.inl (own_w hw 131 rfl)) (by decide) (t := .boolean) (t' := .long) (by decide) (by decide)))).other W6 (Or.inr (slot_ne (Or.inl (own_w hw 127 rfl)) (Or.inl (own_w hw 133 rfl)) (by decide) (t := .boolean) (t' := .boolean) (by decide) (by decide))))
  have f18 := ((P12.other W2 (Or.inr (slot_ne (Or.inl (own_w hw 129 rfl)) (Or.inl (own_w hw 131 rfl)) (by decide) (t := .boolean) (t' := .long) (by decide) (by decide)))).other W6 (Or.inr (slot_ne (Or.inl (own_w hw 129 rfl)) (Or.inl (own_w hw 133 rfl)) (by decide) (t := .boolean) (t' := .boolean) (by decide) (by decide))))
  refine ⟨_, _, pre0 _ ?_, hrun, hended, _, _, rfl, ?_, ⟨_, rfl⟩, hW, hsame.mono (by decide) (by decide)⟩
  ·
    show Steps p.tables e below (s₁.setTop (mkF m 0 #[.val (.ref o1), .val (.long q2), .second, .val (.int 0)] [])) _
    refine XS.aloadN X0.here hx rfl (hb hby d15_0) rfl rfl ?_
    refine XS.dup X0.here hx rfl (hb hby d15_1) rfl rfl ?_
    refine st1 _ ?_
    refine XS.lloadN X1.here hx rfl (hb hby d15_5) rfl ?_
    refine XS.ladd X1.here hx rfl (hb hby d15_6) rfl ?_
    refine st2 _ ?_
    refine XS.aloadN X2.here hx rfl (hb hby d15_10) rfl rfl ?_
    refine XS.aloadN X2.here hx rfl (hb hby d15_11) rfl rfl ?_
    refine st4 _ ?_
    refine XS.ifYes X4.here hx rfl (pc0 := 15) (pc' := 22) rfl (hb hby d15_15) rfl ((if0 _ _).trans (feq (by decide : ¬ ((1 : Int32) = (0 : Int32)))).2) (by decide) (by decide) ?_
    refine XS.iconst X4.here hx rfl (hb hby d15_22) ?_
    refine XS.goto X4.here hx rfl (pc0 := 23) (pc' := 27) rfl (hb hby d15_23) (by decide) (by decide) ?_
    refine st6 _ ?_
    show Steps p.tables e below (T6.setTop (mkF m 30 #[.val (.ref o1), .val (.long q2), .second, .val (.int 0)] [])) _
    exact X6.returnOut hx hret (hb hby d15_30) hr
  ·
    show Q22 Z o1 o3 o4 o5 o6 o8 o9 o10 o11 o12 o13 o16 kc14 kc15 q7 q2 h0 n0 _ T6.heap _
    rw [e6]
    exact ⟨rfl, N6, KL, f7, f8, f9, f10, f11, f12, f13, f14, f15, f16, Fw6, f17, f18⟩
theorem ef23 (m : MethodId) (x0 : Addr) (x1 : Int64) (x2 : Int32) : entryFrame m #[(.ref x0), (.long x1), (.int x2)] 4 = mkF m 0 #[.val (.ref x0), .val (.long x1), .second, .val (.int x2)] [] := by first | (simp [entryFrame, mkF, argsToLocals, Value.category]; done) | rfl
def Q23 (Z : State) (o1 : Addr) (o3 : Addr) (o4 : Addr) (o5 : Addr) (o6 : Addr) (o8 : Addr) (o9 : Addr) (o10 : Addr) (o11 : Addr) (o12 : Addr) (o13 : Addr) (o16 : Addr) (kc14 : ClassId) (kc15 : ClassId) (q7 : Int64) (q2 : Int64) (h0 : Heap) (n0 : Nat) (v : Option Value) (h : Heap) (L : List Loc) : Prop :=
  (v = none ∧ Fr n0 L ∧ Keep h0 h [o1] ∧ (Exa Z h o1 "com/example/mycelia/mycelia/wire/MessageTree") ∧ (Fld Z h o1 "com/example/mycelia/mycelia/wire/MessageTree" "attributes" "Lcom/example/mycelia/mycelia/wire/MessageTree$IntRecords;" (.ref o3)) ∧ (Fld Z h o1 "com/example/mycelia/mycelia/wire/MessageTree" "codes" "Ljava/util/Map;" (.ref o4)) ∧ (Fld Z h o1 "com/example/mycelia/mycelia/wire/MessageTree" "deepest" "I" (.int 0)) ∧ (Fld Z h o1 "com/example/mycelia/mycelia/wire/MessageTree" "elements" "Lcom/example/mycelia/mycelia/wire/MessageTree$IntRecords;" (.ref o5)) ∧ (Fld Z h o1 "com/example/mycelia/mycelia/wire/MessageTree" "names" "Ljava/util/List;" (.ref o6)) ∧ (Fld Z h o1 "com/example/mycelia/mycelia/wire/MessageTree" "open" "I" (.int 0)) ∧ (Fld Z h o1 "com/example/mycelia/mycelia/wire/MessageTree" "passed" "J" (.long (q7 + q2))) ∧ (Fld Z h o1 "com/example/mycelia/mycelia/wire/MessageTree" "text" "Ljava/lang/StringBuilder;" (.ref o8)) ∧ (Fld Z h o1 "com/example/mycelia/mycelia/wire/MessageTree" "values" "Ljava/lang/StringBuilder;" (.ref o9)) ∧ (Fld Z h o1 "com/example/mycelia/mycelia/wire/MessageTree" "widePassed" "Z" (.int 1)) ∧ (Fld Z h o1 "com/example/mycelia/mycelia/wire/MessageTree" "wideText" "Z" (.int 0)) ∧ (Fld Z h o1 "com/example/mycelia/mycelia/wire/MessageTree" "wideValues" "Z" (.int 0)))
set_option maxRecDepth 65536 in
set_option maxHeartbeats 40000000 in
theorem rm23 (l : Launch) (Z : State) (a0 : Array Value) (hw : ∀ d ∈ tables_1, d.before a0 Z = true) (ws : List Jvm.Cond) (o1 : Addr) (o3 : Addr) (o4 : Addr) (o5 : Addr) (o6 : Addr) (o8 : Addr) (o9 : Addr) (o10 : Addr) (o11 : Addr) (o12 : Addr) (o13 : Addr) (o16 : Addr) (kc14 : ClassId) (kc15 : ClassId) (q7 : Int64) (q2 : Int64) (h0 : Heap) (n0 : Nat) (O0 : Old Z n0 h0) (g_o1 : n0 ≤ o1) (g_o3 : n0 ≤ o3) (g_o4 : n0 ≤ o4) (g_o5 : n0 ≤ o5) (g_o6 : n0 ≤ o6) (g_o8 : n0 ≤ o8) (g_o9 : n0 ≤ o9) (g_o10 : n0 ≤ o10) (g_o11 : n0 ≤ o11) (g_o12 : n0 ≤ o12) (g_o13 : n0 ≤ o13) (g_o16 : n0 ≤ o16) (Ov_kc14 : OvrA Z kc14 .int "[I") (Ov_kc15 : OvrA Z kc15 .int "[I") (P0 : Exa Z h0 o1 "com/example/mycelia/mycelia/wire/MessageTree") (P1 : Fld Z h0 o1 "com/example/mycelia/mycelia/wire/MessageTree" "attributes" "Lcom/example/mycelia/mycelia/wire/MessageTree$IntRecords;" (.ref o3)) (P2 : Fld Z h0 o1 "com/example/mycelia/mycelia/wire/MessageTree" "codes" "Ljava/util/Map;" (.ref o4)) (P3 : Fld Z h0 o1 "com/example/mycelia/mycelia/wire/MessageTree" "deepest" "I" (.int 0)) (P4 : Fld Z h0 o1 "com/example/mycelia/mycelia/wire/MessageTree" "elements" "Lcom/example/mycelia/mycelia/wire/MessageTree$IntRecords;" (.ref o5)) (P5 : Fld Z h0 o1 "com/example/mycelia/mycelia/wire/MessageTree" "names" "Ljava/util/List;" (.ref o6)) (P6 : Fld Z h0 o1 "com/example/mycelia/mycelia/wire/MessageTree" "open" "I" (.int 0)) (P7 : Fld Z h0 o1 "com/example/mycelia/mycelia/wire/MessageTree" "passed" "J" (.long q7)) (P8 : Fld Z h0 o1 "com/example/mycelia/mycelia/wire/MessageTree" "text" "Ljava/lang/StringBuilder;" (.ref o8)) (P9 : Fld Z h0 o1 "com/example/mycelia/mycelia/wire/MessageTree" "values" "Ljava/lang/StringBuilder;" (.ref o9)) (P10 : Fld Z h0 o1 "com/example/mycelia/mycelia/wire/MessageTree" "widePassed" "Z" (.int 1)) (P11 : Fld Z h0 o1 "com/example/mycelia/mycelia/wire/MessageTree" "wideText" "Z" (.int 0)) (P12 : Fld Z h0 o1 "com/example/mycelia/mycelia/wire/MessageTree" "wideValues" "Z" (.int 0)) :
    MetFree l yn16 (head1 (Jvm.Cond.code yn16 prog_21_method_8_code 4 none :: ws) ({ frames := 0, cells := 0, slots := 0, locals := 0 } : Room)) (fun a U => a = #[(.ref o1), (.long q2), (.int 1)] ∧ Z.Warmed39 U.vm ∧ U.heap = h0) (fun _ _ _ _ _ => True) (fun _ U o U' => ∃ v L, o = .returned v ∧ Q23 Z o1 o3 o4 o5 o6 o8 o9 o10 o11 o12 o13 o16 kc14 kc15 q7 q2 h0 n0 v U'.heap L ∧ FrameEnd U o U' L ({ frames := 0, cells := 0, slots := 0, locals := 0 } : Room).cells ({ frames := 0, cells := 0, slots := 0, locals := 0 } : Room).slots) := by
  refine MetFree.of_bodySF (plainFor_of_name pn8) hisR ?_
  intro p e s m args below meth c s₁ Bd hml0 hP hK
  obtain ⟨rfl, hZ, hh⟩ := hP
  have hx := Bd.exec
  have hby := Bd.bytes
  have hml : c.maxLocals = 4 := hml0
  have hown : s.vm.findClass "com/example/mycelia/mycelia/wire/MessageTree" = some m.cls := findClass_of_methodNamed Bd.named
  have hnm := (name_of_methodNamed Bd.named Bd.method).1
  have hret := Bd.returns
  have hlk : meth.locks = false := BodyLoose.notSynchronized Bd
  have X0 : Stand p l e ({ frames := 0, cells := 0, slots := 0, locals := 0 } : Room) s m #[(.ref o1), (.long q2), (.int 1)] below meth c s₁ [] 0 0 := Stand.of_body Bd
  have e0 : s₁.heap = h0 := by rw [← hh, Bd.state]; rfl
  have N0 := Fr.nil n0
  have pre0 : ∀ t, Steps p.tables e below (s₁.setTop (mkF m 0 #[.val (.ref o1), .val (.long q2), .second, .val (.int 1)] [])) t → Steps p.tables e below (s₁.setTop (entryFrame m #[(.ref o1), (.long q2), (.int 1)] 4)) t := fun t k => castTop (ef23 m o1 q2 (1 : Int32)) k
  obtain ⟨T1, X1, e1, st1⟩ := getF X0 hx hZ hown (host := "") (Or.inl (own_w hw 130 rfl)) Via.refl e0 P7 (g := (mkF m 2 #[.val (.ref o1), .val (.long q2), .second, .val (.int 1)] [(.ref o1), (.ref o1)])) rfl rfl (hb hby d15_2)
  obtain ⟨T2, h2, X2, e2, W2, st2⟩ := putF X1 hx hZ hown (host := "") (Or.inl (own_w hw 130 rfl)) Via.refl e1 P7 P0 (Or.inl (own_w hw 131 rfl)) (own_w hw 1 rfl) (ty := .long) (by decide) rfl rfl (g := (mkF m 7 #[.val (.ref o1), .val (.long q2), .second, .val (.int 1)] [(.long (q7 + q2)), (.ref o1)])) rfl rfl (hb hby d15_7)
  have N2 := Fr.snoc X2 N0 g_o1
  have Fw2 := P7.same W2
  have M2 : h0.size ≤ h2.size := Nat.le_trans (Nat.le_refl _) (Nat.le_of_eq W2.size.symm)
  have O2 := Old.wr O0 W2 g_o1
  have f3 := (P10.other W2 (Or.inr (slot_ne (Or.inl (own_w hw 133 rfl)) (Or.inl (own_w hw 131 rfl)) (by decide) (t := .boolean) (t' := .long) (by decide) (by decide))))
  obtain ⟨T4, X4, e4, st4⟩ := getF X2 hx hZ hown (host := "") (Or.inl (own_w hw 132 rfl)) Via.refl e2 f3 (g := (mkF m 12 #[.val (.ref o1), .val (.long q2), .second, .val (.int 1)] [(.ref o1), (.ref o1)])) rfl rfl (hb hby d15_12)
  have f5 := (P0.wr W2)
  obtain ⟨T6, h6, X6, e6, W6, st6⟩ := putFN X4 hx hZ hown (own_w hw 132 rfl) Via.refl e4 f3 f5 (Or.inl (own_w hw 133 rfl)) (own_w hw 1 rfl) (ty := .boolean) (v' := (.int 1)) (by decide) rfl (by decide) (g := (mkF m 27 #[.val (.ref o1), .val (.long q2), .second, .val (.int 1)] [(.int 1), (.ref o1)])) rfl rfl (hb hby d15_27)
  have N6 := Fr.snoc X6 N2 g_o1
  have Fw6 := f3.same W6
  have M6 : h0.size ≤ h6.size := Nat.le_trans M2 (Nat.le_of_eq W6.size.symm)
  have O6 := Old.wr O2 W6 g_o1
  obtain ⟨fs, hr, hrun, hended, hW, hsame⟩ := X6.leave (v := none) (fun _ => rfl)
  have KL : Keep h0 h6 [o1] := (((Keep.refl h0 [o1]).wr W2 (Or.inl (List.mem_of_getElem? (i := 0) rfl))).wr W6 (Or.inl (List.mem_of_getElem? (i := 0) rfl)))
  have f7 := (f5.wr W6)
  have f8 := ((P1.other W2 (Or.inr (slot_ne (Or.inr (own_w hw 23 rfl)) (Or.inl (own_w hw 131 rfl)) (by decide) (t := (.object "com/example/mycelia/mycelia/wire/MessageTree$IntRecords")) (t' := .long) (by decide) (by decide)))).other W6 (Or.inr (slot_ne (Or.inr (own_w hw 23 rfl)) (Or.inl (own_w hw 133 rfl)) (by decide) (t := (.object "com/example/mycelia/mycelia/wire/MessageTree$IntRecords")) (t' := .boolean) (by decide) (by decide))))
  have f9 := ((P2.other W2 (Or.inr (slot_ne (Or.inr (own_w hw 91 rfl)) (Or.inl (own_w hw 131 rfl)) (by decide) (t := (.object "java/util/Map")) (t' := .long) (by decide) (by decide)))).other W6 (Or.inr (slot_ne (Or.inr (own_w hw 91 rfl)) (Or.inl (own_w hw 133 rfl)) (by decide) (t := (.object "java/util/Map")) (t' := .boolean) (by decide) (by decide))))
  have f10 := ((P3.other W2 (Or.inr (slot_ne (Or.inl (own_w hw 148 rfl)) (Or.inl (own_w hw 131 rfl)) (by decide) (t := .int) (t' := .long) (by decide) (by decide)))).other W6 (Or.inr (slot_ne (Or.inl (own_w hw 148 rfl)) (Or.inl (own_w hw 133 rfl)) (by decide) (t := .int) (t' := .boolean) (by decide) (by decide))))
  have f11 := ((P4.other W2 (Or.inr (slot_ne (Or.inr (own_w hw 21 rfl)) (Or.inl (own_w hw 131 rfl)) (by decide) (t := (.object "com/example/mycelia/mycelia/wire/MessageTree$IntRecords")) (t' := .long) (by decide) (by decide)))).other W6 (Or.inr (slot_ne (Or.inr (own_w hw 21 rfl)) (Or.inl (own_w hw 133 rfl)) (by decide) (t := (.object "com/example/mycelia/mycelia/wire/MessageTree$IntRecords")) (t' := .boolean) (by decide) (by decide))))
  have f12 := ((P5.other W2 (Or.inr (slot_ne (Or.inr (own_w hw 73 rfl)) (Or.inl (own_w hw 131 rfl)) (by decide) (t := (.object "java/util/List")) (t' := .long) (by decide) (by decide)))).other W6 (Or.inr (slot_ne (Or.inr (own_w hw 73 rfl)) (Or.inl (own_w hw 133 rfl)) (by decide) (t := (.object "java/util/List")) (t' := .boolean) (by decide) (by decide))))
  have f13 := ((P6.other W2 (Or.inr (slot_ne (Or.inl (own_w hw 105 rfl)) (Or.inl (own_w hw 131 rfl)) (by decide) (t := .int) (t' := .long) (by decide) (by decide)))).other W6 (Or.inr (slot_ne (Or.inl (own_w hw 105 rfl)) (Or.inl (own_w hw 133 rfl)) (by decide) (t := .int) (t' := .boolean) (by decide) (by decide))))
  have f14 := (Fw2.other W6 (Or.inr (slot_ne (Or.inl (own_w hw 131 rfl)) (Or.inl (own_w hw 133 rfl)) (by decide) (t := .long) (t' := .boolean) (by decide) (by decide))))
  have f15 := ((P8.other W2 (Or.inr (slot_ne (Or.inr (own_w hw 45 rfl)) (Or.inl (own_w hw 131 rfl)) (by decide) (t := (.object "java/lang/StringBuilder")) (t' := .long) (by decide) (by decide)))).other W6 (Or.inr (slot_ne (Or.inr (own_w hw 45 rfl)) (Or.inl (own_w hw 133 rfl)) (by decide) (t := (.object "java/lang/StringBuilder")) (t' := .boolean) (by decide) (by decide))))
  have f16 := ((P9.other W2 (Or.inr (slot_ne (Or.inr (own_w hw 47 rfl)) (Or.inl (own_w hw 131 rfl)) (by decide) (t := (.object "java/lang/StringBuilder")) (t' := .long) (by decide) (by decide)))).other W6 (Or.inr (slot_ne (Or.inr (own_w hw 47 rfl)) (Or.inl (own_w hw 133 rfl)) (by decide) (t := (.object "java/lang/StringBuilder")) (t' := .boolean) (by decide) (by decide))))
  have f17 := ((P11.other W2 (Or.inr (slot_ne (Or.inl (own_w hw 127 rfl)) (Or.inl (own_w hw 131 rfl)) (by decide) (t := .boolean) (t' := .long) (by decide) (by decide)))).other W6 (Or.inr (slot_ne (Or.inl (own_w hw 127 rfl)) (Or.inl (own_w hw 133 rfl)) (by decide) (t := .boolean) (t' := .boolean) (by decide) (by decide))))
  have f18 := ((P12.other W2 (Or.inr (slot_ne (Or.inl (own_w hw 129 rfl)) (Or.inl (own_w hw 131 rfl)) (by decide) (t := .boolean) (t' := .long) (by decide) (by decide)))).other W6 (Or.inr (slot_ne (Or.inl (own_w hw 129 rfl)) (Or.inl (own_w hw 133 rfl)) (by decide) (t := .boolean) (t' := .boolean) (by decide) (by decide))))
  refine ⟨_, _, pre0 _ ?_, hrun, hended, _, _, rfl, ?_, ⟨_, rfl⟩, hW, hsame.mono (by decide) (by decide)⟩
  ·
    show Steps p.tables e below (s₁.setTop (mkF m 0 #[.val (.ref o1), .val (.long q2), .second, .val (.int 1)] [])) _
    refine XS.aloadN X0.here hx rfl (hb hby d15_0) rfl rfl ?_
    refine XS.dup X0.here hx rfl (hb hby d15_1) rfl rfl ?_
    refine st1 _ ?_
    refine XS.lloadN X1.here hx rfl (hb hby d15_5) rfl ?_
    refine XS.ladd X1.here hx rfl (hb hby d15_6) rfl ?_
    refine st2 _ ?_
    refine XS.aloadN X2.here hx rfl (hb hby d15_10) rfl rfl ?_
    refine XS.aloadN X2.here hx rfl (hb hby d15_11) rfl rfl ?_
    refine st4 _ ?_
    refine XS.ifYes X4.here hx rfl (pc0 := 15) (pc' := 22) rfl (hb hby d15_15) rfl ((if0 _ _).trans (feq (by decide : ¬ ((1 : Int32) = (0 : Int32)))).2) (by decide) (by decide) ?_
    refine XS.iconst X4.here hx rfl (hb hby d15_22) ?_
    refine XS.goto X4.here hx rfl (pc0 := 23) (pc' := 27) rfl (hb hby d15_23) (by decide) (by decide) ?_
    refine st6 _ ?_
    show Steps p.tables e below (T6.setTop (mkF m 30 #[.val (.ref o1), .val (.long q2), .second, .val (.int 1)] [])) _
    exact X6.returnOut hx hret (hb hby d15_30) hr
  ·
    show Q23 Z o1 o3 o4 o5 o6 o8 o9 o10 o11 o12 o13 o16 kc14 kc15 q7 q2 h0 n0 _ T6.heap _
    rw [e6]
    exact ⟨rfl, N6, KL, f7, f8, f9, f10, f11, f12, f13, f14, f15, f16, Fw6, f17, f18⟩
theorem ef24 (m : MethodId) (x0 : Addr) (x1 : Int64) (x2 : Int32) : entryFrame m #[(.ref x0), (.long x1), (.int x2)] 4 = mkF m 0 #[.val (.ref x0), .val (.long x1), .second, .val (.int x2)] [] := by first | (simp [entryFrame, mkF, argsToLocals, Value.category]; done) | rfl
def Q24 (Z : State) (o1 : Addr) (o3 : Addr) (o4 : Addr) (o5 : Addr) (o6 : Addr) (o7 : Addr) (o8 : Addr) (o9 : Addr) (o10 : Addr) (o11 : Addr) (o12 : Addr) (o15 : Addr) (kc13 : ClassId) (kc14 : ClassId) (q2 : Int64) (h0 : Heap) (n0 : Nat) (v : Option Value) (h : Heap) (L : List Loc) : Prop :=
  (v = none ∧ Fr n0 L ∧ Keep h0 h [o1] ∧ (Exa Z h o1 "com/example/mycelia/mycelia/wire/MessageTree") ∧ (Fld Z h o1 "com/example/mycelia/mycelia/wire/MessageTree" "attributes" "Lcom/example/mycelia/mycelia/wire/MessageTree$IntRecords;" (.ref o3)) ∧ (Fld Z h o1 "com/example/mycelia/mycelia/wire/MessageTree" "codes" "Ljava/util/Map;" (.ref o4)) ∧ (Fld Z h o1 "com/example/mycelia/mycelia/wire/MessageTree" "deepest" "I" (.int 0)) ∧ (Fld Z h o1 "com/example/mycelia/mycelia/wire/MessageTree" "elements" "Lcom/example/mycelia/mycelia/wire/MessageTree$IntRecords;" (.ref o5)) ∧ (Fld Z h o1 "com/example/mycelia/mycelia/wire/MessageTree" "names" "Ljava/util/List;" (.ref o6)) ∧ (Fld Z h o1 "com/example/mycelia/mycelia/wire/MessageTree" "open" "I" (.int 0)) ∧ (Fld Z h o1 "com/example/mycelia/mycelia/wire/MessageTree" "passed" "J" (.long ((0 : Int64) + q2))) ∧ (Fld Z h o1 "com/example/mycelia/mycelia/wire/MessageTree" "text" "Ljava/lang/StringBuilder;" (.ref o7)) ∧ (Fld Z h o1 "com/example/mycelia/mycelia/wire/MessageTree" "values" "Ljava/lang/StringBuilder;" (.ref o8)) ∧ (Fld Z h o1 "com/example/mycelia/mycelia/wire/MessageTree" "widePassed" "Z" (.int 1)) ∧ (Fld Z h o1 "com/example/mycelia/mycelia/wire/MessageTree" "wideText" "Z" (.int 0)) ∧ (Fld Z h o1 "com/example/mycelia/mycelia/wire/MessageTree" "wideValues" "Z" (.int 0)))
set_option maxRecDepth 65536 in
set_option maxHeartbeats 40000000 in
theorem rm24 (l : Launch) (Z : State) (a0 : Array Value) (hw : ∀ d ∈ tables_1, d.before a0 Z = true) (ws : List Jvm.Cond) (o1 : Addr) (o3 : Addr) (o4 : Addr) (o5 : Addr) (o6 : Addr) (o7 : Addr) (o8 : Addr) (o9 : Addr) (o10 : Addr) (o11 : Addr) (o12 : Addr) (o15 : Addr) (kc13 : ClassId) (kc14 : ClassId) (q2 : Int64) (h0 : Heap) (n0 : Nat) (O0 : Old Z n0 h0) (g_o1 : n0 ≤ o1) (g_o3 : n0 ≤ o3) (g_o4 : n0 ≤ o4) (g_o5 : n0 ≤ o5) (g_o6 : n0 ≤ o6) (g_o7 : n0 ≤ o7) (g_o8 : n0 ≤ o8) (g_o9 : n0 ≤ o9) (g_o10 : n0 ≤ o10) (g_o11 : n0 ≤ o11) (g_o12 : n0 ≤ o12) (g_o15 : n0 ≤ o15) (Ov_kc13 : OvrA Z kc13 .int "[I") (Ov_kc14 : OvrA Z kc14 .int "[I") (P0 : Exa Z h0 o1 "com/example/mycelia/mycelia/wire/MessageTree") (P1 : Fld Z h0 o1 "com/example/mycelia/mycelia/wire/MessageTree" "attributes" "Lcom/example/mycelia/mycelia/wire/MessageTree$IntRecords;" (.ref o3)) (P2 : Fld Z h0 o1 "com/example/mycelia/mycelia/wire/MessageTree" "codes" "Ljava/util/Map;" (.ref o4)) (P3 : Fld Z h0 o1 "com/example/mycelia/mycelia/wire/MessageTree" "deepest" "I" (.int 0)) (P4 : Fld Z h0 o1 "com/example/mycelia/mycelia/wire/MessageTree" "elements" "Lcom/example/mycelia/mycelia/wire/MessageTree$IntRecords;" (.ref o5)) (P5 : Fld Z h0 o1 "com/example/mycelia/mycelia/wire/MessageTree" "names" "Ljava/util/List;" (.ref o6)) (P6 : Fld Z h0 o1 "com/example/mycelia/mycelia/wire/MessageTree" "open" "I" (.int 0)) (P7 : Fld Z h0 o1 "com/example/mycelia/mycelia/wire/MessageTree" "passed" "J" (.long 0)) (P8 : Fld Z h0 o1 "com/example/mycelia/mycelia/wire/MessageTree" "text" "Ljava/lang/StringBuilder;" (.ref o7)) (P9 : Fld Z h0 o1 "com/example/mycelia/mycelia/wire/MessageTree" "values" "Ljava/lang/StringBuilder;" (.ref o8)) (P10 : Fld Z h0 o1 "com/example/mycelia/mycelia/wire/MessageTree" "widePassed" "Z" (.int 0)) (P11 : Fld Z h0 o1 "com/example/mycelia/mycelia/wire/MessageTree" "wideText" "Z" (.int 0)) (P12 : Fld Z h0 o1 "com/example/mycelia/mycelia/wire/MessageTree" "wideValues" "Z" (.int 0)) :
    MetFree l yn16 (head1 (Jvm.Cond.code yn16 prog_21_method_8_code 4 none :: ws) ({ frames := 0, cells := 0, slots := 0, locals := 0 } : Room)) (fun a U => a = #[(.ref o1), (.long q2), (.int 1)] ∧ Z.Warmed39 U.vm ∧ U.heap = h0) (fun _ _ _ _ _ => True) (fun _ U o U' => ∃ v L, o = .returned v ∧ Q24 Z o1 o3 o4 o5 o6 o7 o8 o9 o10 o11 o12 o15 kc13 kc14 q2 h0 n0 v U'.heap L ∧ FrameEnd U o U' L ({ frames := 0, cells := 0, slots := 0, locals := 0 } : Room).cells ({ frames := 0, cells := 0, slots := 0, locals := 0 } : Room).slots) := by
  refine MetFree.of_bodySF (plainFor_of_name pn8) hisR ?_
  intro p e s m args below meth c s₁ Bd hml0 hP hK
  obtain ⟨rfl, hZ, hh⟩ := hP
  have hx := Bd.exec
  have hby := Bd.bytes
  have hml : c.maxLocals = 4 := hml0
  have hown : s.vm.findClass "com/example/mycelia/mycelia/wire/MessageTree" = some m.cls := findClass_of_methodNamed Bd.named
  have hnm := (name_of_methodNamed Bd.named Bd.method).1
  have hret := Bd.returns
  have hlk : meth.locks = false := BodyLoose.notSynchronized Bd
  have X0 : Stand p l e ({ frames := 0, cells := 0, slots := 0, locals := 0 } : Room) s m #[(.ref o1), (.long q2), (.int 1)] below meth c s₁ [] 0 0 := Stand.of_body Bd
  have e0 : s₁.heap = h0 := by rw [← hh, Bd.state]; rfl
  have N0 := Fr.nil n0
  have pre0 : ∀ t, Steps p.tables e below (s₁.setTop (mkF m 0 #[.val (.ref o1), .val (.long q2), .second, .val (.int 1)] [])) t → Steps p.tables e below (s₁.setTop (entryFrame m #[(.ref o1), (.long q2), (.int 1)] 4)) t := fun t k => castTop (ef24 m o1 q2 (1 : Int32)) k
  obtain ⟨T1, X1, e1, st1⟩ := getF X0 hx hZ hown (host := "") (Or.inl (own_w hw 130 rfl)) Via.refl e0 P7 (g := (mkF m 2 #[.val (.ref o1), .val (.long q2), .second, .val (.int 1)] [(.ref o1), (.ref o1)])) rfl rfl (hb hby d15_2)
  obtain ⟨T2, h2, X2, e2, W2, st2⟩ := putF X1 hx hZ hown (host := "") (Or.inl (own_w hw 130 rfl)) Via.refl e1 P7 P0 (Or.inl (own_w hw 131 rfl)) (own_w hw 1 rfl) (ty := .long) (by decide) rfl rfl (g := (mkF m 7 #[.val (.ref o1), .val (.long q2), .second, .val (.int 1)] [(.long ((0 : Int64) + q2)), (.ref o1)])) rfl rfl (hb hby d15_7)
  have N2 := Fr.snoc X2 N0 g_o1
  have Fw2 := P7.same W2
  have M2 : h0.size ≤ h2.size := Nat.le_trans (Nat.le_refl _) (Nat.le_of_eq W2.size.symm)
  have O2 := Old.wr O0 W2 g_o1
  have f3 := (P10.other W2 (Or.inr (slot_ne (Or.inl (own_w hw 133 rfl)) (Or.inl (own_w hw 131 rfl)) (by decide) (t := .boolean) (t' := .long) (by decide) (by decide))))
  obtain ⟨T4, X4, e4, st4⟩ := getF X2 hx hZ hown (host := "") (Or.inl (own_w hw 132 rfl)) Via.refl e2 f3 (g := (mkF m 12 #[.val (.ref o1), .val (.long q2), .second, .val (.int 1)] [(.ref o1), (.ref o1)])) rfl rfl (hb hby d15_12)
  have f5 := (P0.wr W2)
  obtain ⟨T6, h6, X6, e6, W6, st6⟩ := putFN X4 hx hZ hown (own_w hw 132 rfl) Via.refl e4 f3 f5 (Or.inl (own_w hw 133 rfl)) (own_w hw 1 rfl) (ty := .boolean) (v' := (.int 1)) (by decide) rfl (by decide) (g := (mkF m 27 #[.val (.ref o1), .val (.long q2), .second, .val (.int 1)] [(.int 1), (.ref o1)])) rfl rfl (hb hby d15_27)
  have N6 := Fr.snoc X6 N2 g_o1
  have Fw6 := f3.same W6
  have M6 : h0.size ≤ h6.size := Nat.le_trans M2 (Nat.le_of_eq W6.size.symm)
  have O6 := Old.wr O2 W6 g_o1
  obtain ⟨fs, hr, hrun, hended, hW, hsame⟩ := X6.leave (v := none) (fun _ => rfl)
  have KL : Keep h0 h6 [o1] := (((Keep.refl h0 [o1]).wr W2 (Or.inl (List.mem_of_getElem? (i := 0) rfl))).wr W6 (Or.inl (List.mem_of_getElem? (i := 0) rfl)))
  have f7 := (f5.wr W6)
  have f8 := ((P1.other W2 (Or.inr (slot_ne (Or.inr (own_w hw 23 rfl)) (Or.inl (own_w hw 131 rfl)) (by decide) (t := (.object "com/example/mycelia/mycelia/wire/MessageTree$IntRecords")) (t' := .long) (by decide) (by decide)))).other W6 (Or.inr (slot_ne (Or.inr (own_w hw 23 rfl)) (Or.inl (own_w hw 133 rfl)) (by decide) (t := (.object "com/example/mycelia/mycelia/wire/MessageTree$IntRecords")) (t' := .boolean) (by decide) (by decide))))
  have f9 := ((P2.other W2 (Or.inr (slot_ne (Or.inr (own_w hw 91 rfl)) (Or.inl (own_w hw 131 rfl)) (by decide) (t := (.object "java/util/Map")) (t' := .long) (by decide) (by decide)))).other W6 (Or.inr (slot_ne (Or.inr (own_w hw 91 rfl)) (Or.inl (own_w hw 133 rfl)) (by decide) (t := (.object "java/util/Map")) (t' := .boolean) (by decide) (by decide))))
  have f10 := ((P3.other W2 (Or.inr (slot_ne (Or.inl (own_w hw 148 rfl)) (Or.inl (own_w hw 131 rfl)) (by decide) (t := .int) (t' := .long) (by decide) (by decide)))).other W6 (Or.inr (slot_ne (Or.inl (own_w hw 148 rfl)) (Or.inl (own_w hw 133 rfl)) (by decide) (t := .int) (t' := .boolean) (by decide) (by decide))))
  have f11 := ((P4.other W2 (Or.inr (slot_ne (Or.inr (own_w hw 21 rfl)) (Or.inl (own_w hw 131 rfl)) (by decide) (t := (.object "com/example/mycelia/mycelia/wire/MessageTree$IntRecords")) (t' := .long) (by decide) (by decide)))).other W6 (Or.inr (slot_ne (Or.inr (own_w hw 21 rfl)) (Or.inl (own_w hw 133 rfl)) (by decide) (t := (.object "com/example/mycelia/mycelia/wire/MessageTree$IntRecords")) (t' := .boolean) (by decide) (by decide))))
  have f12 := ((P5.other W2 (Or.inr (slot_ne (Or.inr (own_w hw 73 rfl)) (Or.inl (own_w hw 131 rfl)) (by decide) (t := (.object "java/util/List")) (t' := .long) (by decide) (by decide)))).other W6 (Or.inr (slot_ne (Or.inr (own_w hw 73 rfl)) (Or.inl (own_w hw 133 rfl)) (by decide) (t := (.object "java/util/List")) (t' := .boolean) (by decide) (by decide))))
  have f13 := ((P6.other W2 (Or.inr (slot_ne (Or.inl (own_w hw 105 rfl)) (Or.inl (own_w hw 131 rfl)) (by decide) (t := .int) (t' := .long) (by decide) (by decide)))).other W6 (Or.inr (slot_ne (Or.inl (own_w hw 105 rfl)) (Or.inl (own_w hw 133 rfl)) (by decide) (t := .int) (t' := .boolean) (by decide) (by decide))))
  have f14 := (Fw2.other W6 (Or.inr (slot_ne (Or.inl (own_w hw 131 rfl)) (Or.inl (own_w hw 133 rfl)) (by decide) (t := .long) (t' := .boolean) (by decide) (by decide))))
  have f15 := ((P8.other W2 (Or.inr (slot_ne (Or.inr (own_w hw 45 rfl)) (Or.inl (own_w hw 131 rfl)) (by decide) (t := (.object "java/lang/StringBuilder")) (t' := .long) (by decide) (by decide)))).other W6 (Or.inr (slot_ne (Or.inr (own_w hw 45 rfl)) (Or.inl (own_w hw 133 rfl)) (by decide) (t := (.object "java/lang/StringBuilder")) (t' := .boolean) (by decide) (by decide))))
  have f16 := ((P9.other W2 (Or.inr (slot_ne (Or.inr (own_w hw 47 rfl)) (Or.inl (own_w hw 131 rfl)) (by decide) (t := (.object "java/lang/StringBuilder")) (t' := .long) (by decide) (by decide)))).other W6 (Or.inr (slot_ne (Or.inr (own_w hw 47 rfl)) (Or.inl (own_w hw 133 rfl)) (by decide) (t := (.object "java/lang/StringBuilder")) (t' := .boolean) (by decide) (by decide))))
  have f17 := ((P11.other W2 (Or.inr (slot_ne (Or.inl (own_w hw 127 rfl)) (Or.inl (own_w hw 131 rfl)) (by decide) (t := .boolean) (t' := .long) (by decide) (by decide)))).other W6 (Or.inr (slot_ne (Or.inl (own_w hw 127 rfl)) (Or.inl (own_w hw 133 rfl)) (by decide) (t := .boolean) (t' := .boolean) (by decide) (by decide))))
  have f18 := ((P12.other W2 (Or.inr (slot_ne (Or.inl (own_w hw 129 rfl)) (Or.inl (own_w hw 131 rfl)) (by decide) (t := .boolean) (t' := .long) (by decide) (by decide)))).other W6 (Or.inr (slot_ne (Or.inl (own_w hw 129 rfl)) (Or.inl (own_w hw 133 rfl)) (by decide) (t := .boolean) (t' := .boolean) (by decide) (by decide))))
  refine ⟨_, _, pre0 _ ?_, hrun, hended, _, _, rfl, ?_, ⟨_, rfl⟩, hW, hsame.mono (by decide) (by decide)⟩
  ·
    show Steps p.tables e below (s₁.setTop (mkF m 0 #[.val (.ref o1), .val (.long q2), .second, .val (.int 1)] [])) _
    refine XS.aloadN X0.here hx rfl (hb hby d15_0) rfl rfl ?_
    refine XS.dup X0.here hx rfl (hb hby d15_1) rfl rfl ?_
    refine st1 _ ?_
    refine XS.lloadN X1.here hx rfl (hb hby d15_5) rfl ?_
    refine XS.ladd X1.here hx rfl (hb hby d15_6) rfl ?_
    refine st2 _ ?_
    refine XS.aloadN X2.here hx rfl (hb hby d15_10) rfl rfl ?_
    refine XS.aloadN X2.here hx rfl (hb hby d15_11) rfl rfl ?_
    refine st4 _ ?_
    refine XS.ifNo X4.here hx rfl (hb hby d15_15) rfl ((if0 _ _).trans (teq (by decide : (0 : Int32) = (0 : Int32))).2) ?_
    refine XS.iloadN X4.here hx rfl (hb hby d15_18) rfl ?_
    refine XS.ifNo X4.here hx rfl (hb hby d15_19) rfl ((if0 _ _).trans (feq (by decide : ¬ ((1 : Int32) = (0 : Int32)))).1) ?_
    refine XS.iconst X4.here hx rfl (hb hby d15_22) ?_
    refine XS.goto X4.here hx rfl (pc0 := 23) (pc' := 27) rfl (hb hby d15_23) (by decide) (by decide) ?_
    refine st6 _ ?_
    show Steps p.tables e below (T6.setTop (mkF m 30 #[.val (.ref o1), .val (.long q2), .second, .val (.int 1)] [])) _
    exact X6.returnOut hx hret (hb hby d15_30) hr
  ·
    show Q24 Z o1 o3 o4 o5 o6 o7 o8 o9 o10 o11 o12 o15 kc13 kc14 q2 h0 n0 _ T6.heap _
    rw [e6]
    exact ⟨rfl, N6, KL, f7, f8, f9, f10, f11, f12, f13, f14, f15, f16, Fw6, f17, f18⟩
theorem pn9 : plainName "com/example/mycelia/mycelia/wire/MessageTreePassedPinLaw" = true := by first | (simp [plainName, overriddenIn]; done) | decide +kernel
theorem ef0 (m : MethodId) (x0 : Int64) (x1 : Int64) (x2 : Int64) (x3 : Int32) : entryFrame m #[(.long x0), (.long x1), (.long x2), (.int x3)] maxLocals = mkF m 0 #[.val (.long x0), .second, .val (.long x1), .second, .val (.long x2), .second, .val (.int x3), .unset, .unset, .unset, .unset, .unset, .unset, .unset, .unset, .unset, .unset, .unset, .unset, .unset, .unset, .unset, .unset, .unset, .unset, .unset, .unset, .unset, .unset, .unset, .unset, .unset, .unset, .unset] [] := by first | (simp [entryFrame, mkF, argsToLocals, Value.category, maxLocals]; done) | rfl
set_option maxRecDepth 65536 in
set_option maxHeartbeats 40000000 in
theorem rm0 (l : Launch) (Z : State) (a0 : Array Value) (hw : ∀ d ∈ tables_1, d.before a0 Z = true) (w1 : Addr) (w2 : Addr) (kw1 : ClassId) (kw2 : ClassId) (gi1 : Int32) (G : GW Z w1 w2 kw1 kw2 gi1) (ws : List Jvm.Cond) (q1 : Int64) (q2 : Int64) (q3 : Int64) (p4 : Int32) (h0 : Heap) (n0 : Nat) (O0 : Old Z n0 h0) :
    MetFree l x (head1 (Jvm.Cond.code x code maxLocals ret :: ws) room_1) (fun a U => a = #[(.long q1), (.long q2), (.long q3), (.int p4)] ∧ Z.Warmed39 U.vm ∧ U.heap = h0) (fun _ _ _ _ _ => True) (fun _ U o U' => ∃ v L, o = .returned v ∧ Q0 n0 v U'.heap L ∧ FrameEnd U o U' L 32 384) := by
  obtain ⟨S_w1, E_w1, S_w2, E_w2, S_gi1, NZ_gi1, A_w1, A_w2⟩ := id G
  refine MetFree.of_bodySF (plainFor_of_name pn9) hisR ?_
  intro p e s m args below meth c s₁ Bd hml0 hP hK
  obtain ⟨rfl, hZ, hh⟩ := hP
  have hx := Bd.exec
  have hby := Bd.bytes
  have hml : c.maxLocals = 34 := hml0
  have hown : s.vm.findClass "com/example/mycelia/mycelia/wire/MessageTreePassedPinLaw" = some m.cls := findClass_of_methodNamed Bd.named
  have hnm := (name_of_methodNamed Bd.named Bd.method).1
  have hret := Bd.returns
  have hlk : meth.locks = false := BodyLoose.notSynchronized Bd
  have X0 : Stand p l e room_1 s m #[(.long q1), (.long q2), (.long q3), (.int p4)] below meth c s₁ [] 0 0 := Stand.of_body Bd
  have e0 : s₁.heap = h0 := by rw [← hh, Bd.state]; rfl
  have N0 := Fr.nil n0
  have pre0 : ∀ t, Steps p.tables e below (s₁.setTop (mkF m 0 #[.val (.long q1), .second, .val (.long q2), .second, .val (.long q3), .second, .val (.int p4), .unset, .unset, .unset, .unset, .unset, .unset, .unset, .unset, .unset, .unset, .unset, .unset, .unset, .unset, .unset, .unset, .unset, .unset, .unset, .unset, .unset, .unset, .unset, .unset, .unset, .unset, .unset] [])) t → Steps p.tables e below (s₁.setTop (entryFrame m #[(.long q1), (.long q2), (.long q3), (.int p4)] maxLocals)) t := fun t k => castTop (ef0 m q1 q2 q3 p4) k
  have pre1 : ∀ t, Steps p.tables e below (s₁.setTop (mkF m 4 #[.val (.long q1), .second, .val (.long q2), .second, .val (.long q3), .second, .val (.int p4), .unset, .unset, .unset, .unset, .unset, .unset, .unset, .unset, .unset, .unset, .unset, .unset, .unset, .unset, .unset, .unset, .unset, .unset, .unset, .unset, .unset, .unset, .unset, .unset, .unset, .unset, .unset] [(.int (p4 &&& (1 : Int32)))])) t → Steps p.tables e below (s₁.setTop (entryFrame m #[(.long q1), (.long q2), (.long q3), (.int p4)] maxLocals)) t := fun t k => by
    refine pre0 _ ?_
    show Steps p.tables e below (s₁.setTop (mkF m 0 #[.val (.long q1), .second, .val (.long q2), .second, .val (.long q3), .second, .val (.int p4), .unset, .unset, .unset, .unset, .unset, .unset, .unset, .unset, .unset, .unset, .unset, .unset, .unset, .unset, .unset, .unset, .unset, .unset, .unset, .unset, .unset, .unset, .unset, .unset, .unset, .unset, .unset] [])) _
    refine XS.iload X0.here hx rfl (hb hby at_0) rfl ?_
    refine XS.iconst X0.here hx rfl (hb hby at_2) ?_
    refine XS.iand X0.here hx rfl (hb hby at_3) rfl ?_
    exact k
  by_cases hc2 : (p4 &&& (1 : Int32)) = (0 : Int32)
  ·
    have pre3 : ∀ t, Steps p.tables e below (s₁.setTop (mkF m 4 #[.val (.long q1), .second, .val (.long q2), .second, .val (.long q3), .second, .val (.int p4), .unset, .unset, .unset, .unset, .unset, .unset, .unset, .unset, .unset, .unset, .unset, .unset, .unset, .unset, .unset, .unset, .unset, .unset, .unset, .unset, .unset, .unset, .unset, .unset, .unset, .unset, .unset] [(.int 0)])) t → Steps p.tables e below (s₁.setTop (entryFrame m #[(.long q1), (.long q2), (.long q3), (.int p4)] maxLocals)) t := fun t k => pre1 t (by rw [hc2]; exact k)
    have pre4 : ∀ t, Steps p.tables e below (s₁.setTop (mkF m 18 #[.val (.long q1), .second, .val (.long q2), .second, .val (.long q3), .second, .val (.int p4), .val (.int 0), .unset, .unset, .unset, .unset, .unset, .unset, .unset, .unset, .unset, .unset, .unset, .unset, .unset, .unset, .unset, .unset, .unset, .unset, .unset, .unset, .unset, .unset, .unset, .unset, .unset, .unset] [(.int (p4 &&& (2 : Int32)))])) t → Steps p.tables e below (s₁.setTop (entryFrame m #[(.long q1), (.long q2), (.long q3), (.int p4)] maxLocals)) t := fun t k => by
      refine pre3 _ ?_
      show Steps p.tables e below (s₁.setTop (mkF m 4 #[.val (.long q1), .second, .val (.long q2), .second, .val (.long q3), .second, .val (.int p4), .unset, .unset, .unset, .unset, .unset, .unset, .unset, .unset, .unset, .unset, .unset, .unset, .unset, .unset, .unset, .unset, .unset, .unset, .unset, .unset, .unset, .unset, .unset, .unset, .unset, .unset, .unset] [(.int 0)])) _
      refine XS.ifYes X0.here hx rfl (pc0 := 4) (pc' := 11) rfl (hb hby at_4) rfl ((if0 _ _).trans (teq (by decide : (0 : Int32) = (0 : Int32))).1) (by decide) (by decide) ?_
      refine XS.iconst X0.here hx rfl (hb hby at_11) ?_
      refine XS.istore X0.here hx rfl (hb hby at_12) rfl (l' := #[.val (.long q1), .second, .val (.long q2), .second, .val (.long q3), .second, .val (.int p4), .val (.int 0), .unset, .unset, .unset, .unset, .unset, .unset, .unset, .unset, .unset, .unset, .unset, .unset, .unset, .unset, .unset, .unset, .unset, .unset, .unset, .unset, .unset, .unset, .unset, .unset, .unset, .unset]) rfl ?_
      refine XS.iload X0.here hx rfl (hb hby at_14) rfl ?_
      refine XS.iconst X0.here hx rfl (hb hby at_16) ?_
      refine XS.iand X0.here hx rfl (hb hby at_17) rfl ?_
      exact k
    by_cases hc5 : (p4 &&& (2 : Int32)) = (0 : Int32)
    ·
      have pre6 : ∀ t, Steps p.tables e below (s₁.setTop (mkF m 18 #[.val (.long q1), .second, .val (.long q2), .second, .val (.long q3), .second, .val (.int p4), .val (.int 0), .unset, .unset, .unset, .unset, .unset, .unset, .unset, .unset, .unset, .unset, .unset, .unset, .unset, .unset, .unset, .unset, .unset, .unset, .unset, .unset, .unset, .unset, .unset, .unset, .unset, .unset] [(.int 0)])) t → Steps p.tables e below (s₁.setTop (entryFrame m #[(.long q1), (.long q2), (.long q3), (.int p4)] maxLocals)) t := fun t k => pre4 t (by rw [hc5]; exact k)
      have pre7 : ∀ t, Steps p.tables e below (s₁.setTop (mkF m 32 #[.val (.long q1), .second, .val (.long q2), .second, .val (.long q3), .second, .val (.int p4), .val (.int 0), .val (.int 0), .unset, .unset, .unset, .unset, .unset, .unset, .unset, .unset, .unset, .unset, .unset, .unset, .unset, .unset, .unset, .unset, .unset, .unset, .unset, .unset, .unset, .unset, .unset, .unset, .unset] [(.int (p4 &&& (4 : Int32)))])) t → Steps p.tables e below (s₁.setTop (entryFrame m #[(.long q1), (.long q2), (.long q3), (.int p4)] maxLocals)) t := fun t k => by
        refine pre6 _ ?_
        show Steps p.tables e below (s₁.setTop (mkF m 18 #[.val (.long q1), .second, .val (.long q2), .second, .val (.long q3), .second, .val (.int p4), .val (.int 0), .unset, .unset, .unset, .unset, .unset, .unset, .unset, .unset, .unset, .unset, .unset, .unset, .unset, .unset, .unset, .unset, .unset, .unset, .unset, .unset, .unset, .unset, .unset, .unset, .unset, .unset] [(.int 0)])) _
        refine XS.ifYes X0.here hx rfl (pc0 := 18) (pc' := 25) rfl (hb hby at_18) rfl ((if0 _ _).trans (teq (by decide : (0 : Int32) = (0 : Int32))).1) (by decide) (by decide) ?_
        refine XS.iconst X0.here hx rfl (hb hby at_25) ?_
        refine XS.istore X0.here hx rfl (hb hby at_26) rfl (l' := #[.val (.long q1), .second, .val (.long q2), .second, .val (.long q3), .second, .val (.int p4), .val (.int 0), .val (.int 0), .unset, .unset, .unset, .unset, .unset, .unset, .unset, .unset, .unset, .unset, .unset, .unset, .unset, .unset, .unset, .unset, .unset, .unset, .unset, .unset, .unset, .unset, .unset, .unset, .unset]) rfl ?_
        refine XS.iload X0.here hx rfl (hb hby at_28) rfl ?_
        refine XS.iconst X0.here hx rfl (hb hby at_30) ?_
        refine XS.iand X0.here hx rfl (hb hby at_31) rfl ?_
        exact k
      by_cases hc8 : (p4 &&& (4 : Int32)) = (0 : Int32)
      ·
        have pre9 : ∀ t, Steps p.tables e below (s₁.setTop (mkF m 32 #[.val (.long q1), .second, .val (.long q2), .second, .val (.long q3), .second, .val (.int p4), .val (.int 0), .val (.int 0), .unset, .unset, .unset, .unset, .unset, .unset, .unset, .unset, .unset, .unset, .unset, .unset, .unset, .unset, .unset, .unset, .unset, .unset, .unset, .unset, .unset, .unset, .unset, .unset, .unset] [(.int 0)])) t → Steps p.tables e below (s₁.setTop (entryFrame m #[(.long q1), (.long q2), (.long q3), (.int p4)] maxLocals)) t := fun t k => pre7 t (by rw [hc8]; exact k)
        obtain ⟨T10, h10, X10, e10, E10, A10, D10, -, st10⟩ := newO X0 hx hZ hown (own_w hw 0 rfl) (own_w hw 1 rfl) (own_w hw 2 rfl) e0 (g := (mkF m 42 #[.val (.long q1), .second, .val (.long q2), .second, .val (.long q3), .second, .val (.int p4), .val (.int 0), .val (.int 0), .val (.int 0), .unset, .unset, .unset, .unset, .unset, .unset, .unset, .unset, .unset, .unset, .unset, .unset, .unset, .unset, .unset, .unset, .unset, .unset, .unset, .unset, .unset, .unset, .unset, .unset] [])) rfl (hb hby at_42) (by decide) (by decide)
        obtain ⟨b10, g10⟩ : ∃ z, z = h0.size := ⟨_, rfl⟩
        rw [← g10] at A10 D10 st10
        have M10 : h0.size ≤ h10.size := Nat.le_trans (Nat.le_refl _) E10.1
        have O10 := Old.ext O0 E10
        have sz_b10 : h0.size ≤ b10 := Nat.le_of_eq g10.symm
        have g_b10 : n0 ≤ b10 := Nat.le_trans (own_oz O0) (Nat.le_trans (Nat.le_refl _) sz_b10)
        have F10_21 : Fld Z h10 b10 "com/example/mycelia/mycelia/wire/MessageTree" "elements" "Lcom/example/mycelia/mycelia/wire/MessageTree$IntRecords;" .null := D10 (Or.inr (own_w hw 21 rfl)) (ty := (.object "com/example/mycelia/mycelia/wire/MessageTree$IntRecords")) (by decide)
        have F10_23 : Fld Z h10 b10 "com/example/mycelia/mycelia/wire/MessageTree" "attributes" "Lcom/example/mycelia/mycelia/wire/MessageTree$IntRecords;" .null := D10 (Or.inr (own_w hw 23 rfl)) (ty := (.object "com/example/mycelia/mycelia/wire/MessageTree$IntRecords")) (by decide)
        have F10_45 : Fld Z h10 b10 "com/example/mycelia/mycelia/wire/MessageTree" "text" "Ljava/lang/StringBuilder;" .null := D10 (Or.inr (own_w hw 45 rfl)) (ty := (.object "java/lang/StringBuilder")) (by decide)
        have F10_47 : Fld Z h10 b10 "com/example/mycelia/mycelia/wire/MessageTree" "values" "Ljava/lang/StringBuilder;" .null := D10 (Or.inr (own_w hw 47 rfl)) (ty := (.object "java/lang/StringBuilder")) (by decide)
        have F10_73 : Fld Z h10 b10 "com/example/mycelia/mycelia/wire/MessageTree" "names" "Ljava/util/List;" .null := D10 (Or.inr (own_w hw 73 rfl)) (ty := (.object "java/util/List")) (by decide)
        have F10_91 : Fld Z h10 b10 "com/example/mycelia/mycelia/wire/MessageTree" "codes" "Ljava/util/Map;" .null := D10 (Or.inr (own_w hw 91 rfl)) (ty := (.object "java/util/Map")) (by decide)
        have F10_105 : Fld Z h10 b10 "com/example/mycelia/mycelia/wire/MessageTree" "open" "I" (.int 0) := D10 (Or.inl (own_w hw 105 rfl)) (ty := .int) (by decide)
        have F10_127 : Fld Z h10 b10 "com/example/mycelia/mycelia/wire/MessageTree" "wideText" "Z" (.int 0) := D10 (Or.inl (own_w hw 127 rfl)) (ty := .boolean) (by decide)
        have F10_129 : Fld Z h10 b10 "com/example/mycelia/mycelia/wire/MessageTree" "wideValues" "Z" (.int 0) := D10 (Or.inl (own_w hw 129 rfl)) (ty := .boolean) (by decide)
        have F10_131 : Fld Z h10 b10 "com/example/mycelia/mycelia/wire/MessageTree" "passed" "J" (.long 0) := D10 (Or.inl (own_w hw 131 rfl)) (ty := .long) (by decide)
        have F10_133 : Fld Z h10 b10 "com/example/mycelia/mycelia/wire/MessageTree" "widePassed" "Z" (.int 0) := D10 (Or.inl (own_w hw 133 rfl)) (ty := .boolean) (by decide)
        have F10_148 : Fld Z h10 b10 "com/example/mycelia/mycelia/wire/MessageTree" "deepest" "I" (.int 0) := D10 (Or.inl (own_w hw 148 rfl)) (ty := .int) (by decide)
        obtain ⟨_, T11, L11, X11, hQ11, st11⟩ := own_sb X10 hx hZ hown (y := yn9) (own_w hw 3 rfl) (own_w hw 4 rfl) (own_w hw 5 rfl) (own_w hw 2 rfl) e10 (a := b10) (argsL := []) (rest := [(.ref b10)]) (rm10 l Z a0 hw w1 w2 kw1 kw2 gi1 G [] b10 h10 n0 O10 g_b10 A10 F10_23 F10_91 F10_148 F10_21 F10_73 F10_105 F10_131 F10_45 F10_47 F10_133 F10_127 F10_129) (g := (mkF m 46 #[.val (.long q1), .second, .val (.long q2), .second, .val (.long q3), .second, .val (.int p4), .val (.int 0), .val (.int 0), .val (.int 0), .unset, .unset, .unset, .unset, .unset, .unset, .unset, .unset, .unset, .unset, .unset, .unset, .unset, .unset, .unset, .unset, .unset, .unset, .unset, .unset, .unset, .unset, .unset, .unset] [(.ref b10), (.ref b10)])) rfl (by rw [hml]; rfl) rfl (hb hby at_46) (lenOf pd0 rfl) (W := 1) (c1 := 12) (s1 := 136)
        obtain ⟨b12, b13, b14, b15, b16, b17, b18, b19, b20, b21, b22, k23, k24, k25, k26, k27, rfl, Nq28, K29, sz_b12, sz_b13, sz_b14, sz_b15, sz_b16, sz_b17, sz_b18, sz_b19, sz_b20, sz_b21, sz_b22, ne30, ne31, ne32, ne33, ne34, ne35, ne36, ne37, ne38, ne39, ne40, ne41, ne42, ne43, ne44, ne45, ne46, ne47, ne48, ne49, ne50, ne51, ne52, ne53, ne54, ne55, ne56, ne57, ne58, ne59, ne60, ne61, ne62, ne63, ne64, ne65, ne66, ne67, ne68, ne69, ne70, ne71, ne72, ne73, ne74, ne75, ne76, ne77, ne78, ne79, ne80, ne81, ne82, ne83, ne84, OV85, OV86, f87, f88, f89, f90, f91, f92, f93, f94, f95, f96, f97, f98, f99, f100, f101, f102, f103, f104, f105, f106, f107, f108, f109, f110, f111, f112, f113, f114, f115, f116, f117, f118, f119, f120, f121, f122, f123, f124, f125, f126, f127, f128, f129⟩ := hQ11
        have N11 := Fr.app N0 Nq28
        have g_b12 : n0 ≤ b12 := Nat.le_trans (own_oz O10) sz_b12
        have g_b13 : n0 ≤ b13 := Nat.le_trans (own_oz O10) sz_b13
        have g_b14 : n0 ≤ b14 := Nat.le_trans (own_oz O10) sz_b14
        have g_b15 : n0 ≤ b15 := Nat.le_trans (own_oz O10) sz_b15
        have g_b16 : n0 ≤ b16 := Nat.le_trans (own_oz O10) sz_b16
        have g_b17 : n0 ≤ b17 := Nat.le_trans (own_oz O10) sz_b17
        have g_b18 : n0 ≤ b18 := Nat.le_trans (own_oz O10) sz_b18
        have g_b19 : n0 ≤ b19 := Nat.le_trans (own_oz O10) sz_b19
        have g_b20 : n0 ≤ b20 := Nat.le_trans (own_oz O10) sz_b20
        have g_b21 : n0 ≤ b21 := Nat.le_trans (own_oz O10) sz_b21
        have g_b22 : n0 ≤ b22 := Nat.le_trans (own_oz O10) sz_b22
        have M11 : h0.size ≤ T11.heap.size := Nat.le_trans M10 K29.1
        have O11 := Old.keep O10 K29 (allS g_b10 all0)
        obtain ⟨_, T130, L130, X130, hQ130, st130⟩ := own_vb X11 hx hZ hown (y := yn15) (own_w hw 106 rfl) (own_w hw 107 rfl) (own_w hw 109 rfl) (own_w hw 108 rfl) (own_w hw 110 rfl) (own_w hw 2 rfl) rfl f87 (argsL := []) (rest := []) (rm16 l Z a0 hw [] b10 b12 b13 b14 b15 b16 b17 b18 b19 b20 b21 b22 k23 k24 k25 k26 T11.heap n0 O11 g_b10 g_b12 g_b13 g_b14 g_b15 g_b16 g_b17 g_b18 g_b19 g_b20 g_b21 g_b22 OV85 OV86 f88 f90 f91 f92 f94 f95 f96 f97 f98 f99 f100 f102 f106 f108 f110 f113 f114 f115 f116 f117 f118 f119 f124 f126) (g := (mkF m 53 #[.val (.long q1), .second, .val (.long q2), .second, .val (.long q3), .second, .val (.int p4), .val (.int 0), .val (.int 0), .val (.int 0), .val (.ref b10), .unset, .unset, .unset, .unset, .unset, .unset, .unset, .unset, .unset, .unset, .unset, .unset, .unset, .unset, .unset, .unset, .unset, .unset, .unset, .unset, .unset, .unset, .unset] [(.ref b10)])) rfl (by rw [hml]; rfl) rfl (hb hby at_53) (lenOf pd3 rfl) (W := 0) (c1 := 12) (s1 := 136)
        obtain ⟨rfl, Nq131, e132⟩ := hQ130
        have N130 := Fr.app N11 Nq131
        obtain ⟨_, T133, L133, X133, hQ133, st133⟩ := own_vb X130 hx hZ hown (y := yn16) (own_w hw 149 rfl) (own_w hw 150 rfl) (own_w hw 152 rfl) (own_w hw 151 rfl) (own_w hw 153 rfl) (own_w hw 2 rfl) e132 f87 (argsL := [(.long q1), (.int 0)]) (rest := []) (rm17 l Z a0 hw [] b10 b12 b13 b14 b15 b16 b17 b18 b19 b20 b21 b22 k23 k24 q1 T11.heap n0 O11 g_b10 g_b12 g_b13 g_b14 g_b15 g_b16 g_b17 g_b18 g_b19 g_b20 g_b21 g_b22 OV85 OV86 f87 f88 f89 f90 f91 f92 f93 f94 f95 f96 f97 f98 f99) (g := (mkF m 63 #[.val (.long q1), .second, .val (.long q2), .second, .val (.long q3), .second, .val (.int p4), .val (.int 0), .val (.int 0), .val (.int 0), .val (.ref b10), .val (.long 288), .second, .unset, .unset, .unset, .unset, .unset, .unset, .unset, .unset, .unset, .unset, .unset, .unset, .unset, .unset, .unset, .unset, .unset, .unset, .unset, .unset, .unset] [(.int 0), (.long q1), (.ref b10)])) rfl (by rw [hml]; rfl) rfl (hb hby at_63) (lenOf pd5 rfl) (W := 0) (c1 := 12) (s1 := 136)
        obtain ⟨rfl, Nq134, K135, f136, f137, f138, f139, f140, f141, f142, f143, f144, f145, f146, f147, f148⟩ := hQ133
        have N133 := Fr.app N130 Nq134
        have M133 : h0.size ≤ T133.heap.size := Nat.le_trans M11 K135.1
        have O133 := Old.keep O11 K135 (allS g_b10 all0)
        have f149 := (f100.keep K135)
        have lt150 : b10 < h10.size := A10.lt
        have ne151 : b10 ≠ b12 := Nat.ne_of_lt (Nat.lt_of_lt_of_le lt150 sz_b12)
        have f152 := (f102.keep K135 (ninS (Ne.symm ne151) nin0))
        have f153 := (f106.keep K135)
        have ne154 : b10 ≠ b14 := Nat.ne_of_lt (Nat.lt_of_lt_of_le lt150 sz_b14)
        have f155 := (f108.keep K135 (ninS (Ne.symm ne154) nin0))
        have f156 := (f110.keep K135)
        have ne157 : b10 ≠ b15 := Nat.ne_of_lt (Nat.lt_of_lt_of_le lt150 sz_b15)
        have f158 := (f113.keep K135 (ninS (Ne.symm ne157) nin0))
        have f159 := (f114.keep K135)
        have ne160 : b10 ≠ b16 := Nat.ne_of_lt (Nat.lt_of_lt_of_le lt150 sz_b16)
        have f161 := (f115.keep K135 (ninS (Ne.symm ne160) nin0))
        have f162 := (f116.keep K135 (ninS (Ne.symm ne160) nin0))
        have f163 := (f117.keep K135)
        have ne164 : b10 ≠ b17 := Nat.ne_of_lt (Nat.lt_of_lt_of_le lt150 sz_b17)
        have f165 := (f118.keep K135 (ninS (Ne.symm ne164) nin0))
        have f166 := (f119.keep K135 (ninS (Ne.symm ne164) nin0))
        have ne167 : b10 ≠ b20 := Nat.ne_of_lt (Nat.lt_of_lt_of_le lt150 sz_b20)
        have f168 := (f124.keep K135 (ninS (Ne.symm ne167) nin0))
        have ne169 : b10 ≠ b21 := Nat.ne_of_lt (Nat.lt_of_lt_of_le lt150 sz_b21)
        have f170 := (f126.keep K135 (ninS (Ne.symm ne169) nin0))
        obtain ⟨_, T171, L171, X171, hQ171, st171⟩ := own_vb X133 hx hZ hown (y := yn15) (own_w hw 106 rfl) (own_w hw 107 rfl) (own_w hw 109 rfl) (own_w hw 108 rfl) (own_w hw 110 rfl) (own_w hw 2 rfl) rfl f136 (argsL := []) (rest := []) (rm18 l Z a0 hw [] b10 b12 b13 b14 b15 b16 b17 b18 b19 b20 b21 b22 k23 k24 (((0 : Int64) + q1)) k25 k26 T133.heap n0 O133 g_b10 g_b12 g_b13 g_b14 g_b15 g_b16 g_b17 g_b18 g_b19 g_b20 g_b21 g_b22 OV85 OV86 f137 f139 f140 f141 f143 f144 f145 f146 f147 f148 f149 f152 f153 f155 f156 f158 f159 f161 f162 f163 f165 f166 f168 f170) (g := (mkF m 68 #[.val (.long q1), .second, .val (.long q2), .second, .val (.long q3), .second, .val (.int p4), .val (.int 0), .val (.int 0), .val (.int 0), .val (.ref b10), .val (.long 288), .second, .unset, .unset, .unset, .unset, .unset, .unset, .unset, .unset, .unset, .unset, .unset, .unset, .unset, .unset, .unset, .unset, .unset, .unset, .unset, .unset, .unset] [(.ref b10)])) rfl (by rw [hml]; rfl) rfl (hb hby at_68) (lenOf pd3 rfl) (W := 0) (c1 := 12) (s1 := 136)
        obtain ⟨rfl, Nq172, e173⟩ := hQ171
        have N171 := Fr.app N133 Nq172
        obtain ⟨_, T174, L174, X174, hQ174, st174⟩ := own_vb X171 hx hZ hown (y := yn16) (own_w hw 149 rfl) (own_w hw 150 rfl) (own_w hw 152 rfl) (own_w hw 151 rfl) (own_w hw 153 rfl) (own_w hw 2 rfl) e173 f136 (argsL := [(.long q2), (.int 0)]) (rest := []) (rm19 l Z a0 hw [] b10 b12 b13 b14 b15 b16 b17 b18 b19 b20 b21 b22 k23 k24 (((0 : Int64) + q1)) q2 T133.heap n0 O133 g_b10 g_b12 g_b13 g_b14 g_b15 g_b16 g_b17 g_b18 g_b19 g_b20 g_b21 g_b22 OV85 OV86 f136 f137 f138 f139 f140 f141 f142 f143 f144 f145 f146 f147 f148) (g := (mkF m 78 #[.val (.long q1), .second, .val (.long q2), .second, .val (.long q3), .second, .val (.int p4), .val (.int 0), .val (.int 0), .val (.int 0), .val (.ref b10), .val (.long 288), .second, .val (.long ((((288 : Int64) + (((0 : Int64) + q1) <<< ((0 : Int32) &&& 0x3f).toInt64)) + (0 : Int64)) + (0 : Int64))), .second, .unset, .unset, .unset, .unset, .unset, .unset, .unset, .unset, .unset, .unset, .unset, .unset, .unset, .unset, .unset, .unset, .unset, .unset, .unset] [(.int 0), (.long q2), (.ref b10)])) rfl (by rw [hml]; rfl) rfl (hb hby at_78) (lenOf pd5 rfl) (W := 0) (c1 := 12) (s1 := 136)
        obtain ⟨rfl, Nq175, K176, f177, f178, f179, f180, f181, f182, f183, f184, f185, f186, f187, f188, f189⟩ := hQ174
        have N174 := Fr.app N171 Nq175
        have M174 : h0.size ≤ T174.heap.size := Nat.le_trans M133 K176.1
        have O174 := Old.keep O133 K176 (allS g_b10 all0)
        have f190 := (f149.keep K176)
        have f191 := (f152.keep K176 (ninS (Ne.symm ne151) nin0))
        have f192 := (f153.keep K176)
        have f193 := (f155.keep K176 (ninS (Ne.symm ne154) nin0))
        have f194 := (f156.keep K176)
        have f195 := (f158.keep K176 (ninS (Ne.symm ne157) nin0))
        have f196 := (f159.keep K176)
        have f197 := (f161.keep K176 (ninS (Ne.symm ne160) nin0))
        have f198 := (f162.keep K176 (ninS (Ne.symm ne160) nin0))
        have f199 := (f163.keep K176)
        have f200 := (f165.keep K176 (ninS (Ne.symm ne164) nin0))
        have f201 := (f166.keep K176 (ninS (Ne.symm ne164) nin0))
        have f202 := (f168.keep K176 (ninS (Ne.symm ne167) nin0))
        have f203 := (f170.keep K176 (ninS (Ne.symm ne169) nin0))
        obtain ⟨_, T204, L204, X204, hQ204, st204⟩ := own_vb X174 hx hZ hown (y := yn15) (own_w hw 106 rfl) (own_w hw 107 rfl) (own_w hw 109 rfl) (own_w hw 108 rfl) (own_w hw 110 rfl) (own_w hw 2 rfl) rfl f177 (argsL := []) (rest := []) (rm18 l Z a0 hw [] b10 b12 b13 b14 b15 b16 b17 b18 b19 b20 b21 b22 k23 k24 ((((0 : Int64) + q1) + q2)) k25 k26 T174.heap n0 O174 g_b10 g_b12 g_b13 g_b14 g_b15 g_b16 g_b17 g_b18 g_b19 g_b20 g_b21 g_b22 OV85 OV86 f178 f180 f181 f182 f184 f185 f186 f187 f188 f189 f190 f191 f192 f193 f194 f195 f196 f197 f198 f199 f200 f201 f202 f203) (g := (mkF m 83 #[.val (.long q1), .second, .val (.long q2), .second, .val (.long q3), .second, .val (.int p4), .val (.int 0), .val (.int 0), .val (.int 0), .val (.ref b10), .val (.long 288), .second, .val (.long ((((288 : Int64) + (((0 : Int64) + q1) <<< ((0 : Int32) &&& 0x3f).toInt64)) + (0 : Int64)) + (0 : Int64))), .second, .unset, .unset, .unset, .unset, .unset, .unset, .unset, .unset, .unset, .unset, .unset, .unset, .unset, .unset, .unset, .unset, .unset, .unset, .unset] [(.ref b10)])) rfl (by rw [hml]; rfl) rfl (hb hby at_83) (lenOf pd3 rfl) (W := 0) (c1 := 12) (s1 := 136)
        obtain ⟨rfl, Nq205, e206⟩ := hQ204
        have N204 := Fr.app N174 Nq205
        obtain ⟨_, T207, L207, X207, hQ207, st207⟩ := own_vb X204 hx hZ hown (y := yn16) (own_w hw 149 rfl) (own_w hw 150 rfl) (own_w hw 152 rfl) (own_w hw 151 rfl) (own_w hw 153 rfl) (own_w hw 2 rfl) e206 f177 (argsL := [(.long q3), (.int 0)]) (rest := []) (rm19 l Z a0 hw [] b10 b12 b13 b14 b15 b16 b17 b18 b19 b20 b21 b22 k23 k24 ((((0 : Int64) + q1) + q2)) q3 T174.heap n0 O174 g_b10 g_b12 g_b13 g_b14 g_b15 g_b16 g_b17 g_b18 g_b19 g_b20 g_b21 g_b22 OV85 OV86 f177 f178 f179 f180 f181 f182 f183 f184 f185 f186 f187 f188 f189) (g := (mkF m 94 #[.val (.long q1), .second, .val (.long q2), .second, .val (.long q3), .second, .val (.int p4), .val (.int 0), .val (.int 0), .val (.int 0), .val (.ref b10), .val (.long 288), .second, .val (.long ((((288 : Int64) + (((0 : Int64) + q1) <<< ((0 : Int32) &&& 0x3f).toInt64)) + (0 : Int64)) + (0 : Int64))), .second, .val (.long ((((288 : Int64) + ((((0 : Int64) + q1) + q2) <<< ((0 : Int32) &&& 0x3f).toInt64)) + (0 : Int64)) + (0 : Int64))), .second, .unset, .unset, .unset, .unset, .unset, .unset, .unset, .unset, .unset, .unset, .unset, .unset, .unset, .unset, .unset, .unset, .unset] [(.int 0), (.long q3), (.ref b10)])) rfl (by rw [hml]; rfl) rfl (hb hby at_94) (lenOf pd5 rfl) (W := 0) (c1 := 12) (s1 := 136)
        obtain ⟨rfl, Nq208, K209, f210, f211, f212, f213, f214, f215, f216, f217, f218, f219, f220, f221, f222⟩ := hQ207
        have N207 := Fr.app N204 Nq208
        have M207 : h0.size ≤ T207.heap.size := Nat.le_trans M174 K209.1
        have O207 := Old.keep O174 K209 (allS g_b10 all0)
        have f223 := (f190.keep K209)
        have f224 := (f191.keep K209 (ninS (Ne.symm ne151) nin0))
        have f225 := (f192.keep K209)
        have f226 := (f193.keep K209 (ninS (Ne.symm ne154) nin0))
        have f227 := (f194.keep K209)
        have f228 := (f195.keep K209 (ninS (Ne.symm ne157) nin0))
        have f229 := (f196.keep K209)
        have f230 := (f197.keep K209 (ninS (Ne.symm ne160) nin0))
        have f231 := (f198.keep K209 (ninS (Ne.symm ne160) nin0))
        have f232 := (f199.keep K209)
        have f233 := (f200.keep K209 (ninS (Ne.symm ne164) nin0))
        have f234 := (f201.keep K209 (ninS (Ne.symm ne164) nin0))
        have f235 := (f202.keep K209 (ninS (Ne.symm ne167) nin0))
        have f236 := (f203.keep K209 (ninS (Ne.symm ne169) nin0))
        obtain ⟨_, T237, L237, X237, hQ237, st237⟩ := own_vb X207 hx hZ hown (y := yn15) (own_w hw 106 rfl) (own_w hw 107 rfl) (own_w hw 109 rfl) (own_w hw 108 rfl) (own_w hw 110 rfl) (own_w hw 2 rfl) rfl f210 (argsL := []) (rest := []) (rm18 l Z a0 hw [] b10 b12 b13 b14 b15 b16 b17 b18 b19 b20 b21 b22 k23 k24 (((((0 : Int64) + q1) + q2) + q3)) k25 k26 T207.heap n0 O207 g_b10 g_b12 g_b13 g_b14 g_b15 g_b16 g_b17 g_b18 g_b19 g_b20 g_b21 g_b22 OV85 OV86 f211 f213 f214 f215 f217 f218 f219 f220 f221 f222 f223 f224 f225 f226 f227 f228 f229 f230 f231 f232 f233 f234 f235 f236) (g := (mkF m 99 #[.val (.long q1), .second, .val (.long q2), .second, .val (.long q3), .second, .val (.int p4), .val (.int 0), .val (.int 0), .val (.int 0), .val (.ref b10), .val (.long 288), .second, .val (.long ((((288 : Int64) + (((0 : Int64) + q1) <<< ((0 : Int32) &&& 0x3f).toInt64)) + (0 : Int64)) + (0 : Int64))), .second, .val (.long ((((288 : Int64) + ((((0 : Int64) + q1) + q2) <<< ((0 : Int32) &&& 0x3f).toInt64)) + (0 : Int64)) + (0 : Int64))), .second, .unset, .unset, .unset, .unset, .unset, .unset, .unset, .unset, .unset, .unset, .unset, .unset, .unset, .unset, .unset, .unset, .unset] [(.ref b10)])) rfl (by rw [hml]; rfl) rfl (hb hby at_99) (lenOf pd3 rfl) (W := 0) (c1 := 12) (s1 := 136)
        obtain ⟨rfl, Nq238, e239⟩ := hQ237
        have N237 := Fr.app N207 Nq238
        obtain ⟨fs, hr, hrun, hended, hW, hsame⟩ := X237.leave (v := some (.int 1)) (fun h => by rw [hret] at h; cases h)
        refine ⟨_, _, pre9 _ ?_, hrun, hended, _, _, rfl, ?_, ⟨_, rfl⟩, hW, hsame.mono (by decide) (by decide)⟩
        ·
          show Steps p.tables e below (s₁.setTop (mkF m 32 #[.val (.long q1), .second, .val (.long q2), .second, .val (.long q3), .second, .val (.int p4), .val (.int 0), .val (.int 0), .unset, .unset, .unset, .unset, .unset, .unset, .unset, .unset, .unset, .unset, .unset, .unset, .unset, .unset, .unset, .unset, .unset, .unset, .unset, .unset, .unset, .unset, .unset, .unset, .unset] [(.int 0)])) _
          refine XS.ifYes X0.here hx rfl (pc0 := 32) (pc' := 39) rfl (hb hby at_32) rfl ((if0 _ _).trans (teq (by decide : (0 : Int32) = (0 : Int32))).1) (by decide) (by decide) ?_
          refine XS.iconst X0.here hx rfl (hb hby at_39) ?_
          refine XS.istore X0.here hx rfl (hb hby at_40) rfl (l' := #[.val (.long q1), .second, .val (.long q2), .second, .val (.long q3), .second, .val (.int p4), .val (.int 0), .val (.int 0), .val (.int 0), .unset, .unset, .unset, .unset, .unset, .unset, .unset, .unset, .unset, .unset, .unset, .unset, .unset, .unset, .unset, .unset, .unset, .unset, .unset, .unset, .unset, .unset, .unset, .unset]) rfl ?_
          refine st10 _ ?_
          refine XS.dup X10.here hx rfl (hb hby at_45) rfl rfl ?_
          refine st11 _ ?_
          refine XS.astore X11.here hx rfl (hb hby at_49) rfl rfl (l' := #[.val (.long q1), .second, .val (.long q2), .second, .val (.long q3), .second, .val (.int p4), .val (.int 0), .val (.int 0), .val (.int 0), .val (.ref b10), .unset, .unset, .unset, .unset, .unset, .unset, .unset, .unset, .unset, .unset, .unset, .unset, .unset, .unset, .unset, .unset, .unset, .unset, .unset, .unset, .unset, .unset, .unset]) rfl ?_
          refine XS.aload X11.here hx rfl (hb hby at_51) rfl rfl ?_
          refine st130 _ ?_
          refine XS.lstore X130.here hx rfl (hb hby at_56) rfl (l' := #[.val (.long q1), .second, .val (.long q2), .second, .val (.long q3), .second, .val (.int p4), .val (.int 0), .val (.int 0), .val (.int 0), .val (.ref b10), .val (.long 288), .second, .unset, .unset, .unset, .unset, .unset, .unset, .unset, .unset, .unset, .unset, .unset, .unset, .unset, .unset, .unset, .unset, .unset, .unset, .unset, .unset, .unset]) rfl ?_
          refine XS.aload X130.here hx rfl (hb hby at_58) rfl rfl ?_
          refine XS.lloadN X130.here hx rfl (hb hby at_60) rfl ?_
          refine XS.iload X130.here hx rfl (hb hby at_61) rfl ?_
          refine st133 _ ?_
          refine XS.aload X133.here hx rfl (hb hby at_66) rfl rfl ?_
          refine st171 _ ?_
          refine XS.lstore X171.here hx rfl (hb hby at_71) rfl (l' := #[.val (.long q1), .second, .val (.long q2), .second, .val (.long q3), .second, .val (.int p4), .val (.int 0), .val (.int 0), .val (.int 0), .val (.ref b10), .val (.long 288), .second, .val (.long ((((288 : Int64) + (((0 : Int64) + q1) <<< ((0 : Int32) &&& 0x3f).toInt64)) + (0 : Int64)) + (0 : Int64))), .second, .unset, .unset, .unset, .unset, .unset, .unset, .unset, .unset, .unset, .unset, .unset, .unset, .unset, .unset, .unset, .unset, .unset, .unset, .unset]) rfl ?_
          refine XS.aload X171.here hx rfl (hb hby at_73) rfl rfl ?_
          refine XS.lloadN X171.here hx rfl (hb hby at_75) rfl ?_
          refine XS.iload X171.here hx rfl (hb hby at_76) rfl ?_
          refine st174 _ ?_
          refine XS.aload X174.here hx rfl (hb hby at_81) rfl rfl ?_
          refine st204 _ ?_
          refine XS.lstore X204.here hx rfl (hb hby at_86) rfl (l' := #[.val (.long q1), .second, .val (.long q2), .second, .val (.long q3), .second, .val (.int p4), .val (.int 0), .val (.int 0), .val (.int 0), .val (.ref b10), .val (.long 288), .second, .val (.long ((((288 : Int64) + (((0 : Int64) + q1) <<< ((0 : Int32) &&& 0x3f).toInt64)) + (0 : Int64)) + (0 : Int64))), .second, .val (.long ((((288 : Int64) + ((((0 : Int64) + q1) + q2) <<< ((0 : Int32) &&& 0x3f).toInt64)) + (0 : Int64)) + (0 : Int64))), .second, .unset, .unset, .unset, .unset, .unset, .unset, .unset, .unset, .unset, .unset, .unset, .unset, .unset, .unset, .unset, .unset, .unset]) rfl ?_
          refine XS.aload X204.here hx rfl (hb hby at_88) rfl rfl ?_
          show Steps p.tables e below (T204.setTop (mkF m 90 #[.val (.long q1), .second, .val (.long q2), .second, .val (.long q3), .second, .val (.int p4), .val (.int 0), .val (.int 0), .val (.int 0), .val (.ref b10), .val (.long 288), .second, .val (.long ((((288 : Int64) + (((0 : Int64) + q1) <<< ((0 : Int32) &&& 0x3f).toInt64)) + (0 : Int64)) + (0 : Int64))), .second, .val (.long ((((288 : Int64) + ((((0 : Int64) + q1) + q2) <<< ((0 : Int32) &&& 0x3f).toInt64)) + (0 : Int64)) + (0 : Int64))), .second, .unset, .unset, .unset, .unset, .unset, .unset, .unset, .unset, .unset, .unset, .unset, .unset, .unset, .unset, .unset, .unset, .unset] [(.ref b10)])) _
          refine XS.lload X204.here hx rfl (hb hby at_90) rfl ?_
          refine XS.iload X204.here hx rfl (hb hby at_92) rfl ?_
          refine st207 _ ?_
          refine XS.aload X207.here hx rfl (hb hby at_97) rfl rfl ?_
          refine st237 _ ?_
          refine XS.lstore X237.here hx rfl (hb hby at_102) rfl (l' := #[.val (.long q1), .second, .val (.long q2), .second, .val (.long q3), .second, .val (.int p4), .val (.int 0), .val (.int 0), .val (.int 0), .val (.ref b10), .val (.long 288), .second, .val (.long ((((288 : Int64) + (((0 : Int64) + q1) <<< ((0 : Int32) &&& 0x3f).toInt64)) + (0 : Int64)) + (0 : Int64))), .second, .val (.long ((((288 : Int64) + ((((0 : Int64) + q1) + q2) <<< ((0 : Int32) &&& 0x3f).toInt64)) + (0 : Int64)) + (0 : Int64))), .second, .val (.long ((((288 : Int64) + (((((0 : Int64) + q1) + q2) + q3) <<< ((0 : Int32) &&& 0x3f).toInt64)) + (0 : Int64)) + (0 : Int64))), .second, .unset, .unset, .unset, .unset, .unset, .unset, .unset, .unset, .unset, .unset, .unset, .unset, .unset, .unset, .unset]) rfl ?_
          refine XS.lloadN X237.here hx rfl (hb hby at_104) rfl ?_
          refine XS.lstore X237.here hx rfl (hb hby at_105) rfl (l' := #[.val (.long q1), .second, .val (.long q2), .second, .val (.long q3), .second, .val (.int p4), .val (.int 0), .val (.int 0), .val (.int 0), .val (.ref b10), .val (.long 288), .second, .val (.long ((((288 : Int64) + (((0 : Int64) + q1) <<< ((0 : Int32) &&& 0x3f).toInt64)) + (0 : Int64)) + (0 : Int64))), .second, .val (.long ((((288 : Int64) + ((((0 : Int64) + q1) + q2) <<< ((0 : Int32) &&& 0x3f).toInt64)) + (0 : Int64)) + (0 : Int64))), .second, .val (.long ((((288 : Int64) + (((((0 : Int64) + q1) + q2) + q3) <<< ((0 : Int32) &&& 0x3f).toInt64)) + (0 : Int64)) + (0 : Int64))), .second, .val (.long q1), .second, .unset, .unset, .unset, .unset, .unset, .unset, .unset, .unset, .unset, .unset, .unset, .unset, .unset]) rfl ?_
          refine XS.lloadN X237.here hx rfl (hb hby at_107) rfl ?_
          refine XS.lloadN X237.here hx rfl (hb hby at_108) rfl ?_
          refine XS.ladd X237.here hx rfl (hb hby at_109) rfl ?_
          refine XS.lstore X237.here hx rfl (hb hby at_110) rfl (l' := #[.val (.long q1), .second, .val (.long q2), .second, .val (.long q3), .second, .val (.int p4), .val (.int 0), .val (.int 0), .val (.int 0), .val (.ref b10), .val (.long 288), .second, .val (.long ((((288 : Int64) + (((0 : Int64) + q1) <<< ((0 : Int32) &&& 0x3f).toInt64)) + (0 : Int64)) + (0 : Int64))), .second, .val (.long ((((288 : Int64) + ((((0 : Int64) + q1) + q2) <<< ((0 : Int32) &&& 0x3f).toInt64)) + (0 : Int64)) + (0 : Int64))), .second, .val (.long ((((288 : Int64) + (((((0 : Int64) + q1) + q2) + q3) <<< ((0 : Int32) &&& 0x3f).toInt64)) + (0 : Int64)) + (0 : Int64))), .second, .val (.long q1), .second, .val (.long (q1 + q2)), .second, .unset, .unset, .unset, .unset, .unset, .unset, .unset, .unset, .unset, .unset, .unset]) rfl ?_
          refine XS.lloadN X237.here hx rfl (hb hby at_112) rfl ?_
          refine XS.lloadN X237.here hx rfl (hb hby at_113) rfl ?_
          refine XS.ladd X237.here hx rfl (hb hby at_114) rfl ?_
          refine XS.lload X237.here hx rfl (hb hby at_115) rfl ?_
          refine XS.ladd X237.here hx rfl (hb hby at_117) rfl ?_
          refine XS.lstore X237.here hx rfl (hb hby at_118) rfl (l' := #[.val (.long q1), .second, .val (.long q2), .second, .val (.long q3), .second, .val (.int p4), .val (.int 0), .val (.int 0), .val (.int 0), .val (.ref b10), .val (.long 288), .second, .val (.long ((((288 : Int64) + (((0 : Int64) + q1) <<< ((0 : Int32) &&& 0x3f).toInt64)) + (0 : Int64)) + (0 : Int64))), .second, .val (.long ((((288 : Int64) + ((((0 : Int64) + q1) + q2) <<< ((0 : Int32) &&& 0x3f).toInt64)) + (0 : Int64)) + (0 : Int64))), .second, .val (.long ((((288 : Int64) + (((((0 : Int64) + q1) + q2) + q3) <<< ((0 : Int32) &&& 0x3f).toInt64)) + (0 : Int64)) + (0 : Int64))), .second, .val (.long q1), .second, .val (.long (q1 + q2)), .second, .val (.long ((q1 + q2) + q3)), .second, .unset, .unset, .unset, .unset, .unset, .unset, .unset, .unset, .unset]) rfl ?_
          refine XS.iload X237.here hx rfl (hb hby at_120) rfl ?_
          refine XS.istore X237.here hx rfl (hb hby at_122) rfl (l' := #[.val (.long q1), .second, .val (.long q2), .second, .val (.long q3), .second, .val (.int p4), .val (.int 0), .val (.int 0), .val (.int 0), .val (.ref b10), .val (.long 288), .second, .val (.long ((((288 : Int64) + (((0 : Int64) + q1) <<< ((0 : Int32) &&& 0x3f).toInt64)) + (0 : Int64)) + (0 : Int64))), .second, .val (.long ((((288 : Int64) + ((((0 : Int64) + q1) + q2) <<< ((0 : Int32) &&& 0x3f).toInt64)) + (0 : Int64)) + (0 : Int64))), .second, .val (.long ((((288 : Int64) + (((((0 : Int64) + q1) + q2) + q3) <<< ((0 : Int32) &&& 0x3f).toInt64)) + (0 : Int64)) + (0 : Int64))), .second, .val (.long q1), .second, .val (.long (q1 + q2)), .second, .val (.long ((q1 + q2) + q3)), .second, .val (.int 0), .unset, .unset, .unset, .unset, .unset, .unset, .unset, .unset]) rfl ?_
          refine XS.iload X237.here hx rfl (hb hby at_124) rfl ?_
          refine XS.ifNo X237.here hx rfl (hb hby at_126) rfl ((if0 _ _).trans (teq (by decide : (0 : Int32) = (0 : Int32))).2) ?_
          refine XS.iload X237.here hx rfl (hb hby at_129) rfl ?_
          refine XS.ifYes X237.here hx rfl (pc0 := 131) (pc' := 138) rfl (hb hby at_131) rfl ((if0 _ _).trans (teq (by decide : (0 : Int32) = (0 : Int32))).1) (by decide) (by decide) ?_
          refine XS.iconst X237.here hx rfl (hb hby at_138) ?_
          refine XS.istore X237.here hx rfl (hb hby at_139) rfl (l' := #[.val (.long q1), .second, .val (.long q2), .second, .val (.long q3), .second, .val (.int p4), .val (.int 0), .val (.int 0), .val (.int 0), .val (.ref b10), .val (.long 288), .second, .val (.long ((((288 : Int64) + (((0 : Int64) + q1) <<< ((0 : Int32) &&& 0x3f).toInt64)) + (0 : Int64)) + (0 : Int64))), .second, .val (.long ((((288 : Int64) + ((((0 : Int64) + q1) + q2) <<< ((0 : Int32) &&& 0x3f).toInt64)) + (0 : Int64)) + (0 : Int64))), .second, .val (.long ((((288 : Int64) + (((((0 : Int64) + q1) + q2) + q3) <<< ((0 : Int32) &&& 0x3f).toInt64)) + (0 : Int64)) + (0 : Int64))), .second, .val (.long q1), .second, .val (.long (q1 + q2)), .second, .val (.long ((q1 + q2) + q3)), .second, .val (.int 0), .val (.int 0), .unset, .unset, .unset, .unset, .unset, .unset, .unset]) rfl ?_
          refine XS.iload X237.here hx rfl (hb hby at_141) rfl ?_
          refine XS.ifNo X237.here hx rfl (hb hby at_143) rfl ((if0 _ _).trans (teq (by decide : (0 : Int32) = (0 : Int32))).2) ?_
          refine XS.iload X237.here hx rfl (hb hby at_146) rfl ?_
          refine XS.ifNo X237.here hx rfl (hb hby at_148) rfl ((if0 _ _).trans (teq (by decide : (0 : Int32) = (0 : Int32))).2) ?_
          refine XS.iload X237.here hx rfl (hb hby at_151) rfl ?_
          refine XS.ifYes X237.here hx rfl (pc0 := 153) (pc' := 160) rfl (hb hby at_153) rfl ((if0 _ _).trans (teq (by decide : (0 : Int32) = (0 : Int32))).1) (by decide) (by decide) ?_
          refine XS.iconst X237.here hx rfl (hb hby at_160) ?_
          refine XS.istore X237.here hx rfl (hb hby at_161) rfl (l' := #[.val (.long q1), .second, .val (.long q2), .second, .val (.long q3), .second, .val (.int p4), .val (.int 0), .val (.int 0), .val (.int 0), .val (.ref b10), .val (.long 288), .second, .val (.long ((((288 : Int64) + (((0 : Int64) + q1) <<< ((0 : Int32) &&& 0x3f).toInt64)) + (0 : Int64)) + (0 : Int64))), .second, .val (.long ((((288 : Int64) + ((((0 : Int64) + q1) + q2) <<< ((0 : Int32) &&& 0x3f).toInt64)) + (0 : Int64)) + (0 : Int64))), .second, .val (.long ((((288 : Int64) + (((((0 : Int64) + q1) + q2) + q3) <<< ((0 : Int32) &&& 0x3f).toInt64)) + (0 : Int64)) + (0 : Int64))), .second, .val (.long q1), .second, .val (.long (q1 + q2)), .second, .val (.long ((q1 + q2) + q3)), .second, .val (.int 0), .val (.int 0), .val (.int 0), .unset, .unset, .unset, .unset, .unset, .unset]) rfl ?_
          refine XS.iload X237.here hx rfl (hb hby at_163) rfl ?_
          refine XS.ifYes X237.here hx rfl (pc0 := 165) (pc' := 175) rfl (hb hby at_165) rfl ((if0 _ _).trans (teq (by decide : (0 : Int32) = (0 : Int32))).1) (by decide) (by decide) ?_
          refine XS.lload X237.here hx rfl (hb hby at_175) rfl ?_
          refine XS.lstore X237.here hx rfl (hb hby at_177) rfl (l' := #[.val (.long q1), .second, .val (.long q2), .second, .val (.long q3), .second, .val (.int p4), .val (.int 0), .val (.int 0), .val (.int 0), .val (.ref b10), .val (.long 288), .second, .val (.long ((((288 : Int64) + (((0 : Int64) + q1) <<< ((0 : Int32) &&& 0x3f).toInt64)) + (0 : Int64)) + (0 : Int64))), .second, .val (.long ((((288 : Int64) + ((((0 : Int64) + q1) + q2) <<< ((0 : Int32) &&& 0x3f).toInt64)) + (0 : Int64)) + (0 : Int64))), .second, .val (.long ((((288 : Int64) + (((((0 : Int64) + q1) + q2) + q3) <<< ((0 : Int32) &&& 0x3f).toInt64)) + (0 : Int64)) + (0 : Int64))), .second, .val (.long q1), .second, .val (.long (q1 + q2)), .second, .val (.long ((q1 + q2) + q3)), .second, .val (.int 0), .val (.int 0), .val (.int 0), .val (.long q1), .second, .unset, .unset, .unset, .unset]) rfl ?_
          refine XS.iload X237.here hx rfl (hb hby at_179) rfl ?_
          refine XS.ifYes X237.here hx rfl (pc0 := 181) (pc' := 191) rfl (hb hby at_181) rfl ((if0 _ _).trans (teq (by decide : (0 : Int32) = (0 : Int32))).1) (by decide) (by decide) ?_
          show Steps p.tables e below (T237.setTop (mkF m 191 #[.val (.long q1), .second, .val (.long q2), .second, .val (.long q3), .second, .val (.int p4), .val (.int 0), .val (.int 0), .val (.int 0), .val (.ref b10), .val (.long 288), .second, .val (.long ((((288 : Int64) + (((0 : Int64) + q1) <<< ((0 : Int32) &&& 0x3f).toInt64)) + (0 : Int64)) + (0 : Int64))), .second, .val (.long ((((288 : Int64) + ((((0 : Int64) + q1) + q2) <<< ((0 : Int32) &&& 0x3f).toInt64)) + (0 : Int64)) + (0 : Int64))), .second, .val (.long ((((288 : Int64) + (((((0 : Int64) + q1) + q2) + q3) <<< ((0 : Int32) &&& 0x3f).toInt64)) + (0 : Int64)) + (0 : Int64))), .second, .val (.long q1), .second, .val (.long (q1 + q2)), .second, .val (.long ((q1 + q2) + q3)), .second, .val (.int 0), .val (.int 0), .val (.int 0), .val (.long q1), .second, .unset, .unset, .unset, .unset] [])) _
          refine XS.lload X237.here hx rfl (hb hby at_191) rfl ?_
          refine XS.lstore X237.here hx rfl (hb hby at_193) rfl (l' := #[.val (.long q1), .second, .val (.long q2), .second, .val (.long q3), .second, .val (.int p4), .val (.int 0), .val (.int 0), .val (.int 0), .val (.ref b10), .val (.long 288), .second, .val (.long ((((288 : Int64) + (((0 : Int64) + q1) <<< ((0 : Int32) &&& 0x3f).toInt64)) + (0 : Int64)) + (0 : Int64))), .second, .val (.long ((((288 : Int64) + ((((0 : Int64) + q1) + q2) <<< ((0 : Int32) &&& 0x3f).toInt64)) + (0 : Int64)) + (0 : Int64))), .second, .val (.long ((((288 : Int64) + (((((0 : Int64) + q1) + q2) + q3) <<< ((0 : Int32) &&& 0x3f).toInt64)) + (0 : Int64)) + (0 : Int64))), .second, .val (.long q1), .second, .val (.long (q1 + q2)), .second, .val (.long ((q1 + q2) + q3)), .second, .val (.int 0), .val (.int 0), .val (.int 0), .val (.long q1), .second, .val (.long (q1 + q2)), .second, .unset, .unset]) rfl ?_
          refine XS.iload X237.here hx rfl (hb hby at_195) rfl ?_
          refine XS.ifYes X237.here hx rfl (pc0 := 197) (pc' := 207) rfl (hb hby at_197) rfl ((if0 _ _).trans (teq (by decide : (0 : Int32) = (0 : Int32))).1) (by decide) (by decide) ?_
          refine XS.lload X237.here hx rfl (hb hby at_207) rfl ?_
          refine XS.lstore X237.here hx rfl (hb hby at_209) rfl (l' := #[.val (.long q1), .second, .val (.long q2), .second, .val (.long q3), .second, .val (.int p4), .val (.int 0), .val (.int 0), .val (.int 0), .val (.ref b10), .val (.long 288), .second, .val (.long ((((288 : Int64) + (((0 : Int64) + q1) <<< ((0 : Int32) &&& 0x3f).toInt64)) + (0 : Int64)) + (0 : Int64))), .second, .val (.long ((((288 : Int64) + ((((0 : Int64) + q1) + q2) <<< ((0 : Int32) &&& 0x3f).toInt64)) + (0 : Int64)) + (0 : Int64))), .second, .val (.long ((((288 : Int64) + (((((0 : Int64) + q1) + q2) + q3) <<< ((0 : Int32) &&& 0x3f).toInt64)) + (0 : Int64)) + (0 : Int64))), .second, .val (.long q1), .second, .val (.long (q1 + q2)), .second, .val (.long ((q1 + q2) + q3)), .second, .val (.int 0), .val (.int 0), .val (.int 0), .val (.long q1), .second, .val (.long (q1 + q2)), .second, .val (.long ((q1 + q2) + q3)), .second]) rfl ?_
          refine XS.lload X237.here hx rfl (hb hby at_211) rfl ?_
          refine XS.lload X237.here hx rfl (hb hby at_213) rfl ?_
          refine XS.lsub X237.here hx rfl (hb hby at_215) rfl ?_
          refine XS.lload X237.here hx rfl (hb hby at_216) rfl ?_
          refine XS.lcmp X237.here hx rfl (hb hby at_218) rfl ?_
          refine XS.ifNo X237.here hx rfl (hb hby at_219) rfl ((if0 _ _).trans (teq ((lw_eq _ _).mpr (by rw [own_h]; simp only [Int64.zero_add, own_s0] : (((((288 : Int64) + (((0 : Int64) + q1) <<< ((0 : Int32) &&& 0x3f).toInt64)) + (0 : Int64)) + (0 : Int64)) - (288 : Int64)) = q1))).2) ?_
          refine XS.lload X237.here hx rfl (hb hby at_222) rfl ?_
          refine XS.lload X237.here hx rfl (hb hby at_224) rfl ?_
          refine XS.lsub X237.here hx rfl (hb hby at_226) rfl ?_
          refine XS.lload X237.here hx rfl (hb hby at_227) rfl ?_
          refine XS.lcmp X237.here hx rfl (hb hby at_229) rfl ?_
          refine XS.ifNo X237.here hx rfl (hb hby at_230) rfl ((if0 _ _).trans (teq ((lw_eq _ _).mpr (by rw [own_h]; simp only [Int64.zero_add, own_s0] : (((((288 : Int64) + ((((0 : Int64) + q1) + q2) <<< ((0 : Int32) &&& 0x3f).toInt64)) + (0 : Int64)) + (0 : Int64)) - (288 : Int64)) = (q1 + q2)))).2) ?_
          refine XS.lload X237.here hx rfl (hb hby at_233) rfl ?_
          refine XS.lload X237.here hx rfl (hb hby at_235) rfl ?_
          refine XS.lsub X237.here hx rfl (hb hby at_237) rfl ?_
          refine XS.lload X237.here hx rfl (hb hby at_238) rfl ?_
          refine XS.lcmp X237.here hx rfl (hb hby at_240) rfl ?_
          refine XS.ifNo X237.here hx rfl (hb hby at_241) rfl ((if0 _ _).trans (teq ((lw_eq _ _).mpr (by rw [own_h]; simp only [Int64.zero_add, own_s0] : (((((288 : Int64) + (((((0 : Int64) + q1) + q2) + q3) <<< ((0 : Int32) &&& 0x3f).toInt64)) + (0 : Int64)) + (0 : Int64)) - (288 : Int64)) = ((q1 + q2) + q3)))).2) ?_
          refine XS.iconst X237.here hx rfl (hb hby at_244) ?_
          refine XS.goto X237.here hx rfl (pc0 := 245) (pc' := 249) rfl (hb hby at_245) (by decide) (by decide) ?_
          show Steps p.tables e below (T237.setTop (mkF m 249 #[.val (.long q1), .second, .val (.long q2), .second, .val (.long q3), .second, .val (.int p4), .val (.int 0), .val (.int 0), .val (.int 0), .val (.ref b10), .val (.long 288), .second, .val (.long ((((288 : Int64) + (((0 : Int64) + q1) <<< ((0 : Int32) &&& 0x3f).toInt64)) + (0 : Int64)) + (0 : Int64))), .second, .val (.long ((((288 : Int64) + ((((0 : Int64) + q1) + q2) <<< ((0 : Int32) &&& 0x3f).toInt64)) + (0 : Int64)) + (0 : Int64))), .second, .val (.long ((((288 : Int64) + (((((0 : Int64) + q1) + q2) + q3) <<< ((0 : Int32) &&& 0x3f).toInt64)) + (0 : Int64)) + (0 : Int64))), .second, .val (.long q1), .second, .val (.long (q1 + q2)), .second, .val (.long ((q1 + q2) + q3)), .second, .val (.int 0), .val (.int 0), .val (.int 0), .val (.long q1), .second, .val (.long (q1 + q2)), .second, .val (.long ((q1 + q2) + q3)), .second] [(.int 1)])) _
          exact retN X237 hx (t := .boolean) hret (by simp) (hb hby at_249) hr
        ·
          show Q0 n0 _ T237.heap _
          rw [e239]
          exact ⟨rfl, N237⟩
      ·
        obtain ⟨T240, h240, X240, e240, E240, A240, D240, -, st240⟩ := newO X0 hx hZ hown (own_w hw 0 rfl) (own_w hw 1 rfl) (own_w hw 2 rfl) e0 (g := (mkF m 42 #[.val (.long q1), .second, .val (.long q2), .second, .val (.long q3), .second, .val (.int p4), .val (.int 0), .val (.int 0), .val (.int 1), .unset, .unset, .unset, .unset, .unset, .unset, .unset, .unset, .unset, .unset, .unset, .unset, .unset, .unset, .unset, .unset, .unset, .unset, .unset, .unset, .unset, .unset, .unset, .unset] [])) rfl (hb hby at_42) (by decide) (by decide)
        obtain ⟨b240, g240⟩ : ∃ z, z = h0.size := ⟨_, rfl⟩
        rw [← g240] at A240 D240 st240
        have M240 : h0.size ≤ h240.size := Nat.le_trans (Nat.le_refl _) E240.1
        have O240 := Old.ext O0 E240
        have sz_b240 : h0.size ≤ b240 := Nat.le_of_eq g240.symm
        have g_b240 : n0 ≤ b240 := Nat.le_trans (own_oz O0) (Nat.le_trans (Nat.le_refl _) sz_b240)
        have F240_21 : Fld Z h240 b240 "com/example/mycelia/mycelia/wire/MessageTree" "elements" "Lcom/example/mycelia/mycelia/wire/MessageTree$IntRecords;" .null := D240 (Or.inr (own_w hw 21 rfl)) (ty := (.object "com/example/mycelia/mycelia/wire/MessageTree$IntRecords")) (by decide)
        have F240_23 : Fld Z h240 b240 "com/example/mycelia/mycelia/wire/MessageTree" "attributes" "Lcom/example/mycelia/mycelia/wire/MessageTree$IntRecords;" .null := D240 (Or.inr (own_w hw 23 rfl)) (ty := (.object "com/example/mycelia/mycelia/wire/MessageTree$IntRecords")) (by decide)
        have F240_45 : Fld Z h240 b240 "com/example/mycelia/mycelia/wire/MessageTree" "text" "Ljava/lang/StringBuilder;" .null := D240 (Or.inr (own_w hw 45 rfl)) (ty := (.object "java/lang/StringBuilder")) (by decide)
        have F240_47 : Fld Z h240 b240 "com/example/mycelia/mycelia/wire/MessageTree" "values" "Ljava/lang/StringBuilder;" .null := D240 (Or.inr (own_w hw 47 rfl)) (ty := (.object "java/lang/StringBuilder")) (by decide)
        have F240_73 : Fld Z h240 b240 "com/example/mycelia/mycelia/wire/MessageTree" "names" "Ljava/util/List;" .null := D240 (Or.inr (own_w hw 73 rfl)) (ty := (.object "java/util/List")) (by decide)
        have F240_91 : Fld Z h240 b240 "com/example/mycelia/mycelia/wire/MessageTree" "codes" "Ljava/util/Map;" .null := D240 (Or.inr (own_w hw 91 rfl)) (ty := (.object "java/util/Map")) (by decide)
        have F240_105 : Fld Z h240 b240 "com/example/mycelia/mycelia/wire/MessageTree" "open" "I" (.int 0) := D240 (Or.inl (own_w hw 105 rfl)) (ty := .int) (by decide)
        have F240_127 : Fld Z h240 b240 "com/example/mycelia/mycelia/wire/MessageTree" "wideText" "Z" (.int 0) := D240 (Or.inl (own_w hw 127 rfl)) (ty := .boolean) (by decide)
        have F240_129 : Fld Z h240 b240 "com/example/mycelia/mycelia/wire/MessageTree" "wideValues" "Z" (.int 0) := D240 (Or.inl (own_w hw 129 rfl)) (ty := .boolean) (by decide)
        have F240_131 : Fld Z h240 b240 "com/example/mycelia/mycelia/wire/MessageTree" "passed" "J" (.long 0) := D240 (Or.inl (own_w hw 131 rfl)) (ty := .long) (by decide)
        have F240_133 : Fld Z h240 b240 "com/example/mycelia/mycelia/wire/MessageTree" "widePassed" "Z" (.int 0) := D240 (Or.inl (own_w hw 133 rfl)) (ty := .boolean) (by decide)
        have F240_148 : Fld Z h240 b240 "com/example/mycelia/mycelia/wire/MessageTree" "deepest" "I" (.int 0) := D240 (Or.inl (own_w hw 148 rfl)) (ty := .int) (by decide)
        obtain ⟨_, T241, L241, X241, hQ241, st241⟩ := own_sb X240 hx hZ hown (y := yn9) (own_w hw 3 rfl) (own_w hw 4 rfl) (own_w hw 5 rfl) (own_w hw 2 rfl) e240 (a := b240) (argsL := []) (rest := [(.ref b240)]) (rm10 l Z a0 hw w1 w2 kw1 kw2 gi1 G [] b240 h240 n0 O240 g_b240 A240 F240_23 F240_91 F240_148 F240_21 F240_73 F240_105 F240_131 F240_45 F240_47 F240_133 F240_127 F240_129) (g := (mkF m 46 #[.val (.long q1), .second, .val (.long q2), .second, .val (.long q3), .second, .val (.int p4), .val (.int 0), .val (.int 0), .val (.int 1), .unset, .unset, .unset, .unset, .unset, .unset, .unset, .unset, .unset, .unset, .unset, .unset, .unset, .unset, .unset, .unset, .unset, .unset, .unset, .unset, .unset, .unset, .unset, .unset] [(.ref b240), (.ref b240)])) rfl (by rw [hml]; rfl) rfl (hb hby at_46) (lenOf pd0 rfl) (W := 1) (c1 := 12) (s1 := 136)
        obtain ⟨b242, b243, b244, b245, b246, b247, b248, b249, b250, b251, b252, k253, k254, k255, k256, k257, rfl, Nq258, K259, sz_b242, sz_b243, sz_b244, sz_b245, sz_b246, sz_b247, sz_b248, sz_b249, sz_b250, sz_b251, sz_b252, ne260, ne261, ne262, ne263, ne264, ne265, ne266, ne267, ne268, ne269, ne270, ne271, ne272, ne273, ne274, ne275, ne276, ne277, ne278, ne279, ne280, ne281, ne282, ne283, ne284, ne285, ne286, ne287, ne288, ne289, ne290, ne291, ne292, ne293, ne294, ne295, ne296, ne297, ne298, ne299, ne300, ne301, ne302, ne303, ne304, ne305, ne306, ne307, ne308, ne309, ne310, ne311, ne312, ne313, ne314, OV315, OV316, f317, f318, f319, f320, f321, f322, f323, f324, f325, f326, f327, f328, f329, f330, f331, f332, f333, f334, f335, f336, f337, f338, f339, f340, f341, f342, f343, f344, f345, f346, f347, f348, f349, f350, f351, f352, f353, f354, f355, f356, f357, f358, f359⟩ := hQ241
        have N241 := Fr.app N0 Nq258
        have g_b242 : n0 ≤ b242 := Nat.le_trans (own_oz O240) sz_b242
        have g_b243 : n0 ≤ b243 := Nat.le_trans (own_oz O240) sz_b243
        have g_b244 : n0 ≤ b244 := Nat.le_trans (own_oz O240) sz_b244
        have g_b245 : n0 ≤ b245 := Nat.le_trans (own_oz O240) sz_b245
        have g_b246 : n0 ≤ b246 := Nat.le_trans (own_oz O240) sz_b246
        have g_b247 : n0 ≤ b247 := Nat.le_trans (own_oz O240) sz_b247
        have g_b248 : n0 ≤ b248 := Nat.le_trans (own_oz O240) sz_b248
        have g_b249 : n0 ≤ b249 := Nat.le_trans (own_oz O240) sz_b249
        have g_b250 : n0 ≤ b250 := Nat.le_trans (own_oz O240) sz_b250
        have g_b251 : n0 ≤ b251 := Nat.le_trans (own_oz O240) sz_b251
        have g_b252 : n0 ≤ b252 := Nat.le_trans (own_oz O240) sz_b252
        have M241 : h0.size ≤ T241.heap.size := Nat.le_trans M240 K259.1
        have O241 := Old.keep O240 K259 (allS g_b240 all0)
        obtain ⟨_, T360, L360, X360, hQ360, st360⟩ := own_vb X241 hx hZ hown (y := yn15) (own_w hw 106 rfl) (own_w hw 107 rfl) (own_w hw 109 rfl) (own_w hw 108 rfl) (own_w hw 110 rfl) (own_w hw 2 rfl) rfl f317 (argsL := []) (rest := []) (rm16 l Z a0 hw [] b240 b242 b243 b244 b245 b246 b247 b248 b249 b250 b251 b252 k253 k254 k255 k256 T241.heap n0 O241 g_b240 g_b242 g_b243 g_b244 g_b245 g_b246 g_b247 g_b248 g_b249 g_b250 g_b251 g_b252 OV315 OV316 f318 f320 f321 f322 f324 f325 f326 f327 f328 f329 f330 f332 f336 f338 f340 f343 f344 f345 f346 f347 f348 f349 f354 f356) (g := (mkF m 53 #[.val (.long q1), .second, .val (.long q2), .second, .val (.long q3), .second, .val (.int p4), .val (.int 0), .val (.int 0), .val (.int 1), .val (.ref b240), .unset, .unset, .unset, .unset, .unset, .unset, .unset, .unset, .unset, .unset, .unset, .unset, .unset, .unset, .unset, .unset, .unset, .unset, .unset, .unset, .unset, .unset, .unset] [(.ref b240)])) rfl (by rw [hml]; rfl) rfl (hb hby at_53) (lenOf pd3 rfl) (W := 0) (c1 := 12) (s1 := 136)
        obtain ⟨rfl, Nq361, e362⟩ := hQ360
        have N360 := Fr.app N241 Nq361
        obtain ⟨_, T363, L363, X363, hQ363, st363⟩ := own_vb X360 hx hZ hown (y := yn16) (own_w hw 149 rfl) (own_w hw 150 rfl) (own_w hw 152 rfl) (own_w hw 151 rfl) (own_w hw 153 rfl) (own_w hw 2 rfl) e362 f317 (argsL := [(.long q1), (.int 0)]) (rest := []) (rm17 l Z a0 hw [] b240 b242 b243 b244 b245 b246 b247 b248 b249 b250 b251 b252 k253 k254 q1 T241.heap n0 O241 g_b240 g_b242 g_b243 g_b244 g_b245 g_b246 g_b247 g_b248 g_b249 g_b250 g_b251 g_b252 OV315 OV316 f317 f318 f319 f320 f321 f322 f323 f324 f325 f326 f327 f328 f329) (g := (mkF m 63 #[.val (.long q1), .second, .val (.long q2), .second, .val (.long q3), .second, .val (.int p4), .val (.int 0), .val (.int 0), .val (.int 1), .val (.ref b240), .val (.long 288), .second, .unset, .unset, .unset, .unset, .unset, .unset, .unset, .unset, .unset, .unset, .unset, .unset, .unset, .unset, .unset, .unset, .unset, .unset, .unset, .unset, .unset] [(.int 0), (.long q1), (.ref b240)])) rfl (by rw [hml]; rfl) rfl (hb hby at_63) (lenOf pd5 rfl) (W := 0) (c1 := 12) (s1 := 136)
        obtain ⟨rfl, Nq364, K365, f366, f367, f368, f369, f370, f371, f372, f373, f374, f375, f376, f377, f378⟩ := hQ363
        have N363 := Fr.app N360 Nq364
        have M363 : h0.size ≤ T363.heap.size := Nat.le_trans M241 K365.1
        have O363 := Old.keep O241 K365 (allS g_b240 all0)
        have f379 := (f330.keep K365)
        have lt380 : b240 < h240.size := A240.lt
        have ne381 : b240 ≠ b242 := Nat.ne_of_lt (Nat.lt_of_lt_of_le lt380 sz_b242)
        have f382 := (f332.keep K365 (ninS (Ne.symm ne381) nin0))
        have f383 := (f336.keep K365)
        have ne384 : b240 ≠ b244 := Nat.ne_of_lt (Nat.lt_of_lt_of_le lt380 sz_b244)
        have f385 := (f338.keep K365 (ninS (Ne.symm ne384) nin0))
        have f386 := (f340.keep K365)
        have ne387 : b240 ≠ b245 := Nat.ne_of_lt (Nat.lt_of_lt_of_le lt380 sz_b245)
        have f388 := (f343.keep K365 (ninS (Ne.symm ne387) nin0))
        have f389 := (f344.keep K365)
        have ne390 : b240 ≠ b246 := Nat.ne_of_lt (Nat.lt_of_lt_of_le lt380 sz_b246)
        have f391 := (f345.keep K365 (ninS (Ne.symm ne390) nin0))
        have f392 := (f346.keep K365 (ninS (Ne.symm ne390) nin0))
        have f393 := (f347.keep K365)
        have ne394 : b240 ≠ b247 := Nat.ne_of_lt (Nat.lt_of_lt_of_le lt380 sz_b247)
        have f395 := (f348.keep K365 (ninS (Ne.symm ne394) nin0))
        have f396 := (f349.keep K365 (ninS (Ne.symm ne394) nin0))
        have ne397 : b240 ≠ b250 := Nat.ne_of_lt (Nat.lt_of_lt_of_le lt380 sz_b250)
        have f398 := (f354.keep K365 (ninS (Ne.symm ne397) nin0))
        have ne399 : b240 ≠ b251 := Nat.ne_of_lt (Nat.lt_of_lt_of_le lt380 sz_b251)
        have f400 := (f356.keep K365 (ninS (Ne.symm ne399) nin0))
        obtain ⟨_, T401, L401, X401, hQ401, st401⟩ := own_vb X363 hx hZ hown (y := yn15) (own_w hw 106 rfl) (own_w hw 107 rfl) (own_w hw 109 rfl) (own_w hw 108 rfl) (own_w hw 110 rfl) (own_w hw 2 rfl) rfl f366 (argsL := []) (rest := []) (rm18 l Z a0 hw [] b240 b242 b243 b244 b245 b246 b247 b248 b249 b250 b251 b252 k253 k254 (((0 : Int64) + q1)) k255 k256 T363.heap n0 O363 g_b240 g_b242 g_b243 g_b244 g_b245 g_b246 g_b247 g_b248 g_b249 g_b250 g_b251 g_b252 OV315 OV316 f367 f369 f370 f371 f373 f374 f375 f376 f377 f378 f379 f382 f383 f385 f386 f388 f389 f391 f392 f393 f395 f396 f398 f400) (g := (mkF m 68 #[.val (.long q1), .second, .val (.long q2), .second, .val (.long q3), .second, .val (.int p4), .val (.int 0), .val (.int 0), .val (.int 1), .val (.ref b240), .val (.long 288), .second, .unset, .unset, .unset, .unset, .unset, .unset, .unset, .unset, .unset, .unset, .unset, .unset, .unset, .unset, .unset, .unset, .unset, .unset, .unset, .unset, .unset] [(.ref b240)])) rfl (by rw [hml]; rfl) rfl (hb hby at_68) (lenOf pd3 rfl) (W := 0) (c1 := 12) (s1 := 136)
        obtain ⟨rfl, Nq402, e403⟩ := hQ401
        have N401 := Fr.app N363 Nq402
        obtain ⟨_, T404, L404, X404, hQ404, st404⟩ := own_vb X401 hx hZ hown (y := yn16) (own_w hw 149 rfl) (own_w hw 150 rfl) (own_w hw 152 rfl) (own_w hw 151 rfl) (own_w hw 153 rfl) (own_w hw 2 rfl) e403 f366 (argsL := [(.long q2), (.int 0)]) (rest := []) (rm19 l Z a0 hw [] b240 b242 b243 b244 b245 b246 b247 b248 b249 b250 b251 b252 k253 k254 (((0 : Int64) + q1)) q2 T363.heap n0 O363 g_b240 g_b242 g_b243 g_b244 g_b245 g_b246 g_b247 g_b248 g_b249 g_b250 g_b251 g_b252 OV315 OV316 f366 f367 f368 f369 f370 f371 f372 f373 f374 f375 f376 f377 f378) (g := (mkF m 78 #[.val (.long q1), .second, .val (.long q2), .second, .val (.long q3), .second, .val (.int p4), .val (.int 0), .val (.int 0), .val (.int 1), .val (.ref b240), .val (.long 288), .second, .val (.long ((((288 : Int64) + (((0 : Int64) + q1) <<< ((0 : Int32) &&& 0x3f).toInt64)) + (0 : Int64)) + (0 : Int64))), .second, .unset, .unset, .unset, .unset, .unset, .unset, .unset, .unset, .unset, .unset, .unset, .unset, .unset, .unset, .unset, .unset, .unset, .unset, .unset] [(.int 0), (.long q2), (.ref b240)])) rfl (by rw [hml]; rfl) rfl (hb hby at_78) (lenOf pd5 rfl) (W := 0) (c1 := 12) (s1 := 136)
        obtain ⟨rfl, Nq405, K406, f407, f408, f409, f410, f411, f412, f413, f414, f415, f416, f417, f418, f419⟩ := hQ404
        have N404 := Fr.app N401 Nq405
        have M404 : h0.size ≤ T404.heap.size := Nat.le_trans M363 K406.1
        have O404 := Old.keep O363 K406 (allS g_b240 all0)
        have f420 := (f379.keep K406)
        have f421 := (f382.keep K406 (ninS (Ne.symm ne381) nin0))
        have f422 := (f383.keep K406)
        have f423 := (f385.keep K406 (ninS (Ne.symm ne384) nin0))
        have f424 := (f386.keep K406)
        have f425 := (f388.keep K406 (ninS (Ne.symm ne387) nin0))
        have f426 := (f389.keep K406)
        have f427 := (f391.keep K406 (ninS (Ne.symm ne390) nin0))
        have f428 := (f392.keep K406 (ninS (Ne.symm ne390) nin0))
        have f429 := (f393.keep K406)
        have f430 := (f395.keep K406 (ninS (Ne.symm ne394) nin0))
        have f431 := (f396.keep K406 (ninS (Ne.symm ne394) nin0))
        have f432 := (f398.keep K406 (ninS (Ne.symm ne397) nin0))
        have f433 := (f400.keep K406 (ninS (Ne.symm ne399) nin0))
        obtain ⟨_, T434, L434, X434, hQ434, st434⟩ := own_vb X404 hx hZ hown (y := yn15) (own_w hw 106 rfl) (own_w hw 107 rfl) (own_w hw 109 rfl) (own_w hw 108 rfl) (own_w hw 110 rfl) (own_w hw 2 rfl) rfl f407 (argsL := []) (rest := []) (rm18 l Z a0 hw [] b240 b242 b243 b244 b245 b246 b247 b248 b249 b250 b251 b252 k253 k254 ((((0 : Int64) + q1) + q2)) k255 k256 T404.heap n0 O404 g_b240 g_b242 g_b243 g_b244 g_b245 g_b246 g_b247 g_b248 g_b249 g_b250 g_b251 g_b252 OV315 OV316 f408 f410 f411 f412 f414 f415 f416 f417 f418 f419 f420 f421 f422 f423 f424 f425 f426 f427 f428 f429 f430 f431 f432 f433) (g := (mkF m 83 #[.val (.long q1), .second, .val (.long q2), .second, .val (.long q3), .second, .val (.int p4), .val (.int 0), .val (.int 0), .val (.int 1), .val (.ref b240), .val (.long 288), .second, .val (.long ((((288 : Int64) + (((0 : Int64) + q1) <<< ((0 : Int32) &&& 0x3f).toInt64)) + (0 : Int64)) + (0 : Int64))), .second, .unset, .unset, .unset, .unset, .unset, .unset, .unset, .unset, .unset, .unset, .unset, .unset, .unset, .unset, .unset, .unset, .unset, .unset, .unset] [(.ref b240)])) rfl (by rw [hml]; rfl) rfl (hb hby at_83) (lenOf pd3 rfl) (W := 0) (c1 := 12) (s1 := 136)
        obtain ⟨rfl, Nq435, e436⟩ := hQ434
        have N434 := Fr.app N404 Nq435
        obtain ⟨_, T437, L437, X437, hQ437, st437⟩ := own_vb X434 hx hZ hown (y := yn16) (own_w hw 149 rfl) (own_w hw 150 rfl) (own_w hw 152 rfl) (own_w hw 151 rfl) (own_w hw 153 rfl) (own_w hw 2 rfl) e436 f407 (argsL := [(.long q3), (.int 1)]) (rest := []) (rm20 l Z a0 hw [] b240 b242 b243 b244 b245 b246 b247 b248 b249 b250 b251 b252 k253 k254 ((((0 : Int64) + q1) + q2)) q3 T404.heap n0 O404 g_b240 g_b242 g_b243 g_b244 g_b245 g_b246 g_b247 g_b248 g_b249 g_b250 g_b251 g_b252 OV315 OV316 f407 f408 f409 f410 f411 f412 f413 f414 f415 f416 f417 f418 f419) (g := (mkF m 94 #[.val (.long q1), .second, .val (.long q2), .second, .val (.long q3), .second, .val (.int p4), .val (.int 0), .val (.int 0), .val (.int 1), .val (.ref b240), .val (.long 288), .second, .val (.long ((((288 : Int64) + (((0 : Int64) + q1) <<< ((0 : Int32) &&& 0x3f).toInt64)) + (0 : Int64)) + (0 : Int64))), .second, .val (.long ((((288 : Int64) + ((((0 : Int64) + q1) + q2) <<< ((0 : Int32) &&& 0x3f).toInt64)) + (0 : Int64)) + (0 : Int64))), .second, .unset, .unset, .unset, .unset, .unset, .unset, .unset, .unset, .unset, .unset, .unset, .unset, .unset, .unset, .unset, .unset, .unset] [(.int 1), (.long q3), (.ref b240)])) rfl (by rw [hml]; rfl) rfl (hb hby at_94) (lenOf pd5 rfl) (W := 0) (c1 := 12) (s1 := 136)
        obtain ⟨rfl, Nq438, K439, f440, f441, f442, f443, f444, f445, f446, f447, f448, f449, f450, f451, f452⟩ := hQ437
        have N437 := Fr.app N434 Nq438
        have M437 : h0.size ≤ T437.heap.size := Nat.le_trans M404 K439.1
        have O437 := Old.keep O404 K439 (allS g_b240 all0)
        have f453 := (f420.keep K439)
        have f454 := (f421.keep K439 (ninS (Ne.symm ne381) nin0))
        have f455 := (f422.keep K439)
        have f456 := (f423.keep K439 (ninS (Ne.symm ne384) nin0))
        have f457 := (f424.keep K439)
        have f458 := (f425.keep K439 (ninS (Ne.symm ne387) nin0))
        have f459 := (f426.keep K439)
        have f460 := (f427.keep K439 (ninS (Ne.symm ne390) nin0))
        have f461 := (f428.keep K439 (ninS (Ne.symm ne390) nin0))
        have f462 := (f429.keep K439)
        have f463 := (f430.keep K439 (ninS (Ne.symm ne394) nin0))
        have f464 := (f431.keep K439 (ninS (Ne.symm ne394) nin0))
        have f465 := (f432.keep K439 (ninS (Ne.symm ne397) nin0))
        have f466 := (f433.keep K439 (ninS (Ne.symm ne399) nin0))
        obtain ⟨_, T467, L467, X467, hQ467, st467⟩ := own_vb X437 hx hZ hown (y := yn15) (own_w hw 106 rfl) (own_w hw 107 rfl) (own_w hw 109 rfl) (own_w hw 108 rfl) (own_w hw 110 rfl) (own_w hw 2 rfl) rfl f440 (argsL := []) (rest := []) (rm21 l Z a0 hw [] b240 b242 b243 b244 b245 b246 b247 b248 b249 b250 b251 b252 k253 k254 (((((0 : Int64) + q1) + q2) + q3)) k255 k256 T437.heap n0 O437 g_b240 g_b242 g_b243 g_b244 g_b245 g_b246 g_b247 g_b248 g_b249 g_b250 g_b251 g_b252 OV315 OV316 f441 f443 f444 f445 f447 f448 f449 f450 f451 f452 f453 f454 f455 f456 f457 f458 f459 f460 f461 f462 f463 f464 f465 f466) (g := (mkF m 99 #[.val (.long q1), .second, .val (.long q2), .second, .val (.long q3), .second, .val (.int p4), .val (.int 0), .val (.int 0), .val (.int 1), .val (.ref b240), .val (.long 288), .second, .val (.long ((((288 : Int64) + (((0 : Int64) + q1) <<< ((0 : Int32) &&& 0x3f).toInt64)) + (0 : Int64)) + (0 : Int64))), .second, .val (.long ((((288 : Int64) + ((((0 : Int64) + q1) + q2) <<< ((0 : Int32) &&& 0x3f).toInt64)) + (0 : Int64)) + (0 : Int64))), .second, .unset, .unset, .unset, .unset, .unset, .unset, .unset, .unset, .unset, .unset, .unset, .unset, .unset, .unset, .unset, .unset, .unset] [(.ref b240)])) rfl (by rw [hml]; rfl) rfl (hb hby at_99) (lenOf pd3 rfl) (W := 0) (c1 := 12) (s1 := 136)
        obtain ⟨rfl, Nq468, e469⟩ := hQ467
        have N467 := Fr.app N437 Nq468
        obtain ⟨fs, hr, hrun, hended, hW, hsame⟩ := X467.leave (v := some (.int 1)) (fun h => by rw [hret] at h; cases h)
        refine ⟨_, _, pre7 _ ?_, hrun, hended, _, _, rfl, ?_, ⟨_, rfl⟩, hW, hsame.mono (by decide) (by decide)⟩
        ·
          show Steps p.tables e below (s₁.setTop (mkF m 32 #[.val (.long q1), .second, .val (.long q2), .second, .val (.long q3), .second, .val (.int p4), .val (.int 0), .val (.int 0), .unset, .unset, .unset, .unset, .unset, .unset, .unset, .unset, .unset, .unset, .unset, .unset, .unset, .unset, .unset, .unset, .unset, .unset, .unset, .unset, .unset, .unset, .unset, .unset, .unset] [(.int (p4 &&& (4 : Int32)))])) _
          refine XS.ifNo X0.here hx rfl (hb hby at_32) rfl ((if0 _ _).trans (feq hc8).1) ?_
          refine XS.iconst X0.here hx rfl (hb hby at_35) ?_
          refine XS.goto X0.here hx rfl (pc0 := 36) (pc' := 40) rfl (hb hby at_36) (by decide) (by decide) ?_
          refine XS.istore X0.here hx rfl (hb hby at_40) rfl (l' := #[.val (.long q1), .second, .val (.long q2), .second, .val (.long q3), .second, .val (.int p4), .val (.int 0), .val (.int 0), .val (.int 1), .unset, .unset, .unset, .unset, .unset, .unset, .unset, .unset, .unset, .unset, .unset, .unset, .unset, .unset, .unset, .unset, .unset, .unset, .unset, .unset, .unset, .unset, .unset, .unset]) rfl ?_
          refine st240 _ ?_
          refine XS.dup X240.here hx rfl (hb hby at_45) rfl rfl ?_
          refine st241 _ ?_
          refine XS.astore X241.here hx rfl (hb hby at_49) rfl rfl (l' := #[.val (.long q1), .second, .val (.long q2), .second, .val (.long q3), .second, .val (.int p4), .val (.int 0), .val (.int 0), .val (.int 1), .val (.ref b240), .unset, .unset, .unset, .unset, .unset, .unset, .unset, .unset, .unset, .unset, .unset, .unset, .unset, .unset, .unset, .unset, .unset, .unset, .unset, .unset, .unset, .unset, .unset]) rfl ?_
          refine XS.aload X241.here hx rfl (hb hby at_51) rfl rfl ?_
          refine st360 _ ?_
          refine XS.lstore X360.here hx rfl (hb hby at_56) rfl (l' := #[.val (.long q1), .second, .val (.long q2), .second, .val (.long q3), .second, .val (.int p4), .val (.int 0), .val (.int 0), .val (.int 1), .val (.ref b240), .val (.long 288), .second, .unset, .unset, .unset, .unset, .unset, .unset, .unset, .unset, .unset, .unset, .unset, .unset, .unset, .unset, .unset, .unset, .unset, .unset, .unset, .unset, .unset]) rfl ?_
          refine XS.aload X360.here hx rfl (hb hby at_58) rfl rfl ?_
          refine XS.lloadN X360.here hx rfl (hb hby at_60) rfl ?_
          refine XS.iload X360.here hx rfl (hb hby at_61) rfl ?_
          refine st363 _ ?_
          refine XS.aload X363.here hx rfl (hb hby at_66) rfl rfl ?_
          refine st401 _ ?_
          refine XS.lstore X401.here hx rfl (hb hby at_71) rfl (l' := #[.val (.long q1), .second, .val (.long q2), .second, .val (.long q3), .second, .val (.int p4), .val (.int 0), .val (.int 0), .val (.int 1), .val (.ref b240), .val (.long 288), .second, .val (.long ((((288 : Int64) + (((0 : Int64) + q1) <<< ((0 : Int32) &&& 0x3f).toInt64)) + (0 : Int64)) + (0 : Int64))), .second, .unset, .unset, .unset, .unset, .unset, .unset, .unset, .unset, .unset, .unset, .unset, .unset, .unset, .unset, .unset, .unset, .unset, .unset, .unset]) rfl ?_
          refine XS.aload X401.here hx rfl (hb hby at_73) rfl rfl ?_
          refine XS.lloadN X401.here hx rfl (hb hby at_75) rfl ?_
          refine XS.iload X401.here hx rfl (hb hby at_76) rfl ?_
          refine st404 _ ?_
          refine XS.aload X404.here hx rfl (hb hby at_81) rfl rfl ?_
          refine st434 _ ?_
          refine XS.lstore X434.here hx rfl (hb hby at_86) rfl (l' := #[.val (.long q1), .second, .val (.long q2), .second, .val (.long q3), .second, .val (.int p4), .val (.int 0), .val (.int 0), .val (.int 1), .val (.ref b240), .val (.long 288), .second, .val (.long ((((288 : Int64) + (((0 : Int64) + q1) <<< ((0 : Int32) &&& 0x3f).toInt64)) + (0 : Int64)) + (0 : Int64))), .second, .val (.long ((((288 : Int64) + ((((0 : Int64) + q1) + q2) <<< ((0 : Int32) &&& 0x3f).toInt64)) + (0 : Int64)) + (0 : Int64))), .second, .unset, .unset, .unset, .unset, .unset, .unset, .unset, .unset, .unset, .unset, .unset, .unset, .unset, .unset, .unset, .unset, .unset]) rfl ?_
          show Steps p.tables e below (T434.setTop (mkF m 88 #[.val (.long q1), .second, .val (.long q2), .second, .val (.long q3), .second, .val (.int p4), .val (.int 0), .val (.int 0), .val (.int 1), .val (.ref b240), .val (.long 288), .second, .val (.long ((((288 : Int64) + (((0 : Int64) + q1) <<< ((0 : Int32) &&& 0x3f).toInt64)) + (0 : Int64)) + (0 : Int64))), .second, .val (.long ((((288 : Int64) + ((((0 : Int64) + q1) + q2) <<< ((0 : Int32) &&& 0x3f).toInt64)) + (0 : Int64)) + (0 : Int64))), .second, .unset, .unset, .unset, .unset, .unset, .unset, .unset, .unset, .unset, .unset, .unset, .unset, .unset, .unset, .unset, .unset, .unset] [])) _
          refine XS.aload X434.here hx rfl (hb hby at_88) rfl rfl ?_
          refine XS.lload X434.here hx rfl (hb hby at_90) rfl ?_
          refine XS.iload X434.here hx rfl (hb hby at_92) rfl ?_
          refine st437 _ ?_
          refine XS.aload X437.here hx rfl (hb hby at_97) rfl rfl ?_
          refine st467 _ ?_
          refine XS.lstore X467.here hx rfl (hb hby at_102) rfl (l' := #[.val (.long q1), .second, .val (.long q2), .second, .val (.long q3), .second, .val (.int p4), .val (.int 0), .val (.int 0), .val (.int 1), .val (.ref b240), .val (.long 288), .second, .val (.long ((((288 : Int64) + (((0 : Int64) + q1) <<< ((0 : Int32) &&& 0x3f).toInt64)) + (0 : Int64)) + (0 : Int64))), .second, .val (.long ((((288 : Int64) + ((((0 : Int64) + q1) + q2) <<< ((0 : Int32) &&& 0x3f).toInt64)) + (0 : Int64)) + (0 : Int64))), .second, .val (.long ((((288 : Int64) + (((((0 : Int64) + q1) + q2) + q3) <<< ((1 : Int32) &&& 0x3f).toInt64)) + (0 : Int64)) + (0 : Int64))), .second, .unset, .unset, .unset, .unset, .unset, .unset, .unset, .unset, .unset, .unset, .unset, .unset, .unset, .unset, .unset]) rfl ?_
          refine XS.lloadN X467.here hx rfl (hb hby at_104) rfl ?_
          refine XS.lstore X467.here hx rfl (hb hby at_105) rfl (l' := #[.val (.long q1), .second, .val (.long q2), .second, .val (.long q3), .second, .val (.int p4), .val (.int 0), .val (.int 0), .val (.int 1), .val (.ref b240), .val (.long 288), .second, .val (.long ((((288 : Int64) + (((0 : Int64) + q1) <<< ((0 : Int32) &&& 0x3f).toInt64)) + (0 : Int64)) + (0 : Int64))), .second, .val (.long ((((288 : Int64) + ((((0 : Int64) + q1) + q2) <<< ((0 : Int32) &&& 0x3f).toInt64)) + (0 : Int64)) + (0 : Int64))), .second, .val (.long ((((288 : Int64) + (((((0 : Int64) + q1) + q2) + q3) <<< ((1 : Int32) &&& 0x3f).toInt64)) + (0 : Int64)) + (0 : Int64))), .second, .val (.long q1), .second, .unset, .unset, .unset, .unset, .unset, .unset, .unset, .unset, .unset, .unset, .unset, .unset, .unset]) rfl ?_
          refine XS.lloadN X467.here hx rfl (hb hby at_107) rfl ?_
          refine XS.lloadN X467.here hx rfl (hb hby at_108) rfl ?_
          refine XS.ladd X467.here hx rfl (hb hby at_109) rfl ?_
          refine XS.lstore X467.here hx rfl (hb hby at_110) rfl (l' := #[.val (.long q1), .second, .val (.long q2), .second, .val (.long q3), .second, .val (.int p4), .val (.int 0), .val (.int 0), .val (.int 1), .val (.ref b240), .val (.long 288), .second, .val (.long ((((288 : Int64) + (((0 : Int64) + q1) <<< ((0 : Int32) &&& 0x3f).toInt64)) + (0 : Int64)) + (0 : Int64))), .second, .val (.long ((((288 : Int64) + ((((0 : Int64) + q1) + q2) <<< ((0 : Int32) &&& 0x3f).toInt64)) + (0 : Int64)) + (0 : Int64))), .second, .val (.long ((((288 : Int64) + (((((0 : Int64) + q1) + q2) + q3) <<< ((1 : Int32) &&& 0x3f).toInt64)) + (0 : Int64)) + (0 : Int64))), .second, .val (.long q1), .second, .val (.long (q1 + q2)), .second, .unset, .unset, .unset, .unset, .unset, .unset, .unset, .unset, .unset, .unset, .unset]) rfl ?_
          refine XS.lloadN X467.here hx rfl (hb hby at_112) rfl ?_
          refine XS.lloadN X467.here hx rfl (hb hby at_113) rfl ?_
          refine XS.ladd X467.here hx rfl (hb hby at_114) rfl ?_
          refine XS.lload X467.here hx rfl (hb hby at_115) rfl ?_
          refine XS.ladd X467.here hx rfl (hb hby at_117) rfl ?_
          refine XS.lstore X467.here hx rfl (hb hby at_118) rfl (l' := #[.val (.long q1), .second, .val (.long q2), .second, .val (.long q3), .second, .val (.int p4), .val (.int 0), .val (.int 0), .val (.int 1), .val (.ref b240), .val (.long 288), .second, .val (.long ((((288 : Int64) + (((0 : Int64) + q1) <<< ((0 : Int32) &&& 0x3f).toInt64)) + (0 : Int64)) + (0 : Int64))), .second, .val (.long ((((288 : Int64) + ((((0 : Int64) + q1) + q2) <<< ((0 : Int32) &&& 0x3f).toInt64)) + (0 : Int64)) + (0 : Int64))), .second, .val (.long ((((288 : Int64) + (((((0 : Int64) + q1) + q2) + q3) <<< ((1 : Int32) &&& 0x3f).toInt64)) + (0 : Int64)) + (0 : Int64))), .second, .val (.long q1), .second, .val (.long (q1 + q2)), .second, .val (.long ((q1 + q2) + q3)), .second, .unset, .unset, .unset, .unset, .unset, .unset, .unset, .unset, .unset]) rfl ?_
          refine XS.iload X467.here hx rfl (hb hby at_120) rfl ?_
          refine XS.istore X467.here hx rfl (hb hby at_122) rfl (l' := #[.val (.long q1), .second, .val (.long q2), .second, .val (.long q3), .second, .val (.int p4), .val (.int 0), .val (.int 0), .val (.int 1), .val (.ref b240), .val (.long 288), .second, .val (.long ((((288 : Int64) + (((0 : Int64) + q1) <<< ((0 : Int32) &&& 0x3f).toInt64)) + (0 : Int64)) + (0 : Int64))), .second, .val (.long ((((288 : Int64) + ((((0 : Int64) + q1) + q2) <<< ((0 : Int32) &&& 0x3f).toInt64)) + (0 : Int64)) + (0 : Int64))), .second, .val (.long ((((288 : Int64) + (((((0 : Int64) + q1) + q2) + q3) <<< ((1 : Int32) &&& 0x3f).toInt64)) + (0 : Int64)) + (0 : Int64))), .second, .val (.long q1), .second, .val (.long (q1 + q2)), .second, .val (.long ((q1 + q2) + q3)), .second, .val (.int 0), .unset, .unset, .unset, .unset, .unset, .unset, .unset, .unset]) rfl ?_
          refine XS.iload X467.here hx rfl (hb hby at_124) rfl ?_
          refine XS.ifNo X467.here hx rfl (hb hby at_126) rfl ((if0 _ _).trans (teq (by decide : (0 : Int32) = (0 : Int32))).2) ?_
          refine XS.iload X467.here hx rfl (hb hby at_129) rfl ?_
          refine XS.ifYes X467.here hx rfl (pc0 := 131) (pc' := 138) rfl (hb hby at_131) rfl ((if0 _ _).trans (teq (by decide : (0 : Int32) = (0 : Int32))).1) (by decide) (by decide) ?_
          refine XS.iconst X467.here hx rfl (hb hby at_138) ?_
          refine XS.istore X467.here hx rfl (hb hby at_139) rfl (l' := #[.val (.long q1), .second, .val (.long q2), .second, .val (.long q3), .second, .val (.int p4), .val (.int 0), .val (.int 0), .val (.int 1), .val (.ref b240), .val (.long 288), .second, .val (.long ((((288 : Int64) + (((0 : Int64) + q1) <<< ((0 : Int32) &&& 0x3f).toInt64)) + (0 : Int64)) + (0 : Int64))), .second, .val (.long ((((288 : Int64) + ((((0 : Int64) + q1) + q2) <<< ((0 : Int32) &&& 0x3f).toInt64)) + (0 : Int64)) + (0 : Int64))), .second, .val (.long ((((288 : Int64) + (((((0 : Int64) + q1) + q2) + q3) <<< ((1 : Int32) &&& 0x3f).toInt64)) + (0 : Int64)) + (0 : Int64))), .second, .val (.long q1), .second, .val (.long (q1 + q2)), .second, .val (.long ((q1 + q2) + q3)), .second, .val (.int 0), .val (.int 0), .unset, .unset, .unset, .unset, .unset, .unset, .unset]) rfl ?_
          refine XS.iload X467.here hx rfl (hb hby at_141) rfl ?_
          refine XS.ifNo X467.here hx rfl (hb hby at_143) rfl ((if0 _ _).trans (teq (by decide : (0 : Int32) = (0 : Int32))).2) ?_
          refine XS.iload X467.here hx rfl (hb hby at_146) rfl ?_
          refine XS.ifNo X467.here hx rfl (hb hby at_148) rfl ((if0 _ _).trans (teq (by decide : (0 : Int32) = (0 : Int32))).2) ?_
          refine XS.iload X467.here hx rfl (hb hby at_151) rfl ?_
          refine XS.ifNo X467.here hx rfl (hb hby at_153) rfl ((if0 _ _).trans (feq (by decide : ¬ ((1 : Int32) = (0 : Int32)))).1) ?_
          refine XS.iconst X467.here hx rfl (hb hby at_156) ?_
          refine XS.goto X467.here hx rfl (pc0 := 157) (pc' := 161) rfl (hb hby at_157) (by decide) (by decide) ?_
          refine XS.istore X467.here hx rfl (hb hby at_161) rfl (l' := #[.val (.long q1), .second, .val (.long q2), .second, .val (.long q3), .second, .val (.int p4), .val (.int 0), .val (.int 0), .val (.int 1), .val (.ref b240), .val (.long 288), .second, .val (.long ((((288 : Int64) + (((0 : Int64) + q1) <<< ((0 : Int32) &&& 0x3f).toInt64)) + (0 : Int64)) + (0 : Int64))), .second, .val (.long ((((288 : Int64) + ((((0 : Int64) + q1) + q2) <<< ((0 : Int32) &&& 0x3f).toInt64)) + (0 : Int64)) + (0 : Int64))), .second, .val (.long ((((288 : Int64) + (((((0 : Int64) + q1) + q2) + q3) <<< ((1 : Int32) &&& 0x3f).toInt64)) + (0 : Int64)) + (0 : Int64))), .second, .val (.long q1), .second, .val (.long (q1 + q2)), .second, .val (.long ((q1 + q2) + q3)), .second, .val (.int 0), .val (.int 0), .val (.int 1), .unset, .unset, .unset, .unset, .unset, .unset]) rfl ?_
          refine XS.iload X467.here hx rfl (hb hby at_163) rfl ?_
          refine XS.ifYes X467.here hx rfl (pc0 := 165) (pc' := 175) rfl (hb hby at_165) rfl ((if0 _ _).trans (teq (by decide : (0 : Int32) = (0 : Int32))).1) (by decide) (by decide) ?_
          refine XS.lload X467.here hx rfl (hb hby at_175) rfl ?_
          refine XS.lstore X467.here hx rfl (hb hby at_177) rfl (l' := #[.val (.long q1), .second, .val (.long q2), .second, .val (.long q3), .second, .val (.int p4), .val (.int 0), .val (.int 0), .val (.int 1), .val (.ref b240), .val (.long 288), .second, .val (.long ((((288 : Int64) + (((0 : Int64) + q1) <<< ((0 : Int32) &&& 0x3f).toInt64)) + (0 : Int64)) + (0 : Int64))), .second, .val (.long ((((288 : Int64) + ((((0 : Int64) + q1) + q2) <<< ((0 : Int32) &&& 0x3f).toInt64)) + (0 : Int64)) + (0 : Int64))), .second, .val (.long ((((288 : Int64) + (((((0 : Int64) + q1) + q2) + q3) <<< ((1 : Int32) &&& 0x3f).toInt64)) + (0 : Int64)) + (0 : Int64))), .second, .val (.long q1), .second, .val (.long (q1 + q2)), .second, .val (.long ((q1 + q2) + q3)), .second, .val (.int 0), .val (.int 0), .val (.int 1), .val (.long q1), .second, .unset, .unset, .unset, .unset]) rfl ?_
          show Steps p.tables e below (T467.setTop (mkF m 179 #[.val (.long q1), .second, .val (.long q2), .second, .val (.long q3), .second, .val (.int p4), .val (.int 0), .val (.int 0), .val (.int 1), .val (.ref b240), .val (.long 288), .second, .val (.long ((((288 : Int64) + (((0 : Int64) + q1) <<< ((0 : Int32) &&& 0x3f).toInt64)) + (0 : Int64)) + (0 : Int64))), .second, .val (.long ((((288 : Int64) + ((((0 : Int64) + q1) + q2) <<< ((0 : Int32) &&& 0x3f).toInt64)) + (0 : Int64)) + (0 : Int64))), .second, .val (.long ((((288 : Int64) + (((((0 : Int64) + q1) + q2) + q3) <<< ((1 : Int32) &&& 0x3f).toInt64)) + (0 : Int64)) + (0 : Int64))), .second, .val (.long q1), .second, .val (.long (q1 + q2)), .second, .val (.long ((q1 + q2) + q3)), .second, .val (.int 0), .val (.int 0), .val (.int 1), .val (.long q1), .second, .unset, .unset, .unset, .unset] [])) _
          refine XS.iload X467.here hx rfl (hb hby at_179) rfl ?_
          refine XS.ifYes X467.here hx rfl (pc0 := 181) (pc' := 191) rfl (hb hby at_181) rfl ((if0 _ _).trans (teq (by decide : (0 : Int32) = (0 : Int32))).1) (by decide) (by decide) ?_
          refine XS.lload X467.here hx rfl (hb hby at_191) rfl ?_
          refine XS.lstore X467.here hx rfl (hb hby at_193) rfl (l' := #[.val (.long q1), .second, .val (.long q2), .second, .val (.long q3), .second, .val (.int p4), .val (.int 0), .val (.int 0), .val (.int 1), .val (.ref b240), .val (.long 288), .second, .val (.long ((((288 : Int64) + (((0 : Int64) + q1) <<< ((0 : Int32) &&& 0x3f).toInt64)) + (0 : Int64)) + (0 : Int64))), .second, .val (.long ((((288 : Int64) + ((((0 : Int64) + q1) + q2) <<< ((0 : Int32) &&& 0x3f).toInt64)) + (0 : Int64)) + (0 : Int64))), .second, .val (.long ((((288 : Int64) + (((((0 : Int64) + q1) + q2) + q3) <<< ((1 : Int32) &&& 0x3f).toInt64)) + (0 : Int64)) + (0 : Int64))), .second, .val (.long q1), .second, .val (.long (q1 + q2)), .second, .val (.long ((q1 + q2) + q3)), .second, .val (.int 0), .val (.int 0), .val (.int 1), .val (.long q1), .second, .val (.long (q1 + q2)), .second, .unset, .unset]) rfl ?_
          refine XS.iload X467.here hx rfl (hb hby at_195) rfl ?_
          refine XS.ifNo X467.here hx rfl (hb hby at_197) rfl ((if0 _ _).trans (feq (by decide : ¬ ((1 : Int32) = (0 : Int32)))).1) ?_
          refine XS.lload X467.here hx rfl (hb hby at_200) rfl ?_
          refine XS.iconst X467.here hx rfl (hb hby at_202) ?_
          refine XS.lshl X467.here hx rfl (hb hby at_203) rfl ?_
          refine XS.goto X467.here hx rfl (pc0 := 204) (pc' := 209) rfl (hb hby at_204) (by decide) (by decide) ?_
          refine XS.lstore X467.here hx rfl (hb hby at_209) rfl (l' := #[.val (.long q1), .second, .val (.long q2), .second, .val (.long q3), .second, .val (.int p4), .val (.int 0), .val (.int 0), .val (.int 1), .val (.ref b240), .val (.long 288), .second, .val (.long ((((288 : Int64) + (((0 : Int64) + q1) <<< ((0 : Int32) &&& 0x3f).toInt64)) + (0 : Int64)) + (0 : Int64))), .second, .val (.long ((((288 : Int64) + ((((0 : Int64) + q1) + q2) <<< ((0 : Int32) &&& 0x3f).toInt64)) + (0 : Int64)) + (0 : Int64))), .second, .val (.long ((((288 : Int64) + (((((0 : Int64) + q1) + q2) + q3) <<< ((1 : Int32) &&& 0x3f).toInt64)) + (0 : Int64)) + (0 : Int64))), .second, .val (.long q1), .second, .val (.long (q1 + q2)), .second, .val (.long ((q1 + q2) + q3)), .second, .val (.int 0), .val (.int 0), .val (.int 1), .val (.long q1), .second, .val (.long (q1 + q2)), .second, .val (.long (((q1 + q2) + q3) <<< ((1 : Int32) &&& 0x3f).toInt64)), .second]) rfl ?_
          refine XS.lload X467.here hx rfl (hb hby at_211) rfl ?_
          refine XS.lload X467.here hx rfl (hb hby at_213) rfl ?_
          refine XS.lsub X467.here hx rfl (hb hby at_215) rfl ?_
          refine XS.lload X467.here hx rfl (hb hby at_216) rfl ?_
          refine XS.lcmp X467.here hx rfl (hb hby at_218) rfl ?_
          refine XS.ifNo X467.here hx rfl (hb hby at_219) rfl ((if0 _ _).trans (teq ((lw_eq _ _).mpr (by rw [own_h]; simp only [Int64.zero_add, own_s0] : (((((288 : Int64) + (((0 : Int64) + q1) <<< ((0 : Int32) &&& 0x3f).toInt64)) + (0 : Int64)) + (0 : Int64)) - (288 : Int64)) = q1))).2) ?_
          refine XS.lload X467.here hx rfl (hb hby at_222) rfl ?_
          refine XS.lload X467.here hx rfl (hb hby at_224) rfl ?_
          refine XS.lsub X467.here hx rfl (hb hby at_226) rfl ?_
          refine XS.lload X467.here hx rfl (hb hby at_227) rfl ?_
          refine XS.lcmp X467.here hx rfl (hb hby at_229) rfl ?_
          refine XS.ifNo X467.here hx rfl (hb hby at_230) rfl ((if0 _ _).trans (teq ((lw_eq _ _).mpr (by rw [own_h]; simp only [Int64.zero_add, own_s0] : (((((288 : Int64) + ((((0 : Int64) + q1) + q2) <<< ((0 : Int32) &&& 0x3f).toInt64)) + (0 : Int64)) + (0 : Int64)) - (288 : Int64)) = (q1 + q2)))).2) ?_
          refine XS.lload X467.here hx rfl (hb hby at_233) rfl ?_
          refine XS.lload X467.here hx rfl (hb hby at_235) rfl ?_
          refine XS.lsub X467.here hx rfl (hb hby at_237) rfl ?_
          refine XS.lload X467.here hx rfl (hb hby at_238) rfl ?_
          refine XS.lcmp X467.here hx rfl (hb hby at_240) rfl ?_
          refine XS.ifNo X467.here hx rfl (hb hby at_241) rfl ((if0 _ _).trans (teq ((lw_eq _ _).mpr (by rw [own_h]; simp only [Int64.zero_add, own_s0] : (((((288 : Int64) + (((((0 : Int64) + q1) + q2) + q3) <<< ((1 : Int32) &&& 0x3f).toInt64)) + (0 : Int64)) + (0 : Int64)) - (288 : Int64)) = (((q1 + q2) + q3) <<< ((1 : Int32) &&& 0x3f).toInt64)))).2) ?_
          refine XS.iconst X467.here hx rfl (hb hby at_244) ?_
          refine XS.goto X467.here hx rfl (pc0 := 245) (pc' := 249) rfl (hb hby at_245) (by decide) (by decide) ?_
          show Steps p.tables e below (T467.setTop (mkF m 249 #[.val (.long q1), .second, .val (.long q2), .second, .val (.long q3), .second, .val (.int p4), .val (.int 0), .val (.int 0), .val (.int 1), .val (.ref b240), .val (.long 288), .second, .val (.long ((((288 : Int64) + (((0 : Int64) + q1) <<< ((0 : Int32) &&& 0x3f).toInt64)) + (0 : Int64)) + (0 : Int64))), .second, .val (.long ((((288 : Int64) + ((((0 : Int64) + q1) + q2) <<< ((0 : Int32) &&& 0x3f).toInt64)) + (0 : Int64)) + (0 : Int64))), .second, .val (.long ((((288 : Int64) + (((((0 : Int64) + q1) + q2) + q3) <<< ((1 : Int32) &&& 0x3f).toInt64)) + (0 : Int64)) + (0 : Int64))), .second, .val (.long q1), .second, .val (.long (q1 + q2)), .second, .val (.long ((q1 + q2) + q3)), .second, .val (.int 0), .val (.int 0), .val (.int 1), .val (.long q1), .second, .val (.long (q1 + q2)), .second, .val (.long (((q1 + q2) + q3) <<< ((1 : Int32) &&& 0x3f).toInt64)), .second] [(.int 1)])) _
          exact retN X467 hx (t := .boolean) hret (by simp) (hb hby at_249) hr
        ·
          show Q0 n0 _ T467.heap _
          rw [e469]
          exact ⟨rfl, N467⟩
    ·
      have pre470 : ∀ t, Steps p.tables e below (s₁.setTop (mkF m 32 #[.val (.long q1), .second, .val (.long q2), .second, .val (.long q3), .second, .val (.int p4), .val (.int 0), .val (.int 1), .unset, .unset, .unset, .unset, .unset, .unset, .unset, .unset, .unset, .unset, .unset, .unset, .unset, .unset, .unset, .unset, .unset, .unset, .unset, .unset, .unset, .unset, .unset, .unset, .unset] [(.int (p4 &&& (4 : Int32)))])) t → Steps p.tables e below (s₁.setTop (entryFrame m #[(.long q1), (.long q2), (.long q3), (.int p4)] maxLocals)) t := fun t k => by
        refine pre4 _ ?_
        show Steps p.tables e below (s₁.setTop (mkF m 18 #[.val (.long q1), .second, .val (.long q2), .second, .val (.long q3), .second, .val (.int p4), .val (.int 0), .unset, .unset, .unset, .unset, .unset, .unset, .unset, .unset, .unset, .unset, .unset, .unset, .unset, .unset, .unset, .unset, .unset, .unset, .unset, .unset, .unset, .unset, .unset, .unset, .unset, .unset] [(.int (p4 &&& (2 : Int32)))])) _
        refine XS.ifNo X0.here hx rfl (hb hby at_18) rfl ((if0 _ _).trans (feq hc5).1) ?_
        refine XS.iconst X0.here hx rfl (hb hby at_21) ?_
        refine XS.goto X0.here hx rfl (pc0 := 22) (pc' := 26) rfl (hb hby at_22) (by decide) (by decide) ?_
        refine XS.istore X0.here hx rfl (hb hby at_26) rfl (l' := #[.val (.long q1), .second, .val (.long q2), .second, .val (.long q3), .second, .val (.int p4), .val (.int 0), .val (.int 1), .unset, .unset, .unset, .unset, .unset, .unset, .unset, .unset, .unset, .unset, .unset, .unset, .unset, .unset, .unset, .unset, .unset, .unset, .unset, .unset, .unset, .unset, .unset, .unset, .unset]) rfl ?_
        refine XS.iload X0.here hx rfl (hb hby at_28) rfl ?_
        refine XS.iconst X0.here hx rfl (hb hby at_30) ?_
        refine XS.iand X0.here hx rfl (hb hby at_31) rfl ?_
        exact k
      by_cases hc471 : (p4 &&& (4 : Int32)) = (0 : Int32)
      ·
        have pre472 : ∀ t, Steps p.tables e below (s₁.setTop (mkF m 32 #[.val (.long q1), .second, .val (.long q2), .second, .val (.long q3), .second, .val (.int p4), .val (.int 0), .val (.int 1), .unset, .unset, .unset, .unset, .unset, .unset, .unset, .unset, .unset, .unset, .unset, .unset, .unset, .unset, .unset, .unset, .unset, .unset, .unset, .unset, .unset, .unset, .unset, .unset, .unset] [(.int 0)])) t → Steps p.tables e below (s₁.setTop (entryFrame m #[(.long q1), (.long q2), (.long q3), (.int p4)] maxLocals)) t := fun t k => pre470 t (by rw [hc471]; exact k)
        obtain ⟨T473, h473, X473, e473, E473, A473, D473, -, st473⟩ := newO X0 hx hZ hown (own_w hw 0 rfl) (own_w hw 1 rfl) (own_w hw 2 rfl) e0 (g := (mkF m 42 #[.val (.long q1), .second, .val (.long q2), .second, .val (.long q3), .second, .val (.int p4), .val (.int 0), .val (.int 1), .val (.int 0), .unset, .unset, .unset, .unset, .unset, .unset, .unset, .unset, .unset, .unset, .unset, .unset, .unset, .unset, .unset, .unset, .unset, .unset, .unset, .unset, .unset, .unset, .unset, .unset] [])) rfl (hb hby at_42) (by decide) (by decide)
        obtain ⟨b473, g473⟩ : ∃ z, z = h0.size := ⟨_, rfl⟩
        rw [← g473] at A473 D473 st473
        have M473 : h0.size ≤ h473.size := Nat.le_trans (Nat.le_refl _) E473.1
        have O473 := Old.ext O0 E473
        have sz_b473 : h0.size ≤ b473 := Nat.le_of_eq g473.symm
        have g_b473 : n0 ≤ b473 := Nat.le_trans (own_oz O0) (Nat.le_trans (Nat.le_refl _) sz_b473)
        have F473_21 : Fld Z h473 b473 "com/example/mycelia/mycelia/wire/MessageTree" "elements" "Lcom/example/mycelia/mycelia/wire/MessageTree$IntRecords;" .null := D473 (Or.inr (own_w hw 21 rfl)) (ty := (.object "com/example/mycelia/mycelia/wire/MessageTree$IntRecords")) (by decide)
        have F473_23 : Fld Z h473 b473 "com/example/mycelia/mycelia/wire/MessageTree" "attributes" "Lcom/example/mycelia/mycelia/wire/MessageTree$IntRecords;" .null := D473 (Or.inr (own_w hw 23 rfl)) (ty := (.object "com/example/mycelia/mycelia/wire/MessageTree$IntRecords")) (by decide)
        have F473_45 : Fld Z h473 b473 "com/example/mycelia/mycelia/wire/MessageTree" "text" "Ljava/lang/StringBuilder;" .null := D473 (Or.inr (own_w hw 45 rfl)) (ty := (.object "java/lang/StringBuilder")) (by decide)
        have F473_47 : Fld Z h473 b473 "com/example/mycelia/mycelia/wire/MessageTree" "values" "Ljava/lang/StringBuilder;" .null := D473 (Or.inr (own_w hw 47 rfl)) (ty := (.object "java/lang/StringBuilder")) (by decide)
        have F473_73 : Fld Z h473 b473 "com/example/mycelia/mycelia/wire/MessageTree" "names" "Ljava/util/List;" .null := D473 (Or.inr (own_w hw 73 rfl)) (ty := (.object "java/util/List")) (by decide)
        have F473_91 : Fld Z h473 b473 "com/example/mycelia/mycelia/wire/MessageTree" "codes" "Ljava/util/Map;" .null := D473 (Or.inr (own_w hw 91 rfl)) (ty := (.object "java/util/Map")) (by decide)
        have F473_105 : Fld Z h473 b473 "com/example/mycelia/mycelia/wire/MessageTree" "open" "I" (.int 0) := D473 (Or.inl (own_w hw 105 rfl)) (ty := .int) (by decide)
        have F473_127 : Fld Z h473 b473 "com/example/mycelia/mycelia/wire/MessageTree" "wideText" "Z" (.int 0) := D473 (Or.inl (own_w hw 127 rfl)) (ty := .boolean) (by decide)
        have F473_129 : Fld Z h473 b473 "com/example/mycelia/mycelia/wire/MessageTree" "wideValues" "Z" (.int 0) := D473 (Or.inl (own_w hw 129 rfl)) (ty := .boolean) (by decide)
        have F473_131 : Fld Z h473 b473 "com/example/mycelia/mycelia/wire/MessageTree" "passed" "J" (.long 0) := D473 (Or.inl (own_w hw 131 rfl)) (ty := .long) (by decide)
        have F473_133 : Fld Z h473 b473 "com/example/mycelia/mycelia/wire/MessageTree" "widePassed" "Z" (.int 0) := D473 (Or.inl (own_w hw 133 rfl)) (ty := .boolean) (by decide)
        have F473_148 : Fld Z h473 b473 "com/example/mycelia/mycelia/wire/MessageTree" "deepest" "I" (.int 0) := D473 (Or.inl (own_w hw 148 rfl)) (ty := .int) (by decide)
        obtain ⟨_, T474, L474, X474, hQ474, st474⟩ := own_sb X473 hx hZ hown (y := yn9) (own_w hw 3 rfl) (own_w hw 4 rfl) (own_w hw 5 rfl) (own_w hw 2 rfl) e473 (a := b473) (argsL := []) (rest := [(.ref b473)]) (rm10 l Z a0 hw w1 w2 kw1 kw2 gi1 G [] b473 h473 n0 O473 g_b473 A473 F473_23 F473_91 F473_148 F473_21 F473_73 F473_105 F473_131 F473_45 F473_47 F473_133 F473_127 F473_129) (g := (mkF m 46 #[.val (.long q1), .second, .val (.long q2), .second, .val (.long q3), .second, .val (.int p4), .val (.int 0), .val (.int 1), .val (.int 0), .unset, .unset, .unset, .unset, .unset, .unset, .unset, .unset, .unset, .unset, .unset, .unset, .unset, .unset, .unset, .unset, .unset, .unset, .unset, .unset, .unset, .unset, .unset, .unset] [(.ref b473), (.ref b473)])) rfl (by rw [hml]; rfl) rfl (hb hby at_46) (lenOf pd0 rfl) (W := 1) (c1 := 12) (s1 := 136)
        obtain ⟨b475, b476, b477, b478, b479, b480, b481, b482, b483, b484, b485, k486, k487, k488, k489, k490, rfl, Nq491, K492, sz_b475, sz_b476, sz_b477, sz_b478, sz_b479, sz_b480, sz_b481, sz_b482, sz_b483, sz_b484, sz_b485, ne493, ne494, ne495, ne496, ne497, ne498, ne499, ne500, ne501, ne502, ne503, ne504, ne505, ne506, ne507, ne508, ne509, ne510, ne511, ne512, ne513, ne514, ne515, ne516, ne517, ne518, ne519, ne520, ne521, ne522, ne523, ne524, ne525, ne526, ne527, ne528, ne529, ne530, ne531, ne532, ne533, ne534, ne535, ne536, ne537, ne538, ne539, ne540, ne541, ne542, ne543, ne544, ne545, ne546, ne547, OV548, OV549, f550, f551, f552, f553, f554, f555, f556, f557, f558, f559, f560, f561, f562, f563, f564, f565, f566, f567, f568, f569, f570, f571, f572, f573, f574, f575, f576, f577, f578, f579, f580, f581, f582, f583, f584, f585, f586, f587, f588, f589, f590, f591, f592⟩ := hQ474
        have N474 := Fr.app N0 Nq491
        have g_b475 : n0 ≤ b475 := Nat.le_trans (own_oz O473) sz_b475
        have g_b476 : n0 ≤ b476 := Nat.le_trans (own_oz O473) sz_b476
        have g_b477 : n0 ≤ b477 := Nat.le_trans (own_oz O473) sz_b477
        have g_b478 : n0 ≤ b478 := Nat.le_trans (own_oz O473) sz_b478
        have g_b479 : n0 ≤ b479 := Nat.le_trans (own_oz O473) sz_b479
        have g_b480 : n0 ≤ b480 := Nat.le_trans (own_oz O473) sz_b480
        have g_b481 : n0 ≤ b481 := Nat.le_trans (own_oz O473) sz_b481
        have g_b482 : n0 ≤ b482 := Nat.le_trans (own_oz O473) sz_b482
        have g_b483 : n0 ≤ b483 := Nat.le_trans (own_oz O473) sz_b483
        have g_b484 : n0 ≤ b484 := Nat.le_trans (own_oz O473) sz_b484
        have g_b485 : n0 ≤ b485 := Nat.le_trans (own_oz O473) sz_b485
        have M474 : h0.size ≤ T474.heap.size := Nat.le_trans M473 K492.1
        have O474 := Old.keep O473 K492 (allS g_b473 all0)
        obtain ⟨_, T593, L593, X593, hQ593, st593⟩ := own_vb X474 hx hZ hown (y := yn15) (own_w hw 106 rfl) (own_w hw 107 rfl) (own_w hw 109 rfl) (own_w hw 108 rfl) (own_w hw 110 rfl) (own_w hw 2 rfl) rfl f550 (argsL := []) (rest := []) (rm16 l Z a0 hw [] b473 b475 b476 b477 b478 b479 b480 b481 b482 b483 b484 b485 k486 k487 k488 k489 T474.heap n0 O474 g_b473 g_b475 g_b476 g_b477 g_b478 g_b479 g_b480 g_b481 g_b482 g_b483 g_b484 g_b485 OV548 OV549 f551 f553 f554 f555 f557 f558 f559 f560 f561 f562 f563 f565 f569 f571 f573 f576 f577 f578 f579 f580 f581 f582 f587 f589) (g := (mkF m 53 #[.val (.long q1), .second, .val (.long q2), .second, .val (.long q3), .second, .val (.int p4), .val (.int 0), .val (.int 1), .val (.int 0), .val (.ref b473), .unset, .unset, .unset, .unset, .unset, .unset, .unset, .unset, .unset, .unset, .unset, .unset, .unset, .unset, .unset, .unset, .unset, .unset, .unset, .unset, .unset, .unset, .unset] [(.ref b473)])) rfl (by rw [hml]; rfl) rfl (hb hby at_53) (lenOf pd3 rfl) (W := 0) (c1 := 12) (s1 := 136)
        obtain ⟨rfl, Nq594, e595⟩ := hQ593
        have N593 := Fr.app N474 Nq594
        obtain ⟨_, T596, L596, X596, hQ596, st596⟩ := own_vb X593 hx hZ hown (y := yn16) (own_w hw 149 rfl) (own_w hw 150 rfl) (own_w hw 152 rfl) (own_w hw 151 rfl) (own_w hw 153 rfl) (own_w hw 2 rfl) e595 f550 (argsL := [(.long q1), (.int 0)]) (rest := []) (rm17 l Z a0 hw [] b473 b475 b476 b477 b478 b479 b480 b481 b482 b483 b484 b485 k486 k487 q1 T474.heap n0 O474 g_b473 g_b475 g_b476 g_b477 g_b478 g_b479 g_b480 g_b481 g_b482 g_b483 g_b484 g_b485 OV548 OV549 f550 f551 f552 f553 f554 f555 f556 f557 f558 f559 f560 f561 f562) (g := (mkF m 63 #[.val (.long q1), .second, .val (.long q2), .second, .val (.long q3), .second, .val (.int p4), .val (.int 0), .val (.int 1), .val (.int 0), .val (.ref b473), .val (.long 288), .second, .unset, .unset, .unset, .unset, .unset, .unset, .unset, .unset, .unset, .unset, .unset, .unset, .unset, .unset, .unset, .unset, .unset, .unset, .unset, .unset, .unset] [(.int 0), (.long q1), (.ref b473)])) rfl (by rw [hml]; rfl) rfl (hb hby at_63) (lenOf pd5 rfl) (W := 0) (c1 := 12) (s1 := 136)
        obtain ⟨rfl, Nq597, K598, f599, f600, f601, f602, f603, f604, f605, f606, f607, f608, f609, f610, f611⟩ := hQ596
        have N596 := Fr.app N593 Nq597
        have M596 : h0.size ≤ T596.heap.size := Nat.le_trans M474 K598.1
        have O596 := Old.keep O474 K598 (allS g_b473 all0)
        have f612 := (f563.keep K598)
        have lt613 : b473 < h473.size := A473.lt
        have ne614 : b473 ≠ b475 := Nat.ne_of_lt (Nat.lt_of_lt_of_le lt613 sz_b475)
        have f615 := (f565.keep K598 (ninS (Ne.symm ne614) nin0))
        have f616 := (f569.keep K598)
        have ne617 : b473 ≠ b477 := Nat.ne_of_lt (Nat.lt_of_lt_of_le lt613 sz_b477)
        have f618 := (f571.keep K598 (ninS (Ne.symm ne617) nin0))
        have f619 := (f573.keep K598)
        have ne620 : b473 ≠ b478 := Nat.ne_of_lt (Nat.lt_of_lt_of_le lt613 sz_b478)
        have f621 := (f576.keep K598 (ninS (Ne.symm ne620) nin0))
        have f622 := (f577.keep K598)
        have ne623 : b473 ≠ b479 := Nat.ne_of_lt (Nat.lt_of_lt_of_le lt613 sz_b479)
        have f624 := (f578.keep K598 (ninS (Ne.symm ne623) nin0))
        have f625 := (f579.keep K598 (ninS (Ne.symm ne623) nin0))
        have f626 := (f580.keep K598)
        have ne627 : b473 ≠ b480 := Nat.ne_of_lt (Nat.lt_of_lt_of_le lt613 sz_b480)
        have f628 := (f581.keep K598 (ninS (Ne.symm ne627) nin0))
        have f629 := (f582.keep K598 (ninS (Ne.symm ne627) nin0))
        have ne630 : b473 ≠ b483 := Nat.ne_of_lt (Nat.lt_of_lt_of_le lt613 sz_b483)
        have f631 := (f587.keep K598 (ninS (Ne.symm ne630) nin0))
        have ne632 : b473 ≠ b484 := Nat.ne_of_lt (Nat.lt_of_lt_of_le lt613 sz_b484)
        have f633 := (f589.keep K598 (ninS (Ne.symm ne632) nin0))
        obtain ⟨_, T634, L634, X634, hQ634, st634⟩ := own_vb X596 hx hZ hown (y := yn15) (own_w hw 106 rfl) (own_w hw 107 rfl) (own_w hw 109 rfl) (own_w hw 108 rfl) (own_w hw 110 rfl) (own_w hw 2 rfl) rfl f599 (argsL := []) (rest := []) (rm18 l Z a0 hw [] b473 b475 b476 b477 b478 b479 b480 b481 b482 b483 b484 b485 k486 k487 (((0 : Int64) + q1)) k488 k489 T596.heap n0 O596 g_b473 g_b475 g_b476 g_b477 g_b478 g_b479 g_b480 g_b481 g_b482 g_b483 g_b484 g_b485 OV548 OV549 f600 f602 f603 f604 f606 f607 f608 f609 f610 f611 f612 f615 f616 f618 f619 f621 f622 f624 f625 f626 f628 f629 f631 f633) (g := (mkF m 68 #[.val (.long q1), .second, .val (.long q2), .second, .val (.long q3), .second, .val (.int p4), .val (.int 0), .val (.int 1), .val (.int 0), .val (.ref b473), .val (.long 288), .second, .unset, .unset, .unset, .unset, .unset, .unset, .unset, .unset, .unset, .unset, .unset, .unset, .unset, .unset, .unset, .unset, .unset, .unset, .unset, .unset, .unset] [(.ref b473)])) rfl (by rw [hml]; rfl) rfl (hb hby at_68) (lenOf pd3 rfl) (W := 0) (c1 := 12) (s1 := 136)
        obtain ⟨rfl, Nq635, e636⟩ := hQ634
        have N634 := Fr.app N596 Nq635
        obtain ⟨_, T637, L637, X637, hQ637, st637⟩ := own_vb X634 hx hZ hown (y := yn16) (own_w hw 149 rfl) (own_w hw 150 rfl) (own_w hw 152 rfl) (own_w hw 151 rfl) (own_w hw 153 rfl) (own_w hw 2 rfl) e636 f599 (argsL := [(.long q2), (.int 1)]) (rest := []) (rm20 l Z a0 hw [] b473 b475 b476 b477 b478 b479 b480 b481 b482 b483 b484 b485 k486 k487 (((0 : Int64) + q1)) q2 T596.heap n0 O596 g_b473 g_b475 g_b476 g_b477 g_b478 g_b479 g_b480 g_b481 g_b482 g_b483 g_b484 g_b485 OV548 OV549 f599 f600 f601 f602 f603 f604 f605 f606 f607 f608 f609 f610 f611) (g := (mkF m 78 #[.val (.long q1), .second, .val (.long q2), .second, .val (.long q3), .second, .val (.int p4), .val (.int 0), .val (.int 1), .val (.int 0), .val (.ref b473), .val (.long 288), .second, .val (.long ((((288 : Int64) + (((0 : Int64) + q1) <<< ((0 : Int32) &&& 0x3f).toInt64)) + (0 : Int64)) + (0 : Int64))), .second, .unset, .unset, .unset, .unset, .unset, .unset, .unset, .unset, .unset, .unset, .unset, .unset, .unset, .unset, .unset, .unset, .unset, .unset, .unset] [(.int 1), (.long q2), (.ref b473)])) rfl (by rw [hml]; rfl) rfl (hb hby at_78) (lenOf pd5 rfl) (W := 0) (c1 := 12) (s1 := 136)
        obtain ⟨rfl, Nq638, K639, f640, f641, f642, f643, f644, f645, f646, f647, f648, f649, f650, f651, f652⟩ := hQ637
        have N637 := Fr.app N634 Nq638
        have M637 : h0.size ≤ T637.heap.size := Nat.le_trans M596 K639.1
        have O637 := Old.keep O596 K639 (allS g_b473 all0)
        have f653 := (f612.keep K639)
        have f654 := (f615.keep K639 (ninS (Ne.symm ne614) nin0))
        have f655 := (f616.keep K639)
        have f656 := (f618.keep K639 (ninS (Ne.symm ne617) nin0))
        have f657 := (f619.keep K639)
        have f658 := (f621.keep K639 (ninS (Ne.symm ne620) nin0))
        have f659 := (f622.keep K639)
        have f660 := (f624.keep K639 (ninS (Ne.symm ne623) nin0))
        have f661 := (f625.keep K639 (ninS (Ne.symm ne623) nin0))
        have f662 := (f626.keep K639)
        have f663 := (f628.keep K639 (ninS (Ne.symm ne627) nin0))
        have f664 := (f629.keep K639 (ninS (Ne.symm ne627) nin0))
        have f665 := (f631.keep K639 (ninS (Ne.symm ne630) nin0))
        have f666 := (f633.keep K639 (ninS (Ne.symm ne632) nin0))
        obtain ⟨_, T667, L667, X667, hQ667, st667⟩ := own_vb X637 hx hZ hown (y := yn15) (own_w hw 106 rfl) (own_w hw 107 rfl) (own_w hw 109 rfl) (own_w hw 108 rfl) (own_w hw 110 rfl) (own_w hw 2 rfl) rfl f640 (argsL := []) (rest := []) (rm21 l Z a0 hw [] b473 b475 b476 b477 b478 b479 b480 b481 b482 b483 b484 b485 k486 k487 ((((0 : Int64) + q1) + q2)) k488 k489 T637.heap n0 O637 g_b473 g_b475 g_b476 g_b477 g_b478 g_b479 g_b480 g_b481 g_b482 g_b483 g_b484 g_b485 OV548 OV549 f641 f643 f644 f645 f647 f648 f649 f650 f651 f652 f653 f654 f655 f656 f657 f658 f659 f660 f661 f662 f663 f664 f665 f666) (g := (mkF m 83 #[.val (.long q1), .second, .val (.long q2), .second, .val (.long q3), .second, .val (.int p4), .val (.int 0), .val (.int 1), .val (.int 0), .val (.ref b473), .val (.long 288), .second, .val (.long ((((288 : Int64) + (((0 : Int64) + q1) <<< ((0 : Int32) &&& 0x3f).toInt64)) + (0 : Int64)) + (0 : Int64))), .second, .unset, .unset, .unset, .unset, .unset, .unset, .unset, .unset, .unset, .unset, .unset, .unset, .unset, .unset, .unset, .unset, .unset, .unset, .unset] [(.ref b473)])) rfl (by rw [hml]; rfl) rfl (hb hby at_83) (lenOf pd3 rfl) (W := 0) (c1 := 12) (s1 := 136)
        obtain ⟨rfl, Nq668, e669⟩ := hQ667
        have N667 := Fr.app N637 Nq668
        obtain ⟨_, T670, L670, X670, hQ670, st670⟩ := own_vb X667 hx hZ hown (y := yn16) (own_w hw 149 rfl) (own_w hw 150 rfl) (own_w hw 152 rfl) (own_w hw 151 rfl) (own_w hw 153 rfl) (own_w hw 2 rfl) e669 f640 (argsL := [(.long q3), (.int 0)]) (rest := []) (rm22 l Z a0 hw [] b473 b475 b476 b477 b478 b479 b480 b481 b482 b483 b484 b485 k486 k487 ((((0 : Int64) + q1) + q2)) q3 T637.heap n0 O637 g_b473 g_b475 g_b476 g_b477 g_b478 g_b479 g_b480 g_b481 g_b482 g_b483 g_b484 g_b485 OV548 OV549 f640 f641 f642 f643 f644 f645 f646 f647 f648 f649 f650 f651 f652) (g := (mkF m 94 #[.val (.long q1), .second, .val (.long q2), .second, .val (.long q3), .second, .val (.int p4), .val (.int 0), .val (.int 1), .val (.int 0), .val (.ref b473), .val (.long 288), .second, .val (.long ((((288 : Int64) + (((0 : Int64) + q1) <<< ((0 : Int32) &&& 0x3f).toInt64)) + (0 : Int64)) + (0 : Int64))), .second, .val (.long ((((288 : Int64) + ((((0 : Int64) + q1) + q2) <<< ((1 : Int32) &&& 0x3f).toInt64)) + (0 : Int64)) + (0 : Int64))), .second, .unset, .unset, .unset, .unset, .unset, .unset, .unset, .unset, .unset, .unset, .unset, .unset, .unset, .unset, .unset, .unset, .unset] [(.int 0), (.long q3), (.ref b473)])) rfl (by rw [hml]; rfl) rfl (hb hby at_94) (lenOf pd5 rfl) (W := 0) (c1 := 12) (s1 := 136)
        obtain ⟨rfl, Nq671, K672, f673, f674, f675, f676, f677, f678, f679, f680, f681, f682, f683, f684, f685⟩ := hQ670
        have N670 := Fr.app N667 Nq671
        have M670 : h0.size ≤ T670.heap.size := Nat.le_trans M637 K672.1
        have O670 := Old.keep O637 K672 (allS g_b473 all0)
        have f686 := (f653.keep K672)
        have f687 := (f654.keep K672 (ninS (Ne.symm ne614) nin0))
        have f688 := (f655.keep K672)
        have f689 := (f656.keep K672 (ninS (Ne.symm ne617) nin0))
        have f690 := (f657.keep K672)
        have f691 := (f658.keep K672 (ninS (Ne.symm ne620) nin0))
        have f692 := (f659.keep K672)
        have f693 := (f660.keep K672 (ninS (Ne.symm ne623) nin0))
        have f694 := (f661.keep K672 (ninS (Ne.symm ne623) nin0))
        have f695 := (f662.keep K672)
        have f696 := (f663.keep K672 (ninS (Ne.symm ne627) nin0))
        have f697 := (f664.keep K672 (ninS (Ne.symm ne627) nin0))
        have f698 := (f665.keep K672 (ninS (Ne.symm ne630) nin0))
        have f699 := (f666.keep K672 (ninS (Ne.symm ne632) nin0))
        obtain ⟨_, T700, L700, X700, hQ700, st700⟩ := own_vb X670 hx hZ hown (y := yn15) (own_w hw 106 rfl) (own_w hw 107 rfl) (own_w hw 109 rfl) (own_w hw 108 rfl) (own_w hw 110 rfl) (own_w hw 2 rfl) rfl f673 (argsL := []) (rest := []) (rm21 l Z a0 hw [] b473 b475 b476 b477 b478 b479 b480 b481 b482 b483 b484 b485 k486 k487 (((((0 : Int64) + q1) + q2) + q3)) k488 k489 T670.heap n0 O670 g_b473 g_b475 g_b476 g_b477 g_b478 g_b479 g_b480 g_b481 g_b482 g_b483 g_b484 g_b485 OV548 OV549 f674 f676 f677 f678 f680 f681 f682 f683 f684 f685 f686 f687 f688 f689 f690 f691 f692 f693 f694 f695 f696 f697 f698 f699) (g := (mkF m 99 #[.val (.long q1), .second, .val (.long q2), .second, .val (.long q3), .second, .val (.int p4), .val (.int 0), .val (.int 1), .val (.int 0), .val (.ref b473), .val (.long 288), .second, .val (.long ((((288 : Int64) + (((0 : Int64) + q1) <<< ((0 : Int32) &&& 0x3f).toInt64)) + (0 : Int64)) + (0 : Int64))), .second, .val (.long ((((288 : Int64) + ((((0 : Int64) + q1) + q2) <<< ((1 : Int32) &&& 0x3f).toInt64)) + (0 : Int64)) + (0 : Int64))), .second, .unset, .unset, .unset, .unset, .unset, .unset, .unset, .unset, .unset, .unset, .unset, .unset, .unset, .unset, .unset, .unset, .unset] [(.ref b473)])) rfl (by rw [hml]; rfl) rfl (hb hby at_99) (lenOf pd3 rfl) (W := 0) (c1 := 12) (s1 := 136)
        obtain ⟨rfl, Nq701, e702⟩ := hQ700
        have N700 := Fr.app N670 Nq701
        obtain ⟨fs, hr, hrun, hended, hW, hsame⟩ := X700.leave (v := some (.int 1)) (fun h => by rw [hret] at h; cases h)
        refine ⟨_, _, pre472 _ ?_, hrun, hended, _, _, rfl, ?_, ⟨_, rfl⟩, hW, hsame.mono (by decide) (by decide)⟩
        ·
          show Steps p.tables e below (s₁.setTop (mkF m 32 #[.val (.long q1), .second, .val (.long q2), .second, .val (.long q3), .second, .val (.int p4), .val (.int 0), .val (.int 1), .unset, .unset, .unset, .unset, .unset, .unset, .unset, .unset, .unset, .unset, .unset, .unset, .unset, .unset, .unset, .unset, .unset, .unset, .unset, .unset, .unset, .unset, .unset, .unset, .unset] [(.int 0)])) _
          refine XS.ifYes X0.here hx rfl (pc0 := 32) (pc' := 39) rfl (hb hby at_32) rfl ((if0 _ _).trans (teq (by decide : (0 : Int32) = (0 : Int32))).1) (by decide) (by decide) ?_
          refine XS.iconst X0.here hx rfl (hb hby at_39) ?_
          refine XS.istore X0.here hx rfl (hb hby at_40) rfl (l' := #[.val (.long q1), .second, .val (.long q2), .second, .val (.long q3), .second, .val (.int p4), .val (.int 0), .val (.int 1), .val (.int 0), .unset, .unset, .unset, .unset, .unset, .unset, .unset, .unset, .unset, .unset, .unset, .unset, .unset, .unset, .unset, .unset, .unset, .unset, .unset, .unset, .unset, .unset, .unset, .unset]) rfl ?_
          refine st473 _ ?_
          refine XS.dup X473.here hx rfl (hb hby at_45) rfl rfl ?_
          refine st474 _ ?_
          refine XS.astore X474.here hx rfl (hb hby at_49) rfl rfl (l' := #[.val (.long q1), .second, .val (.long q2), .second, .val (.long q3), .second, .val (.int p4), .val (.int 0), .val (.int 1), .val (.int 0), .val (.ref b473), .unset, .unset, .unset, .unset, .unset, .unset, .unset, .unset, .unset, .unset, .unset, .unset, .unset, .unset, .unset, .unset, .unset, .unset, .unset, .unset, .unset, .unset, .unset]) rfl ?_
          refine XS.aload X474.here hx rfl (hb hby at_51) rfl rfl ?_
          refine st593 _ ?_
          refine XS.lstore X593.here hx rfl (hb hby at_56) rfl (l' := #[.val (.long q1), .second, .val (.long q2), .second, .val (.long q3), .second, .val (.int p4), .val (.int 0), .val (.int 1), .val (.int 0), .val (.ref b473), .val (.long 288), .second, .unset, .unset, .unset, .unset, .unset, .unset, .unset, .unset, .unset, .unset, .unset, .unset, .unset, .unset, .unset, .unset, .unset, .unset, .unset, .unset, .unset]) rfl ?_
          refine XS.aload X593.here hx rfl (hb hby at_58) rfl rfl ?_
          refine XS.lloadN X593.here hx rfl (hb hby at_60) rfl ?_
          refine XS.iload X593.here hx rfl (hb hby at_61) rfl ?_
          refine st596 _ ?_
          refine XS.aload X596.here hx rfl (hb hby at_66) rfl rfl ?_
          refine st634 _ ?_
          refine XS.lstore X634.here hx rfl (hb hby at_71) rfl (l' := #[.val (.long q1), .second, .val (.long q2), .second, .val (.long q3), .second, .val (.int p4), .val (.int 0), .val (.int 1), .val (.int 0), .val (.ref b473), .val (.long 288), .second, .val (.long ((((288 : Int64) + (((0 : Int64) + q1) <<< ((0 : Int32) &&& 0x3f).toInt64)) + (0 : Int64)) + (0 : Int64))), .second, .unset, .unset, .unset, .unset, .unset, .unset, .unset, .unset, .unset, .unset, .unset, .unset, .unset, .unset, .unset, .unset, .unset, .unset, .unset]) rfl ?_
          refine XS.aload X634.here hx rfl (hb hby at_73) rfl rfl ?_
          refine XS.lloadN X634.here hx rfl (hb hby at_75) rfl ?_
          refine XS.iload X634.here hx rfl (hb hby at_76) rfl ?_
          refine st637 _ ?_
          refine XS.aload X637.here hx rfl (hb hby at_81) rfl rfl ?_
          refine st667 _ ?_
          refine XS.lstore X667.here hx rfl (hb hby at_86) rfl (l' := #[.val (.long q1), .second, .val (.long q2), .second, .val (.long q3), .second, .val (.int p4), .val (.int 0), .val (.int 1), .val (.int 0), .val (.ref b473), .val (.long 288), .second, .val (.long ((((288 : Int64) + (((0 : Int64) + q1) <<< ((0 : Int32) &&& 0x3f).toInt64)) + (0 : Int64)) + (0 : Int64))), .second, .val (.long ((((288 : Int64) + ((((0 : Int64) + q1) + q2) <<< ((1 : Int32) &&& 0x3f).toInt64)) + (0 : Int64)) + (0 : Int64))), .second, .unset, .unset, .unset, .unset, .unset, .unset, .unset, .unset, .unset, .unset, .unset, .unset, .unset, .unset, .unset, .unset, .unset]) rfl ?_
          show Steps p.tables e below (T667.setTop (mkF m 88 #[.val (.long q1), .second, .val (.long q2), .second, .val (.long q3), .second, .val (.int p4), .val (.int 0), .val (.int 1), .val (.int 0), .val (.ref b473), .val (.long 288), .second, .val (.long ((((288 : Int64) + (((0 : Int64) + q1) <<< ((0 : Int32) &&& 0x3f).toInt64)) + (0 : Int64)) + (0 : Int64))), .second, .val (.long ((((288 : Int64) + ((((0 : Int64) + q1) + q2) <<< ((1 : Int32) &&& 0x3f).toInt64)) + (0 : Int64)) + (0 : Int64))), .second, .unset, .unset, .unset, .unset, .unset, .unset, .unset, .unset, .unset, .unset, .unset, .unset, .unset, .unset, .unset, .unset, .unset] [])) _
          refine XS.aload X667.here hx rfl (hb hby at_88) rfl rfl ?_
          refine XS.lload X667.here hx rfl (hb hby at_90) rfl ?_
          refine XS.iload X667.here hx rfl (hb hby at_92) rfl ?_
          refine st670 _ ?_
          refine XS.aload X670.here hx rfl (hb hby at_97) rfl rfl ?_
          refine st700 _ ?_
          refine XS.lstore X700.here hx rfl (hb hby at_102) rfl (l' := #[.val (.long q1), .second, .val (.long q2), .second, .val (.long q3), .second, .val (.int p4), .val (.int 0), .val (.int 1), .val (.int 0), .val (.ref b473), .val (.long 288), .second, .val (.long ((((288 : Int64) + (((0 : Int64) + q1) <<< ((0 : Int32) &&& 0x3f).toInt64)) + (0 : Int64)) + (0 : Int64))), .second, .val (.long ((((288 : Int64) + ((((0 : Int64) + q1) + q2) <<< ((1 : Int32) &&& 0x3f).toInt64)) + (0 : Int64)) + (0 : Int64))), .second, .val (.long ((((288 : Int64) + (((((0 : Int64) + q1) + q2) + q3) <<< ((1 : Int32) &&& 0x3f).toInt64)) + (0 : Int64)) + (0 : Int64))), .second, .unset, .unset, .unset, .unset, .unset, .unset, .unset, .unset, .unset, .unset, .unset, .unset, .unset, .unset, .unset]) rfl ?_
          refine XS.lloadN X700.here hx rfl (hb hby at_104) rfl ?_
          refine XS.lstore X700.here hx rfl (hb hby at_105) rfl (l' := #[.val (.long q1), .second, .val (.long q2), .second, .val (.long q3), .second, .val (.int p4), .val (.int 0), .val (.int 1), .val (.int 0), .val (.ref b473), .val (.long 288), .second, .val (.long ((((288 : Int64) + (((0 : Int64) + q1) <<< ((0 : Int32) &&& 0x3f).toInt64)) + (0 : Int64)) + (0 : Int64))), .second, .val (.long ((((288 : Int64) + ((((0 : Int64) + q1) + q2) <<< ((1 : Int32) &&& 0x3f).toInt64)) + (0 : Int64)) + (0 : Int64))), .second, .val (.long ((((288 : Int64) + (((((0 : Int64) + q1) + q2) + q3) <<< ((1 : Int32) &&& 0x3f).toInt64)) + (0 : Int64)) + (0 : Int64))), .second, .val (.long q1), .second, .unset, .unset, .unset, .unset, .unset, .unset, .unset, .unset, .unset, .unset, .unset, .unset, .unset]) rfl ?_
          refine XS.lloadN X700.here hx rfl (hb hby at_107) rfl ?_
          refine XS.lloadN X700.here hx rfl (hb hby at_108) rfl ?_
          refine XS.ladd X700.here hx rfl (hb hby at_109) rfl ?_
          refine XS.lstore X700.here hx rfl (hb hby at_110) rfl (l' := #[.val (.long q1), .second, .val (.long q2), .second, .val (.long q3), .second, .val (.int p4), .val (.int 0), .val (.int 1), .val (.int 0), .val (.ref b473), .val (.long 288), .second, .val (.long ((((288 : Int64) + (((0 : Int64) + q1) <<< ((0 : Int32) &&& 0x3f).toInt64)) + (0 : Int64)) + (0 : Int64))), .second, .val (.long ((((288 : Int64) + ((((0 : Int64) + q1) + q2) <<< ((1 : Int32) &&& 0x3f).toInt64)) + (0 : Int64)) + (0 : Int64))), .second, .val (.long ((((288 : Int64) + (((((0 : Int64) + q1) + q2) + q3) <<< ((1 : Int32) &&& 0x3f).toInt64)) + (0 : Int64)) + (0 : Int64))), .second, .val (.long q1), .second, .val (.long (q1 + q2)), .second, .unset, .unset, .unset, .unset, .unset, .unset, .unset, .unset, .unset, .unset, .unset]) rfl ?_
          refine XS.lloadN X700.here hx rfl (hb hby at_112) rfl ?_
          refine XS.lloadN X700.here hx rfl (hb hby at_113) rfl ?_
          refine XS.ladd X700.here hx rfl (hb hby at_114) rfl ?_
          refine XS.lload X700.here hx rfl (hb hby at_115) rfl ?_
          refine XS.ladd X700.here hx rfl (hb hby at_117) rfl ?_
          refine XS.lstore X700.here hx rfl (hb hby at_118) rfl (l' := #[.val (.long q1), .second, .val (.long q2), .second, .val (.long q3), .second, .val (.int p4), .val (.int 0), .val (.int 1), .val (.int 0), .val (.ref b473), .val (.long 288), .second, .val (.long ((((288 : Int64) + (((0 : Int64) + q1) <<< ((0 : Int32) &&& 0x3f).toInt64)) + (0 : Int64)) + (0 : Int64))), .second, .val (.long ((((288 : Int64) + ((((0 : Int64) + q1) + q2) <<< ((1 : Int32) &&& 0x3f).toInt64)) + (0 : Int64)) + (0 : Int64))), .second, .val (.long ((((288 : Int64) + (((((0 : Int64) + q1) + q2) + q3) <<< ((1 : Int32) &&& 0x3f).toInt64)) + (0 : Int64)) + (0 : Int64))), .second, .val (.long q1), .second, .val (.long (q1 + q2)), .second, .val (.long ((q1 + q2) + q3)), .second, .unset, .unset, .unset, .unset, .unset, .unset, .unset, .unset, .unset]) rfl ?_
          refine XS.iload X700.here hx rfl (hb hby at_120) rfl ?_
          refine XS.istore X700.here hx rfl (hb hby at_122) rfl (l' := #[.val (.long q1), .second, .val (.long q2), .second, .val (.long q3), .second, .val (.int p4), .val (.int 0), .val (.int 1), .val (.int 0), .val (.ref b473), .val (.long 288), .second, .val (.long ((((288 : Int64) + (((0 : Int64) + q1) <<< ((0 : Int32) &&& 0x3f).toInt64)) + (0 : Int64)) + (0 : Int64))), .second, .val (.long ((((288 : Int64) + ((((0 : Int64) + q1) + q2) <<< ((1 : Int32) &&& 0x3f).toInt64)) + (0 : Int64)) + (0 : Int64))), .second, .val (.long ((((288 : Int64) + (((((0 : Int64) + q1) + q2) + q3) <<< ((1 : Int32) &&& 0x3f).toInt64)) + (0 : Int64)) + (0 : Int64))), .second, .val (.long q1), .second, .val (.long (q1 + q2)), .second, .val (.long ((q1 + q2) + q3)), .second, .val (.int 0), .unset, .unset, .unset, .unset, .unset, .unset, .unset, .unset]) rfl ?_
          refine XS.iload X700.here hx rfl (hb hby at_124) rfl ?_
          refine XS.ifNo X700.here hx rfl (hb hby at_126) rfl ((if0 _ _).trans (teq (by decide : (0 : Int32) = (0 : Int32))).2) ?_
          refine XS.iload X700.here hx rfl (hb hby at_129) rfl ?_
          refine XS.ifNo X700.here hx rfl (hb hby at_131) rfl ((if0 _ _).trans (feq (by decide : ¬ ((1 : Int32) = (0 : Int32)))).1) ?_
          refine XS.iconst X700.here hx rfl (hb hby at_134) ?_
          refine XS.goto X700.here hx rfl (pc0 := 135) (pc' := 139) rfl (hb hby at_135) (by decide) (by decide) ?_
          refine XS.istore X700.here hx rfl (hb hby at_139) rfl (l' := #[.val (.long q1), .second, .val (.long q2), .second, .val (.long q3), .second, .val (.int p4), .val (.int 0), .val (.int 1), .val (.int 0), .val (.ref b473), .val (.long 288), .second, .val (.long ((((288 : Int64) + (((0 : Int64) + q1) <<< ((0 : Int32) &&& 0x3f).toInt64)) + (0 : Int64)) + (0 : Int64))), .second, .val (.long ((((288 : Int64) + ((((0 : Int64) + q1) + q2) <<< ((1 : Int32) &&& 0x3f).toInt64)) + (0 : Int64)) + (0 : Int64))), .second, .val (.long ((((288 : Int64) + (((((0 : Int64) + q1) + q2) + q3) <<< ((1 : Int32) &&& 0x3f).toInt64)) + (0 : Int64)) + (0 : Int64))), .second, .val (.long q1), .second, .val (.long (q1 + q2)), .second, .val (.long ((q1 + q2) + q3)), .second, .val (.int 0), .val (.int 1), .unset, .unset, .unset, .unset, .unset, .unset, .unset]) rfl ?_
          refine XS.iload X700.here hx rfl (hb hby at_141) rfl ?_
          refine XS.ifNo X700.here hx rfl (hb hby at_143) rfl ((if0 _ _).trans (teq (by decide : (0 : Int32) = (0 : Int32))).2) ?_
          refine XS.iload X700.here hx rfl (hb hby at_146) rfl ?_
          refine XS.ifYes X700.here hx rfl (pc0 := 148) (pc' := 156) rfl (hb hby at_148) rfl ((if0 _ _).trans (feq (by decide : ¬ ((1 : Int32) = (0 : Int32)))).2) (by decide) (by decide) ?_
          refine XS.iconst X700.here hx rfl (hb hby at_156) ?_
          refine XS.goto X700.here hx rfl (pc0 := 157) (pc' := 161) rfl (hb hby at_157) (by decide) (by decide) ?_
          refine XS.istore X700.here hx rfl (hb hby at_161) rfl (l' := #[.val (.long q1), .second, .val (.long q2), .second, .val (.long q3), .second, .val (.int p4), .val (.int 0), .val (.int 1), .val (.int 0), .val (.ref b473), .val (.long 288), .second, .val (.long ((((288 : Int64) + (((0 : Int64) + q1) <<< ((0 : Int32) &&& 0x3f).toInt64)) + (0 : Int64)) + (0 : Int64))), .second, .val (.long ((((288 : Int64) + ((((0 : Int64) + q1) + q2) <<< ((1 : Int32) &&& 0x3f).toInt64)) + (0 : Int64)) + (0 : Int64))), .second, .val (.long ((((288 : Int64) + (((((0 : Int64) + q1) + q2) + q3) <<< ((1 : Int32) &&& 0x3f).toInt64)) + (0 : Int64)) + (0 : Int64))), .second, .val (.long q1), .second, .val (.long (q1 + q2)), .second, .val (.long ((q1 + q2) + q3)), .second, .val (.int 0), .val (.int 1), .val (.int 1), .unset, .unset, .unset, .unset, .unset, .unset]) rfl ?_
          refine XS.iload X700.here hx rfl (hb hby at_163) rfl ?_
          refine XS.ifYes X700.here hx rfl (pc0 := 165) (pc' := 175) rfl (hb hby at_165) rfl ((if0 _ _).trans (teq (by decide : (0 : Int32) = (0 : Int32))).1) (by decide) (by decide) ?_
          refine XS.lload X700.here hx rfl (hb hby at_175) rfl ?_
          refine XS.lstore X700.here hx rfl (hb hby at_177) rfl (l' := #[.val (.long q1), .second, .val (.long q2), .second, .val (.long q3), .second, .val (.int p4), .val (.int 0), .val (.int 1), .val (.int 0), .val (.ref b473), .val (.long 288), .second, .val (.long ((((288 : Int64) + (((0 : Int64) + q1) <<< ((0 : Int32) &&& 0x3f).toInt64)) + (0 : Int64)) + (0 : Int64))), .second, .val (.long ((((288 : Int64) + ((((0 : Int64) + q1) + q2) <<< ((1 : Int32) &&& 0x3f).toInt64)) + (0 : Int64)) + (0 : Int64))), .second, .val (.long ((((288 : Int64) + (((((0 : Int64) + q1) + q2) + q3) <<< ((1 : Int32) &&& 0x3f).toInt64)) + (0 : Int64)) + (0 : Int64))), .second, .val (.long q1), .second, .val (.long (q1 + q2)), .second, .val (.long ((q1 + q2) + q3)), .second, .val (.int 0), .val (.int 1), .val (.int 1), .val (.long q1), .second, .unset, .unset, .unset, .unset]) rfl ?_
          refine XS.iload X700.here hx rfl (hb hby at_179) rfl ?_
          show Steps p.tables e below (T700.setTop (mkF m 181 #[.val (.long q1), .second, .val (.long q2), .second, .val (.long q3), .second, .val (.int p4), .val (.int 0), .val (.int 1), .val (.int 0), .val (.ref b473), .val (.long 288), .second, .val (.long ((((288 : Int64) + (((0 : Int64) + q1) <<< ((0 : Int32) &&& 0x3f).toInt64)) + (0 : Int64)) + (0 : Int64))), .second, .val (.long ((((288 : Int64) + ((((0 : Int64) + q1) + q2) <<< ((1 : Int32) &&& 0x3f).toInt64)) + (0 : Int64)) + (0 : Int64))), .second, .val (.long ((((288 : Int64) + (((((0 : Int64) + q1) + q2) + q3) <<< ((1 : Int32) &&& 0x3f).toInt64)) + (0 : Int64)) + (0 : Int64))), .second, .val (.long q1), .second, .val (.long (q1 + q2)), .second, .val (.long ((q1 + q2) + q3)), .second, .val (.int 0), .val (.int 1), .val (.int 1), .val (.long q1), .second, .unset, .unset, .unset, .unset] [(.int 1)])) _
          refine XS.ifNo X700.here hx rfl (hb hby at_181) rfl ((if0 _ _).trans (feq (by decide : ¬ ((1 : Int32) = (0 : Int32)))).1) ?_
          refine XS.lload X700.here hx rfl (hb hby at_184) rfl ?_
          refine XS.iconst X700.here hx rfl (hb hby at_186) ?_
          refine XS.lshl X700.here hx rfl (hb hby at_187) rfl ?_
          refine XS.goto X700.here hx rfl (pc0 := 188) (pc' := 193) rfl (hb hby at_188) (by decide) (by decide) ?_
          refine XS.lstore X700.here hx rfl (hb hby at_193) rfl (l' := #[.val (.long q1), .second, .val (.long q2), .second, .val (.long q3), .second, .val (.int p4), .val (.int 0), .val (.int 1), .val (.int 0), .val (.ref b473), .val (.long 288), .second, .val (.long ((((288 : Int64) + (((0 : Int64) + q1) <<< ((0 : Int32) &&& 0x3f).toInt64)) + (0 : Int64)) + (0 : Int64))), .second, .val (.long ((((288 : Int64) + ((((0 : Int64) + q1) + q2) <<< ((1 : Int32) &&& 0x3f).toInt64)) + (0 : Int64)) + (0 : Int64))), .second, .val (.long ((((288 : Int64) + (((((0 : Int64) + q1) + q2) + q3) <<< ((1 : Int32) &&& 0x3f).toInt64)) + (0 : Int64)) + (0 : Int64))), .second, .val (.long q1), .second, .val (.long (q1 + q2)), .second, .val (.long ((q1 + q2) + q3)), .second, .val (.int 0), .val (.int 1), .val (.int 1), .val (.long q1), .second, .val (.long ((q1 + q2) <<< ((1 : Int32) &&& 0x3f).toInt64)), .second, .unset, .unset]) rfl ?_
          refine XS.iload X700.here hx rfl (hb hby at_195) rfl ?_
          refine XS.ifNo X700.here hx rfl (hb hby at_197) rfl ((if0 _ _).trans (feq (by decide : ¬ ((1 : Int32) = (0 : Int32)))).1) ?_
          refine XS.lload X700.here hx rfl (hb hby at_200) rfl ?_
          refine XS.iconst X700.here hx rfl (hb hby at_202) ?_
          refine XS.lshl X700.here hx rfl (hb hby at_203) rfl ?_
          refine XS.goto X700.here hx rfl (pc0 := 204) (pc' := 209) rfl (hb hby at_204) (by decide) (by decide) ?_
          refine XS.lstore X700.here hx rfl (hb hby at_209) rfl (l' := #[.val (.long q1), .second, .val (.long q2), .second, .val (.long q3), .second, .val (.int p4), .val (.int 0), .val (.int 1), .val (.int 0), .val (.ref b473), .val (.long 288), .second, .val (.long ((((288 : Int64) + (((0 : Int64) + q1) <<< ((0 : Int32) &&& 0x3f).toInt64)) + (0 : Int64)) + (0 : Int64))), .second, .val (.long ((((288 : Int64) + ((((0 : Int64) + q1) + q2) <<< ((1 : Int32) &&& 0x3f).toInt64)) + (0 : Int64)) + (0 : Int64))), .second, .val (.long ((((288 : Int64) + (((((0 : Int64) + q1) + q2) + q3) <<< ((1 : Int32) &&& 0x3f).toInt64)) + (0 : Int64)) + (0 : Int64))), .second, .val (.long q1), .second, .val (.long (q1 + q2)), .second, .val (.long ((q1 + q2) + q3)), .second, .val (.int 0), .val (.int 1), .val (.int 1), .val (.long q1), .second, .val (.long ((q1 + q2) <<< ((1 : Int32) &&& 0x3f).toInt64)), .second, .val (.long (((q1 + q2) + q3) <<< ((1 : Int32) &&& 0x3f).toInt64)), .second]) rfl ?_
          refine XS.lload X700.here hx rfl (hb hby at_211) rfl ?_
          refine XS.lload X700.here hx rfl (hb hby at_213) rfl ?_
          refine XS.lsub X700.here hx rfl (hb hby at_215) rfl ?_
          refine XS.lload X700.here hx rfl (hb hby at_216) rfl ?_
          refine XS.lcmp X700.here hx rfl (hb hby at_218) rfl ?_
          refine XS.ifNo X700.here hx rfl (hb hby at_219) rfl ((if0 _ _).trans (teq ((lw_eq _ _).mpr (by rw [own_h]; simp only [Int64.zero_add, own_s0] : (((((288 : Int64) + (((0 : Int64) + q1) <<< ((0 : Int32) &&& 0x3f).toInt64)) + (0 : Int64)) + (0 : Int64)) - (288 : Int64)) = q1))).2) ?_
          refine XS.lload X700.here hx rfl (hb hby at_222) rfl ?_
          refine XS.lload X700.here hx rfl (hb hby at_224) rfl ?_
          refine XS.lsub X700.here hx rfl (hb hby at_226) rfl ?_
          refine XS.lload X700.here hx rfl (hb hby at_227) rfl ?_
          refine XS.lcmp X700.here hx rfl (hb hby at_229) rfl ?_
          refine XS.ifNo X700.here hx rfl (hb hby at_230) rfl ((if0 _ _).trans (teq ((lw_eq _ _).mpr (by rw [own_h]; simp only [Int64.zero_add, own_s0] : (((((288 : Int64) + ((((0 : Int64) + q1) + q2) <<< ((1 : Int32) &&& 0x3f).toInt64)) + (0 : Int64)) + (0 : Int64)) - (288 : Int64)) = ((q1 + q2) <<< ((1 : Int32) &&& 0x3f).toInt64)))).2) ?_
          refine XS.lload X700.here hx rfl (hb hby at_233) rfl ?_
          refine XS.lload X700.here hx rfl (hb hby at_235) rfl ?_
          refine XS.lsub X700.here hx rfl (hb hby at_237) rfl ?_
          refine XS.lload X700.here hx rfl (hb hby at_238) rfl ?_
          refine XS.lcmp X700.here hx rfl (hb hby at_240) rfl ?_
          refine XS.ifNo X700.here hx rfl (hb hby at_241) rfl ((if0 _ _).trans (teq ((lw_eq _ _).mpr (by rw [own_h]; simp only [Int64.zero_add, own_s0] : (((((288 : Int64) + (((((0 : Int64) + q1) + q2) + q3) <<< ((1 : Int32) &&& 0x3f).toInt64)) + (0 : Int64)) + (0 : Int64)) - (288 : Int64)) = (((q1 + q2) + q3) <<< ((1 : Int32) &&& 0x3f).toInt64)))).2) ?_
          refine XS.iconst X700.here hx rfl (hb hby at_244) ?_
          refine XS.goto X700.here hx rfl (pc0 := 245) (pc' := 249) rfl (hb hby at_245) (by decide) (by decide) ?_
          show Steps p.tables e below (T700.setTop (mkF m 249 #[.val (.long q1), .second, .val (.long q2), .second, .val (.long q3), .second, .val (.int p4), .val (.int 0), .val (.int 1), .val (.int 0), .val (.ref b473), .val (.long 288), .second, .val (.long ((((288 : Int64) + (((0 : Int64) + q1) <<< ((0 : Int32) &&& 0x3f).toInt64)) + (0 : Int64)) + (0 : Int64))), .second, .val (.long ((((288 : Int64) + ((((0 : Int64) + q1) + q2) <<< ((1 : Int32) &&& 0x3f).toInt64)) + (0 : Int64)) + (0 : Int64))), .second, .val (.long ((((288 : Int64) + (((((0 : Int64) + q1) + q2) + q3) <<< ((1 : Int32) &&& 0x3f).toInt64)) + (0 : Int64)) + (0 : Int64))), .second, .val (.long q1), .second, .val (.long (q1 + q2)), .second, .val (.long ((q1 + q2) + q3)), .second, .val (.int 0), .val (.int 1), .val (.int 1), .val (.long q1), .second, .val (.long ((q1 + q2) <<< ((1 : Int32) &&& 0x3f).toInt64)), .second, .val (.long (((q1 + q2) + q3) <<< ((1 : Int32) &&& 0x3f).toInt64)), .second] [(.int 1)])) _
          exact retN X700 hx (t := .boolean) hret (by simp) (hb hby at_249) hr
        ·
          show Q0 n0 _ T700.heap _
          rw [e702]
          exact ⟨rfl, N700⟩
      ·
        obtain ⟨T703, h703, X703, e703, E703, A703, D703, -, st703⟩ := newO X0 hx hZ hown (own_w hw 0 rfl) (own_w hw 1 rfl) (own_w hw 2 rfl) e0 (g := (mkF m 42 #[.val (.long q1), .second, .val (.long q2), .second, .val (.long q3), .second, .val (.int p4), .val (.int 0), .val (.int 1), .val (.int 1), .unset, .unset, .unset, .unset, .unset, .unset, .unset, .unset, .unset, .unset, .unset, .unset, .unset, .unset, .unset, .unset, .unset, .unset, .unset, .unset, .unset, .unset, .unset, .unset] [])) rfl (hb hby at_42) (by decide) (by decide)
        obtain ⟨b703, g703⟩ : ∃ z, z = h0.size := ⟨_, rfl⟩
        rw [← g703] at A703 D703 st703
        have M703 : h0.size ≤ h703.size := Nat.le_trans (Nat.le_refl _) E703.1
        have O703 := Old.ext O0 E703
        have sz_b703 : h0.size ≤ b703 := Nat.le_of_eq g703.symm
        have g_b703 : n0 ≤ b703 := Nat.le_trans (own_oz O0) (Nat.le_trans (Nat.le_refl _) sz_b703)
        have F703_21 : Fld Z h703 b703 "com/example/mycelia/mycelia/wire/MessageTree" "elements" "Lcom/example/mycelia/mycelia/wire/MessageTree$IntRecords;" .null := D703 (Or.inr (own_w hw 21 rfl)) (ty := (.object "com/example/mycelia/mycelia/wire/MessageTree$IntRecords")) (by decide)
        have F703_23 : Fld Z h703 b703 "com/example/mycelia/mycelia/wire/MessageTree" "attributes" "Lcom/example/mycelia/mycelia/wire/MessageTree$IntRecords;" .null := D703 (Or.inr (own_w hw 23 rfl)) (ty := (.object "com/example/mycelia/mycelia/wire/MessageTree$IntRecords")) (by decide)
        have F703_45 : Fld Z h703 b703 "com/example/mycelia/mycelia/wire/MessageTree" "text" "Ljava/lang/StringBuilder;" .null := D703 (Or.inr (own_w hw 45 rfl)) (ty := (.object "java/lang/StringBuilder")) (by decide)
        have F703_47 : Fld Z h703 b703 "com/example/mycelia/mycelia/wire/MessageTree" "values" "Ljava/lang/StringBuilder;" .null := D703 (Or.inr (own_w hw 47 rfl)) (ty := (.object "java/lang/StringBuilder")) (by decide)
        have F703_73 : Fld Z h703 b703 "com/example/mycelia/mycelia/wire/MessageTree" "names" "Ljava/util/List;" .null := D703 (Or.inr (own_w hw 73 rfl)) (ty := (.object "java/util/List")) (by decide)
        have F703_91 : Fld Z h703 b703 "com/example/mycelia/mycelia/wire/MessageTree" "codes" "Ljava/util/Map;" .null := D703 (Or.inr (own_w hw 91 rfl)) (ty := (.object "java/util/Map")) (by decide)
        have F703_105 : Fld Z h703 b703 "com/example/mycelia/mycelia/wire/MessageTree" "open" "I" (.int 0) := D703 (Or.inl (own_w hw 105 rfl)) (ty := .int) (by decide)
        have F703_127 : Fld Z h703 b703 "com/example/mycelia/mycelia/wire/MessageTree" "wideText" "Z" (.int 0) := D703 (Or.inl (own_w hw 127 rfl)) (ty := .boolean) (by decide)
        have F703_129 : Fld Z h703 b703 "com/example/mycelia/mycelia/wire/MessageTree" "wideValues" "Z" (.int 0) := D703 (Or.inl (own_w hw 129 rfl)) (ty := .boolean) (by decide)
        have F703_131 : Fld Z h703 b703 "com/example/mycelia/mycelia/wire/MessageTree" "passed" "J" (.long 0) := D703 (Or.inl (own_w hw 131 rfl)) (ty := .long) (by decide)
        have F703_133 : Fld Z h703 b703 "com/example/mycelia/mycelia/wire/MessageTree" "widePassed" "Z" (.int 0) := D703 (Or.inl (own_w hw 133 rfl)) (ty := .boolean) (by decide)
        have F703_148 : Fld Z h703 b703 "com/example/mycelia/mycelia/wire/MessageTree" "deepest" "I" (.int 0) := D703 (Or.inl (own_w hw 148 rfl)) (ty := .int) (by decide)
        obtain ⟨_, T704, L704, X704, hQ704, st704⟩ := own_sb X703 hx hZ hown (y := yn9) (own_w hw 3 rfl) (own_w hw 4 rfl) (own_w hw 5 rfl) (own_w hw 2 rfl) e703 (a := b703) (argsL := []) (rest := [(.ref b703)]) (rm10 l Z a0 hw w1 w2 kw1 kw2 gi1 G [] b703 h703 n0 O703 g_b703 A703 F703_23 F703_91 F703_148 F703_21 F703_73 F703_105 F703_131 F703_45 F703_47 F703_133 F703_127 F703_129) (g := (mkF m 46 #[.val (.long q1), .second, .val (.long q2), .second, .val (.long q3), .second, .val (.int p4), .val (.int 0), .val (.int 1), .val (.int 1), .unset, .unset, .unset, .unset, .unset, .unset, .unset, .unset, .unset, .unset, .unset, .unset, .unset, .unset, .unset, .unset, .unset, .unset, .unset, .unset, .unset, .unset, .unset, .unset] [(.ref b703), (.ref b703)])) rfl (by rw [hml]; rfl) rfl (hb hby at_46) (lenOf pd0 rfl) (W := 1) (c1 := 12) (s1 := 136)
        obtain ⟨b705, b706, b707, b708, b709, b710, b711, b712, b713, b714, b715, k716, k717, k718, k719, k720, rfl, Nq721, K722, sz_b705, sz_b706, sz_b707, sz_b708, sz_b709, sz_b710, sz_b711, sz_b712, sz_b713, sz_b714, sz_b715, ne723, ne724, ne725, ne726, ne727, ne728, ne729, ne730, ne731, ne732, ne733, ne734, ne735, ne736, ne737, ne738, ne739, ne740, ne741, ne742, ne743, ne744, ne745, ne746, ne747, ne748, ne749, ne750, ne751, ne752, ne753, ne754, ne755, ne756, ne757, ne758, ne759, ne760, ne761, ne762, ne763, ne764, ne765, ne766, ne767, ne768, ne769, ne770, ne771, ne772, ne773, ne774, ne775, ne776, ne777, OV778, OV779, f780, f781, f782, f783, f784, f785, f786, f787, f788, f789, f790, f791, f792, f793, f794, f795, f796, f797, f798, f799, f800, f801, f802, f803, f804, f805, f806, f807, f808, f809, f810, f811, f812, f813, f814, f815, f816, f817, f818, f819, f820, f821, f822⟩ := hQ704
        have N704 := Fr.app N0 Nq721
        have g_b705 : n0 ≤ b705 := Nat.le_trans (own_oz O703) sz_b705
        have g_b706 : n0 ≤ b706 := Nat.le_trans (own_oz O703) sz_b706
        have g_b707 : n0 ≤ b707 := Nat.le_trans (own_oz O703) sz_b707
        have g_b708 : n0 ≤ b708 := Nat.le_trans (own_oz O703) sz_b708
        have g_b709 : n0 ≤ b709 := Nat.le_trans (own_oz O703) sz_b709
        have g_b710 : n0 ≤ b710 := Nat.le_trans (own_oz O703) sz_b710
        have g_b711 : n0 ≤ b711 := Nat.le_trans (own_oz O703) sz_b711
        have g_b712 : n0 ≤ b712 := Nat.le_trans (own_oz O703) sz_b712
        have g_b713 : n0 ≤ b713 := Nat.le_trans (own_oz O703) sz_b713
        have g_b714 : n0 ≤ b714 := Nat.le_trans (own_oz O703) sz_b714
        have g_b715 : n0 ≤ b715 := Nat.le_trans (own_oz O703) sz_b715
        have M704 : h0.size ≤ T704.heap.size := Nat.le_trans M703 K722.1
        have O704 := Old.keep O703 K722 (allS g_b703 all0)
        obtain ⟨_, T823, L823, X823, hQ823, st823⟩ := own_vb X704 hx hZ hown (y := yn15) (own_w hw 106 rfl) (own_w hw 107 rfl) (own_w hw 109 rfl) (own_w hw 108 rfl) (own_w hw 110 rfl) (own_w hw 2 rfl) rfl f780 (argsL := []) (rest := []) (rm16 l Z a0 hw [] b703 b705 b706 b707 b708 b709 b710 b711 b712 b713 b714 b715 k716 k717 k718 k719 T704.heap n0 O704 g_b703 g_b705 g_b706 g_b707 g_b708 g_b709 g_b710 g_b711 g_b712 g_b713 g_b714 g_b715 OV778 OV779 f781 f783 f784 f785 f787 f788 f789 f790 f791 f792 f793 f795 f799 f801 f803 f806 f807 f808 f809 f810 f811 f812 f817 f819) (g := (mkF m 53 #[.val (.long q1), .second, .val (.long q2), .second, .val (.long q3), .second, .val (.int p4), .val (.int 0), .val (.int 1), .val (.int 1), .val (.ref b703), .unset, .unset, .unset, .unset, .unset, .unset, .unset, .unset, .unset, .unset, .unset, .unset, .unset, .unset, .unset, .unset, .unset, .unset, .unset, .unset, .unset, .unset, .unset] [(.ref b703)])) rfl (by rw [hml]; rfl) rfl (hb hby at_53) (lenOf pd3 rfl) (W := 0) (c1 := 12) (s1 := 136)
        obtain ⟨rfl, Nq824, e825⟩ := hQ823
        have N823 := Fr.app N704 Nq824
        obtain ⟨_, T826, L826, X826, hQ826, st826⟩ := own_vb X823 hx hZ hown (y := yn16) (own_w hw 149 rfl) (own_w hw 150 rfl) (own_w hw 152 rfl) (own_w hw 151 rfl) (own_w hw 153 rfl) (own_w hw 2 rfl) e825 f780 (argsL := [(.long q1), (.int 0)]) (rest := []) (rm17 l Z a0 hw [] b703 b705 b706 b707 b708 b709 b710 b711 b712 b713 b714 b715 k716 k717 q1 T704.heap n0 O704 g_b703 g_b705 g_b706 g_b707 g_b708 g_b709 g_b710 g_b711 g_b712 g_b713 g_b714 g_b715 OV778 OV779 f780 f781 f782 f783 f784 f785 f786 f787 f788 f789 f790 f791 f792) (g := (mkF m 63 #[.val (.long q1), .second, .val (.long q2), .second, .val (.long q3), .second, .val (.int p4), .val (.int 0), .val (.int 1), .val (.int 1), .val (.ref b703), .val (.long 288), .second, .unset, .unset, .unset, .unset, .unset, .unset, .unset, .unset, .unset, .unset, .unset, .unset, .unset, .unset, .unset, .unset, .unset, .unset, .unset, .unset, .unset] [(.int 0), (.long q1), (.ref b703)])) rfl (by rw [hml]; rfl) rfl (hb hby at_63) (lenOf pd5 rfl) (W := 0) (c1 := 12) (s1 := 136)
        obtain ⟨rfl, Nq827, K828, f829, f830, f831, f832, f833, f834, f835, f836, f837, f838, f839, f840, f841⟩ := hQ826
        have N826 := Fr.app N823 Nq827
        have M826 : h0.size ≤ T826.heap.size := Nat.le_trans M704 K828.1
        have O826 := Old.keep O704 K828 (allS g_b703 all0)
        have f842 := (f793.keep K828)
        have lt843 : b703 < h703.size := A703.lt
        have ne844 : b703 ≠ b705 := Nat.ne_of_lt (Nat.lt_of_lt_of_le lt843 sz_b705)
        have f845 := (f795.keep K828 (ninS (Ne.symm ne844) nin0))
        have f846 := (f799.keep K828)
        have ne847 : b703 ≠ b707 := Nat.ne_of_lt (Nat.lt_of_lt_of_le lt843 sz_b707)
        have f848 := (f801.keep K828 (ninS (Ne.symm ne847) nin0))
        have f849 := (f803.keep K828)
        have ne850 : b703 ≠ b708 := Nat.ne_of_lt (Nat.lt_of_lt_of_le lt843 sz_b708)
        have f851 := (f806.keep K828 (ninS (Ne.symm ne850) nin0))
        have f852 := (f807.keep K828)
        have ne853 : b703 ≠ b709 := Nat.ne_of_lt (Nat.lt_of_lt_of_le lt843 sz_b709)
        have f854 := (f808.keep K828 (ninS (Ne.symm ne853) nin0))
        have f855 := (f809.keep K828 (ninS (Ne.symm ne853) nin0))
        have f856 := (f810.keep K828)
        have ne857 : b703 ≠ b710 := Nat.ne_of_lt (Nat.lt_of_lt_of_le lt843 sz_b710)
        have f858 := (f811.keep K828 (ninS (Ne.symm ne857) nin0))
        have f859 := (f812.keep K828 (ninS (Ne.symm ne857) nin0))
        have ne860 : b703 ≠ b713 := Nat.ne_of_lt (Nat.lt_of_lt_of_le lt843 sz_b713)
        have f861 := (f817.keep K828 (ninS (Ne.symm ne860) nin0))
        have ne862 : b703 ≠ b714 := Nat.ne_of_lt (Nat.lt_of_lt_of_le lt843 sz_b714)
        have f863 := (f819.keep K828 (ninS (Ne.symm ne862) nin0))
        obtain ⟨_, T864, L864, X864, hQ864, st864⟩ := own_vb X826 hx hZ hown (y := yn15) (own_w hw 106 rfl) (own_w hw 107 rfl) (own_w hw 109 rfl) (own_w hw 108 rfl) (own_w hw 110 rfl) (own_w hw 2 rfl) rfl f829 (argsL := []) (rest := []) (rm18 l Z a0 hw [] b703 b705 b706 b707 b708 b709 b710 b711 b712 b713 b714 b715 k716 k717 (((0 : Int64) + q1)) k718 k719 T826.heap n0 O826 g_b703 g_b705 g_b706 g_b707 g_b708 g_b709 g_b710 g_b711 g_b712 g_b713 g_b714 g_b715 OV778 OV779 f830 f832 f833 f834 f836 f837 f838 f839 f840 f841 f842 f845 f846 f848 f849 f851 f852 f854 f855 f856 f858 f859 f861 f863) (g := (mkF m 68 #[.val (.long q1), .second, .val (.long q2), .second, .val (.long q3), .second, .val (.int p4), .val (.int 0), .val (.int 1), .val (.int 1), .val (.ref b703), .val (.long 288), .second, .unset, .unset, .unset, .unset, .unset, .unset, .unset, .unset, .unset, .unset, .unset, .unset, .unset, .unset, .unset, .unset, .unset, .unset, .unset, .unset, .unset] [(.ref b703)])) rfl (by rw [hml]; rfl) rfl (hb hby at_68) (lenOf pd3 rfl) (W := 0) (c1 := 12) (s1 := 136)
        obtain ⟨rfl, Nq865, e866⟩ := hQ864
        have N864 := Fr.app N826 Nq865
        obtain ⟨_, T867, L867, X867, hQ867, st867⟩ := own_vb X864 hx hZ hown (y := yn16) (own_w hw 149 rfl) (own_w hw 150 rfl) (own_w hw 152 rfl) (own_w hw 151 rfl) (own_w hw 153 rfl) (own_w hw 2 rfl) e866 f829 (argsL := [(.long q2), (.int 1)]) (rest := []) (rm20 l Z a0 hw [] b703 b705 b706 b707 b708 b709 b710 b711 b712 b713 b714 b715 k716 k717 (((0 : Int64) + q1)) q2 T826.heap n0 O826 g_b703 g_b705 g_b706 g_b707 g_b708 g_b709 g_b710 g_b711 g_b712 g_b713 g_b714 g_b715 OV778 OV779 f829 f830 f831 f832 f833 f834 f835 f836 f837 f838 f839 f840 f841) (g := (mkF m 78 #[.val (.long q1), .second, .val (.long q2), .second, .val (.long q3), .second, .val (.int p4), .val (.int 0), .val (.int 1), .val (.int 1), .val (.ref b703), .val (.long 288), .second, .val (.long ((((288 : Int64) + (((0 : Int64) + q1) <<< ((0 : Int32) &&& 0x3f).toInt64)) + (0 : Int64)) + (0 : Int64))), .second, .unset, .unset, .unset, .unset, .unset, .unset, .unset, .unset, .unset, .unset, .unset, .unset, .unset, .unset, .unset, .unset, .unset, .unset, .unset] [(.int 1), (.long q2), (.ref b703)])) rfl (by rw [hml]; rfl) rfl (hb hby at_78) (lenOf pd5 rfl) (W := 0) (c1 := 12) (s1 := 136)
        obtain ⟨rfl, Nq868, K869, f870, f871, f872, f873, f874, f875, f876, f877, f878, f879, f880, f881, f882⟩ := hQ867
        have N867 := Fr.app N864 Nq868
        have M867 : h0.size ≤ T867.heap.size := Nat.le_trans M826 K869.1
        have O867 := Old.keep O826 K869 (allS g_b703 all0)
        have f883 := (f842.keep K869)
        have f884 := (f845.keep K869 (ninS (Ne.symm ne844) nin0))
        have f885 := (f846.keep K869)
        have f886 := (f848.keep K869 (ninS (Ne.symm ne847) nin0))
        have f887 := (f849.keep K869)
        have f888 := (f851.keep K869 (ninS (Ne.symm ne850) nin0))
        have f889 := (f852.keep K869)
        have f890 := (f854.keep K869 (ninS (Ne.symm ne853) nin0))
        have f891 := (f855.keep K869 (ninS (Ne.symm ne853) nin0))
        have f892 := (f856.keep K869)
        have f893 := (f858.keep K869 (ninS (Ne.symm ne857) nin0))
        have f894 := (f859.keep K869 (ninS (Ne.symm ne857) nin0))
        have f895 := (f861.keep K869 (ninS (Ne.symm ne860) nin0))
        have f896 := (f863.keep K869 (ninS (Ne.symm ne862) nin0))
        obtain ⟨_, T897, L897, X897, hQ897, st897⟩ := own_vb X867 hx hZ hown (y := yn15) (own_w hw 106 rfl) (own_w hw 107 rfl) (own_w hw 109 rfl) (own_w hw 108 rfl) (own_w hw 110 rfl) (own_w hw 2 rfl) rfl f870 (argsL := []) (rest := []) (rm21 l Z a0 hw [] b703 b705 b706 b707 b708 b709 b710 b711 b712 b713 b714 b715 k716 k717 ((((0 : Int64) + q1) + q2)) k718 k719 T867.heap n0 O867 g_b703 g_b705 g_b706 g_b707 g_b708 g_b709 g_b710 g_b711 g_b712 g_b713 g_b714 g_b715 OV778 OV779 f871 f873 f874 f875 f877 f878 f879 f880 f881 f882 f883 f884 f885 f886 f887 f888 f889 f890 f891 f892 f893 f894 f895 f896) (g := (mkF m 83 #[.val (.long q1), .second, .val (.long q2), .second, .val (.long q3), .second, .val (.int p4), .val (.int 0), .val (.int 1), .val (.int 1), .val (.ref b703), .val (.long 288), .second, .val (.long ((((288 : Int64) + (((0 : Int64) + q1) <<< ((0 : Int32) &&& 0x3f).toInt64)) + (0 : Int64)) + (0 : Int64))), .second, .unset, .unset, .unset, .unset, .unset, .unset, .unset, .unset, .unset, .unset, .unset, .unset, .unset, .unset, .unset, .unset, .unset, .unset, .unset] [(.ref b703)])) rfl (by rw [hml]; rfl) rfl (hb hby at_83) (lenOf pd3 rfl) (W := 0) (c1 := 12) (s1 := 136)
        obtain ⟨rfl, Nq898, e899⟩ := hQ897
        have N897 := Fr.app N867 Nq898
        obtain ⟨_, T900, L900, X900, hQ900, st900⟩ := own_vb X897 hx hZ hown (y := yn16) (own_w hw 149 rfl) (own_w hw 150 rfl) (own_w hw 152 rfl) (own_w hw 151 rfl) (own_w hw 153 rfl) (own_w hw 2 rfl) e899 f870 (argsL := [(.long q3), (.int 1)]) (rest := []) (rm23 l Z a0 hw [] b703 b705 b706 b707 b708 b709 b710 b711 b712 b713 b714 b715 k716 k717 ((((0 : Int64) + q1) + q2)) q3 T867.heap n0 O867 g_b703 g_b705 g_b706 g_b707 g_b708 g_b709 g_b710 g_b711 g_b712 g_b713 g_b714 g_b715 OV778 OV779 f870 f871 f872 f873 f874 f875 f876 f877 f878 f879 f880 f881 f882) (g := (mkF m 94 #[.val (.long q1), .second, .val (.long q2), .second, .val (.long q3), .second, .val (.int p4), .val (.int 0), .val (.int 1), .val (.int 1), .val (.ref b703), .val (.long 288), .second, .val (.long ((((288 : Int64) + (((0 : Int64) + q1) <<< ((0 : Int32) &&& 0x3f).toInt64)) + (0 : Int64)) + (0 : Int64))), .second, .val (.long ((((288 : Int64) + ((((0 : Int64) + q1) + q2) <<< ((1 : Int32) &&& 0x3f).toInt64)) + (0 : Int64)) + (0 : Int64))), .second, .unset, .unset, .unset, .unset, .unset, .unset, .unset, .unset, .unset, .unset, .unset, .unset, .unset, .unset, .unset, .unset, .unset] [(.int 1), (.long q3), (.ref b703)])) rfl (by rw [hml]; rfl) rfl (hb hby at_94) (lenOf pd5 rfl) (W := 0) (c1 := 12) (s1 := 136)
        obtain ⟨rfl, Nq901, K902, f903, f904, f905, f906, f907, f908, f909, f910, f911, f912, f913, f914, f915⟩ := hQ900
        have N900 := Fr.app N897 Nq901
        have M900 : h0.size ≤ T900.heap.size := Nat.le_trans M867 K902.1
        have O900 := Old.keep O867 K902 (allS g_b703 all0)
        have f916 := (f883.keep K902)
        have f917 := (f884.keep K902 (ninS (Ne.symm ne844) nin0))
        have f918 := (f885.keep K902)
        have f919 := (f886.keep K902 (ninS (Ne.symm ne847) nin0))
        have f920 := (f887.keep K902)
        have f921 := (f888.keep K902 (ninS (Ne.symm ne850) nin0))
        have f922 := (f889.keep K902)
        have f923 := (f890.keep K902 (ninS (Ne.symm ne853) nin0))
        have f924 := (f891.keep K902 (ninS (Ne.symm ne853) nin0))
        have f925 := (f892.keep K902)
        have f926 := (f893.keep K902 (ninS (Ne.symm ne857) nin0))
        have f927 := (f894.keep K902 (ninS (Ne.symm ne857) nin0))
        have f928 := (f895.keep K902 (ninS (Ne.symm ne860) nin0))
        have f929 := (f896.keep K902 (ninS (Ne.symm ne862) nin0))
        obtain ⟨_, T930, L930, X930, hQ930, st930⟩ := own_vb X900 hx hZ hown (y := yn15) (own_w hw 106 rfl) (own_w hw 107 rfl) (own_w hw 109 rfl) (own_w hw 108 rfl) (own_w hw 110 rfl) (own_w hw 2 rfl) rfl f903 (argsL := []) (rest := []) (rm21 l Z a0 hw [] b703 b705 b706 b707 b708 b709 b710 b711 b712 b713 b714 b715 k716 k717 (((((0 : Int64) + q1) + q2) + q3)) k718 k719 T900.heap n0 O900 g_b703 g_b705 g_b706 g_b707 g_b708 g_b709 g_b710 g_b711 g_b712 g_b713 g_b714 g_b715 OV778 OV779 f904 f906 f907 f908 f910 f911 f912 f913 f914 f915 f916 f917 f918 f919 f920 f921 f922 f923 f924 f925 f926 f927 f928 f929) (g := (mkF m 99 #[.val (.long q1), .second, .val (.long q2), .second, .val (.long q3), .second, .val (.int p4), .val (.int 0), .val (.int 1), .val (.int 1), .val (.ref b703), .val (.long 288), .second, .val (.long ((((288 : Int64) + (((0 : Int64) + q1) <<< ((0 : Int32) &&& 0x3f).toInt64)) + (0 : Int64)) + (0 : Int64))), .second, .val (.long ((((288 : Int64) + ((((0 : Int64) + q1) + q2) <<< ((1 : Int32) &&& 0x3f).toInt64)) + (0 : Int64)) + (0 : Int64))), .second, .unset, .unset, .unset, .unset, .unset, .unset, .unset, .unset, .unset, .unset, .unset, .unset, .unset, .unset, .unset, .unset, .unset] [(.ref b703)])) rfl (by rw [hml]; rfl) rfl (hb hby at_99) (lenOf pd3 rfl) (W := 0) (c1 := 12) (s1 := 136)
        obtain ⟨rfl, Nq931, e932⟩ := hQ930
        have N930 := Fr.app N900 Nq931
        obtain ⟨fs, hr, hrun, hended, hW, hsame⟩ := X930.leave (v := some (.int 1)) (fun h => by rw [hret] at h; cases h)
        refine ⟨_, _, pre470 _ ?_, hrun, hended, _, _, rfl, ?_, ⟨_, rfl⟩, hW, hsame.mono (by decide) (by decide)⟩
        ·
          show Steps p.tables e below (s₁.setTop (mkF m 32 #[.val (.long q1), .second, .val (.long q2), .second, .val (.long q3), .second, .val (.int p4), .val (.int 0), .val (.int 1), .unset, .unset, .unset, .unset, .unset, .unset, .unset, .unset, .unset, .unset, .unset, .unset, .unset, .unset, .unset, .unset, .unset, .unset, .unset, .unset, .unset, .unset, .unset, .unset, .unset] [(.int (p4 &&& (4 : Int32)))])) _
          refine XS.ifNo X0.here hx rfl (hb hby at_32) rfl ((if0 _ _).trans (feq hc471).1) ?_
          refine XS.iconst X0.here hx rfl (hb hby at_35) ?_
          refine XS.goto X0.here hx rfl (pc0 := 36) (pc' := 40) rfl (hb hby at_36) (by decide) (by decide) ?_
          refine XS.istore X0.here hx rfl (hb hby at_40) rfl (l' := #[.val (.long q1), .second, .val (.long q2), .second, .val (.long q3), .second, .val (.int p4), .val (.int 0), .val (.int 1), .val (.int 1), .unset, .unset, .unset, .unset, .unset, .unset, .unset, .unset, .unset, .unset, .unset, .unset, .unset, .unset, .unset, .unset, .unset, .unset, .unset, .unset, .unset, .unset, .unset, .unset]) rfl ?_
          refine st703 _ ?_
          refine XS.dup X703.here hx rfl (hb hby at_45) rfl rfl ?_
          refine st704 _ ?_
          refine XS.astore X704.here hx rfl (hb hby at_49) rfl rfl (l' := #[.val (.long q1), .second, .val (.long q2), .second, .val (.long q3), .second, .val (.int p4), .val (.int 0), .val (.int 1), .val (.int 1), .val (.ref b703), .unset, .unset, .unset, .unset, .unset, .unset, .unset, .unset, .unset, .unset, .unset, .unset, .unset, .unset, .unset, .unset, .unset, .unset, .unset, .unset, .unset, .unset, .unset]) rfl ?_
          refine XS.aload X704.here hx rfl (hb hby at_51) rfl rfl ?_
          refine st823 _ ?_
          refine XS.lstore X823.here hx rfl (hb hby at_56) rfl (l' := #[.val (.long q1), .second, .val (.long q2), .second, .val (.long q3), .second, .val (.int p4), .val (.int 0), .val (.int 1), .val (.int 1), .val (.ref b703), .val (.long 288), .second, .unset, .unset, .unset, .unset, .unset, .unset, .unset, .unset, .unset, .unset, .unset, .unset, .unset, .unset, .unset, .unset, .unset, .unset, .unset, .unset, .unset]) rfl ?_
          refine XS.aload X823.here hx rfl (hb hby at_58) rfl rfl ?_
          refine XS.lloadN X823.here hx rfl (hb hby at_60) rfl ?_
          refine XS.iload X823.here hx rfl (hb hby at_61) rfl ?_
          refine st826 _ ?_
          refine XS.aload X826.here hx rfl (hb hby at_66) rfl rfl ?_
          refine st864 _ ?_
          refine XS.lstore X864.here hx rfl (hb hby at_71) rfl (l' := #[.val (.long q1), .second, .val (.long q2), .second, .val (.long q3), .second, .val (.int p4), .val (.int 0), .val (.int 1), .val (.int 1), .val (.ref b703), .val (.long 288), .second, .val (.long ((((288 : Int64) + (((0 : Int64) + q1) <<< ((0 : Int32) &&& 0x3f).toInt64)) + (0 : Int64)) + (0 : Int64))), .second, .unset, .unset, .unset, .unset, .unset, .unset, .unset, .unset, .unset, .unset, .unset, .unset, .unset, .unset, .unset, .unset, .unset, .unset, .unset]) rfl ?_
          refine XS.aload X864.here hx rfl (hb hby at_73) rfl rfl ?_
          refine XS.lloadN X864.here hx rfl (hb hby at_75) rfl ?_
          refine XS.iload X864.here hx rfl (hb hby at_76) rfl ?_
          refine st867 _ ?_
          refine XS.aload X867.here hx rfl (hb hby at_81) rfl rfl ?_
          refine st897 _ ?_
          show Steps p.tables e below (T897.setTop (mkF m 86 #[.val (.long q1), .second, .val (.long q2), .second, .val (.long q3), .second, .val (.int p4), .val (.int 0), .val (.int 1), .val (.int 1), .val (.ref b703), .val (.long 288), .second, .val (.long ((((288 : Int64) + (((0 : Int64) + q1) <<< ((0 : Int32) &&& 0x3f).toInt64)) + (0 : Int64)) + (0 : Int64))), .second, .unset, .unset, .unset, .unset, .unset, .unset, .unset, .unset, .unset, .unset, .unset, .unset, .unset, .unset, .unset, .unset, .unset, .unset, .unset] [(.long ((((288 : Int64) + ((((0 : Int64) + q1) + q2) <<< ((1 : Int32) &&& 0x3f).toInt64)) + (0 : Int64)) + (0 : Int64)))])) _
          refine XS.lstore X897.here hx rfl (hb hby at_86) rfl (l' := #[.val (.long q1), .second, .val (.long q2), .second, .val (.long q3), .second, .val (.int p4), .val (.int 0), .val (.int 1), .val (.int 1), .val (.ref b703), .val (.long 288), .second, .val (.long ((((288 : Int64) + (((0 : Int64) + q1) <<< ((0 : Int32) &&& 0x3f).toInt64)) + (0 : Int64)) + (0 : Int64))), .second, .val (.long ((((288 : Int64) + ((((0 : Int64) + q1) + q2) <<< ((1 : Int32) &&& 0x3f).toInt64)) + (0 : Int64)) + (0 : Int64))), .second, .unset, .unset, .unset, .unset, .unset, .unset, .unset, .unset, .unset, .unset, .unset, .unset, .unset, .unset, .unset, .unset, .unset]) rfl ?_
          refine XS.aload X897.here hx rfl (hb hby at_88) rfl rfl ?_
          refine XS.lload X897.here hx rfl (hb hby at_90) rfl ?_
          refine XS.iload X897.here hx rfl (hb hby at_92) rfl ?_
          refine st900 _ ?_
          refine XS.aload X900.here hx rfl (hb hby at_97) rfl rfl ?_
          refine st930 _ ?_
          refine XS.lstore X930.here hx rfl (hb hby at_102) rfl (l' := #[.val (.long q1), .second, .val (.long q2), .second, .val (.long q3), .second, .val (.int p4), .val (.int 0), .val (.int 1), .val (.int 1), .val (.ref b703), .val (.long 288), .second, .val (.long ((((288 : Int64) + (((0 : Int64) + q1) <<< ((0 : Int32) &&& 0x3f).toInt64)) + (0 : Int64)) + (0 : Int64))), .second, .val (.long ((((288 : Int64) + ((((0 : Int64) + q1) + q2) <<< ((1 : Int32) &&& 0x3f).toInt64)) + (0 : Int64)) + (0 : Int64))), .second, .val (.long ((((288 : Int64) + (((((0 : Int64) + q1) + q2) + q3) <<< ((1 : Int32) &&& 0x3f).toInt64)) + (0 : Int64)) + (0 : Int64))), .second, .unset, .unset, .unset, .unset, .unset, .unset, .unset, .unset, .unset, .unset, .unset, .unset, .unset, .unset, .unset]) rfl ?_
          refine XS.lloadN X930.here hx rfl (hb hby at_104) rfl ?_
          refine XS.lstore X930.here hx rfl (hb hby at_105) rfl (l' := #[.val (.long q1), .second, .val (.long q2), .second, .val (.long q3), .second, .val (.int p4), .val (.int 0), .val (.int 1), .val (.int 1), .val (.ref b703), .val (.long 288), .second, .val (.long ((((288 : Int64) + (((0 : Int64) + q1) <<< ((0 : Int32) &&& 0x3f).toInt64)) + (0 : Int64)) + (0 : Int64))), .second, .val (.long ((((288 : Int64) + ((((0 : Int64) + q1) + q2) <<< ((1 : Int32) &&& 0x3f).toInt64)) + (0 : Int64)) + (0 : Int64))), .second, .val (.long ((((288 : Int64) + (((((0 : Int64) + q1) + q2) + q3) <<< ((1 : Int32) &&& 0x3f).toInt64)) + (0 : Int64)) + (0 : Int64))), .second, .val (.long q1), .second, .unset, .unset, .unset, .unset, .unset, .unset, .unset, .unset, .unset, .unset, .unset, .unset, .unset]) rfl ?_
          refine XS.lloadN X930.here hx rfl (hb hby at_107) rfl ?_
          refine XS.lloadN X930.here hx rfl (hb hby at_108) rfl ?_
          refine XS.ladd X930.here hx rfl (hb hby at_109) rfl ?_
          refine XS.lstore X930.here hx rfl (hb hby at_110) rfl (l' := #[.val (.long q1), .second, .val (.long q2), .second, .val (.long q3), .second, .val (.int p4), .val (.int 0), .val (.int 1), .val (.int 1), .val (.ref b703), .val (.long 288), .second, .val (.long ((((288 : Int64) + (((0 : Int64) + q1) <<< ((0 : Int32) &&& 0x3f).toInt64)) + (0 : Int64)) + (0 : Int64))), .second, .val (.long ((((288 : Int64) + ((((0 : Int64) + q1) + q2) <<< ((1 : Int32) &&& 0x3f).toInt64)) + (0 : Int64)) + (0 : Int64))), .second, .val (.long ((((288 : Int64) + (((((0 : Int64) + q1) + q2) + q3) <<< ((1 : Int32) &&& 0x3f).toInt64)) + (0 : Int64)) + (0 : Int64))), .second, .val (.long q1), .second, .val (.long (q1 + q2)), .second, .unset, .unset, .unset, .unset, .unset, .unset, .unset, .unset, .unset, .unset, .unset]) rfl ?_
          refine XS.lloadN X930.here hx rfl (hb hby at_112) rfl ?_
          refine XS.lloadN X930.here hx rfl (hb hby at_113) rfl ?_
          refine XS.ladd X930.here hx rfl (hb hby at_114) rfl ?_
          refine XS.lload X930.here hx rfl (hb hby at_115) rfl ?_
          refine XS.ladd X930.here hx rfl (hb hby at_117) rfl ?_
          refine XS.lstore X930.here hx rfl (hb hby at_118) rfl (l' := #[.val (.long q1), .second, .val (.long q2), .second, .val (.long q3), .second, .val (.int p4), .val (.int 0), .val (.int 1), .val (.int 1), .val (.ref b703), .val (.long 288), .second, .val (.long ((((288 : Int64) + (((0 : Int64) + q1) <<< ((0 : Int32) &&& 0x3f).toInt64)) + (0 : Int64)) + (0 : Int64))), .second, .val (.long ((((288 : Int64) + ((((0 : Int64) + q1) + q2) <<< ((1 : Int32) &&& 0x3f).toInt64)) + (0 : Int64)) + (0 : Int64))), .second, .val (.long ((((288 : Int64) + (((((0 : Int64) + q1) + q2) + q3) <<< ((1 : Int32) &&& 0x3f).toInt64)) + (0 : Int64)) + (0 : Int64))), .second, .val (.long q1), .second, .val (.long (q1 + q2)), .second, .val (.long ((q1 + q2) + q3)), .second, .unset, .unset, .unset, .unset, .unset, .unset, .unset, .unset, .unset]) rfl ?_
          refine XS.iload X930.here hx rfl (hb hby at_120) rfl ?_
          refine XS.istore X930.here hx rfl (hb hby at_122) rfl (l' := #[.val (.long q1), .second, .val (.long q2), .second, .val (.long q3), .second, .val (.int p4), .val (.int 0), .val (.int 1), .val (.int 1), .val (.ref b703), .val (.long 288), .second, .val (.long ((((288 : Int64) + (((0 : Int64) + q1) <<< ((0 : Int32) &&& 0x3f).toInt64)) + (0 : Int64)) + (0 : Int64))), .second, .val (.long ((((288 : Int64) + ((((0 : Int64) + q1) + q2) <<< ((1 : Int32) &&& 0x3f).toInt64)) + (0 : Int64)) + (0 : Int64))), .second, .val (.long ((((288 : Int64) + (((((0 : Int64) + q1) + q2) + q3) <<< ((1 : Int32) &&& 0x3f).toInt64)) + (0 : Int64)) + (0 : Int64))), .second, .val (.long q1), .second, .val (.long (q1 + q2)), .second, .val (.long ((q1 + q2) + q3)), .second, .val (.int 0), .unset, .unset, .unset, .unset, .unset, .unset, .unset, .unset]) rfl ?_
          refine XS.iload X930.here hx rfl (hb hby at_124) rfl ?_
          refine XS.ifNo X930.here hx rfl (hb hby at_126) rfl ((if0 _ _).trans (teq (by decide : (0 : Int32) = (0 : Int32))).2) ?_
          refine XS.iload X930.here hx rfl (hb hby at_129) rfl ?_
          refine XS.ifNo X930.here hx rfl (hb hby at_131) rfl ((if0 _ _).trans (feq (by decide : ¬ ((1 : Int32) = (0 : Int32)))).1) ?_
          refine XS.iconst X930.here hx rfl (hb hby at_134) ?_
          refine XS.goto X930.here hx rfl (pc0 := 135) (pc' := 139) rfl (hb hby at_135) (by decide) (by decide) ?_
          refine XS.istore X930.here hx rfl (hb hby at_139) rfl (l' := #[.val (.long q1), .second, .val (.long q2), .second, .val (.long q3), .second, .val (.int p4), .val (.int 0), .val (.int 1), .val (.int 1), .val (.ref b703), .val (.long 288), .second, .val (.long ((((288 : Int64) + (((0 : Int64) + q1) <<< ((0 : Int32) &&& 0x3f).toInt64)) + (0 : Int64)) + (0 : Int64))), .second, .val (.long ((((288 : Int64) + ((((0 : Int64) + q1) + q2) <<< ((1 : Int32) &&& 0x3f).toInt64)) + (0 : Int64)) + (0 : Int64))), .second, .val (.long ((((288 : Int64) + (((((0 : Int64) + q1) + q2) + q3) <<< ((1 : Int32) &&& 0x3f).toInt64)) + (0 : Int64)) + (0 : Int64))), .second, .val (.long q1), .second, .val (.long (q1 + q2)), .second, .val (.long ((q1 + q2) + q3)), .second, .val (.int 0), .val (.int 1), .unset, .unset, .unset, .unset, .unset, .unset, .unset]) rfl ?_
          refine XS.iload X930.here hx rfl (hb hby at_141) rfl ?_
          refine XS.ifNo X930.here hx rfl (hb hby at_143) rfl ((if0 _ _).trans (teq (by decide : (0 : Int32) = (0 : Int32))).2) ?_
          refine XS.iload X930.here hx rfl (hb hby at_146) rfl ?_
          refine XS.ifYes X930.here hx rfl (pc0 := 148) (pc' := 156) rfl (hb hby at_148) rfl ((if0 _ _).trans (feq (by decide : ¬ ((1 : Int32) = (0 : Int32)))).2) (by decide) (by decide) ?_
          refine XS.iconst X930.here hx rfl (hb hby at_156) ?_
          refine XS.goto X930.here hx rfl (pc0 := 157) (pc' := 161) rfl (hb hby at_157) (by decide) (by decide) ?_
          refine XS.istore X930.here hx rfl (hb hby at_161) rfl (l' := #[.val (.long q1), .second, .val (.long q2), .second, .val (.long q3), .second, .val (.int p4), .val (.int 0), .val (.int 1), .val (.int 1), .val (.ref b703), .val (.long 288), .second, .val (.long ((((288 : Int64) + (((0 : Int64) + q1) <<< ((0 : Int32) &&& 0x3f).toInt64)) + (0 : Int64)) + (0 : Int64))), .second, .val (.long ((((288 : Int64) + ((((0 : Int64) + q1) + q2) <<< ((1 : Int32) &&& 0x3f).toInt64)) + (0 : Int64)) + (0 : Int64))), .second, .val (.long ((((288 : Int64) + (((((0 : Int64) + q1) + q2) + q3) <<< ((1 : Int32) &&& 0x3f).toInt64)) + (0 : Int64)) + (0 : Int64))), .second, .val (.long q1), .second, .val (.long (q1 + q2)), .second, .val (.long ((q1 + q2) + q3)), .second, .val (.int 0), .val (.int 1), .val (.int 1), .unset, .unset, .unset, .unset, .unset, .unset]) rfl ?_
          refine XS.iload X930.here hx rfl (hb hby at_163) rfl ?_
          refine XS.ifYes X930.here hx rfl (pc0 := 165) (pc' := 175) rfl (hb hby at_165) rfl ((if0 _ _).trans (teq (by decide : (0 : Int32) = (0 : Int32))).1) (by decide) (by decide) ?_
          refine XS.lload X930.here hx rfl (hb hby at_175) rfl ?_
          refine XS.lstore X930.here hx rfl (hb hby at_177) rfl (l' := #[.val (.long q1), .second, .val (.long q2), .second, .val (.long q3), .second, .val (.int p4), .val (.int 0), .val (.int 1), .val (.int 1), .val (.ref b703), .val (.long 288), .second, .val (.long ((((288 : Int64) + (((0 : Int64) + q1) <<< ((0 : Int32) &&& 0x3f).toInt64)) + (0 : Int64)) + (0 : Int64))), .second, .val (.long ((((288 : Int64) + ((((0 : Int64) + q1) + q2) <<< ((1 : Int32) &&& 0x3f).toInt64)) + (0 : Int64)) + (0 : Int64))), .second, .val (.long ((((288 : Int64) + (((((0 : Int64) + q1) + q2) + q3) <<< ((1 : Int32) &&& 0x3f).toInt64)) + (0 : Int64)) + (0 : Int64))), .second, .val (.long q1), .second, .val (.long (q1 + q2)), .second, .val (.long ((q1 + q2) + q3)), .second, .val (.int 0), .val (.int 1), .val (.int 1), .val (.long q1), .second, .unset, .unset, .unset, .unset]) rfl ?_
          show Steps p.tables e below (T930.setTop (mkF m 179 #[.val (.long q1), .second, .val (.long q2), .second, .val (.long q3), .second, .val (.int p4), .val (.int 0), .val (.int 1), .val (.int 1), .val (.ref b703), .val (.long 288), .second, .val (.long ((((288 : Int64) + (((0 : Int64) + q1) <<< ((0 : Int32) &&& 0x3f).toInt64)) + (0 : Int64)) + (0 : Int64))), .second, .val (.long ((((288 : Int64) + ((((0 : Int64) + q1) + q2) <<< ((1 : Int32) &&& 0x3f).toInt64)) + (0 : Int64)) + (0 : Int64))), .second, .val (.long ((((288 : Int64) + (((((0 : Int64) + q1) + q2) + q3) <<< ((1 : Int32) &&& 0x3f).toInt64)) + (0 : Int64)) + (0 : Int64))), .second, .val (.long q1), .second, .val (.long (q1 + q2)), .second, .val (.long ((q1 + q2) + q3)), .second, .val (.int 0), .val (.int 1), .val (.int 1), .val (.long q1), .second, .unset, .unset, .unset, .unset] [])) _
          refine XS.iload X930.here hx rfl (hb hby at_179) rfl ?_
          refine XS.ifNo X930.here hx rfl (hb hby at_181) rfl ((if0 _ _).trans (feq (by decide : ¬ ((1 : Int32) = (0 : Int32)))).1) ?_
          refine XS.lload X930.here hx rfl (hb hby at_184) rfl ?_
          refine XS.iconst X930.here hx rfl (hb hby at_186) ?_
          refine XS.lshl X930.here hx rfl (hb hby at_187) rfl ?_
          refine XS.goto X930.here hx rfl (pc0 := 188) (pc' := 193) rfl (hb hby at_188) (by decide) (by decide) ?_
          refine XS.lstore X930.here hx rfl (hb hby at_193) rfl (l' := #[.val (.long q1), .second, .val (.long q2), .second, .val (.long q3), .second, .val (.int p4), .val (.int 0), .val (.int 1), .val (.int 1), .val (.ref b703), .val (.long 288), .second, .val (.long ((((288 : Int64) + (((0 : Int64) + q1) <<< ((0 : Int32) &&& 0x3f).toInt64)) + (0 : Int64)) + (0 : Int64))), .second, .val (.long ((((288 : Int64) + ((((0 : Int64) + q1) + q2) <<< ((1 : Int32) &&& 0x3f).toInt64)) + (0 : Int64)) + (0 : Int64))), .second, .val (.long ((((288 : Int64) + (((((0 : Int64) + q1) + q2) + q3) <<< ((1 : Int32) &&& 0x3f).toInt64)) + (0 : Int64)) + (0 : Int64))), .second, .val (.long q1), .second, .val (.long (q1 + q2)), .second, .val (.long ((q1 + q2) + q3)), .second, .val (.int 0), .val (.int 1), .val (.int 1), .val (.long q1), .second, .val (.long ((q1 + q2) <<< ((1 : Int32) &&& 0x3f).toInt64)), .second, .unset, .unset]) rfl ?_
          refine XS.iload X930.here hx rfl (hb hby at_195) rfl ?_
          refine XS.ifNo X930.here hx rfl (hb hby at_197) rfl ((if0 _ _).trans (feq (by decide : ¬ ((1 : Int32) = (0 : Int32)))).1) ?_
          refine XS.lload X930.here hx rfl (hb hby at_200) rfl ?_
          refine XS.iconst X930.here hx rfl (hb hby at_202) ?_
          refine XS.lshl X930.here hx rfl (hb hby at_203) rfl ?_
          refine XS.goto X930.here hx rfl (pc0 := 204) (pc' := 209) rfl (hb hby at_204) (by decide) (by decide) ?_
          refine XS.lstore X930.here hx rfl (hb hby at_209) rfl (l' := #[.val (.long q1), .second, .val (.long q2), .second, .val (.long q3), .second, .val (.int p4), .val (.int 0), .val (.int 1), .val (.int 1), .val (.ref b703), .val (.long 288), .second, .val (.long ((((288 : Int64) + (((0 : Int64) + q1) <<< ((0 : Int32) &&& 0x3f).toInt64)) + (0 : Int64)) + (0 : Int64))), .second, .val (.long ((((288 : Int64) + ((((0 : Int64) + q1) + q2) <<< ((1 : Int32) &&& 0x3f).toInt64)) + (0 : Int64)) + (0 : Int64))), .second, .val (.long ((((288 : Int64) + (((((0 : Int64) + q1) + q2) + q3) <<< ((1 : Int32) &&& 0x3f).toInt64)) + (0 : Int64)) + (0 : Int64))), .second, .val (.long q1), .second, .val (.long (q1 + q2)), .second, .val (.long ((q1 + q2) + q3)), .second, .val (.int 0), .val (.int 1), .val (.int 1), .val (.long q1), .second, .val (.long ((q1 + q2) <<< ((1 : Int32) &&& 0x3f).toInt64)), .second, .val (.long (((q1 + q2) + q3) <<< ((1 : Int32) &&& 0x3f).toInt64)), .second]) rfl ?_
          refine XS.lload X930.here hx rfl (hb hby at_211) rfl ?_
          refine XS.lload X930.here hx rfl (hb hby at_213) rfl ?_
          refine XS.lsub X930.here hx rfl (hb hby at_215) rfl ?_
          refine XS.lload X930.here hx rfl (hb hby at_216) rfl ?_
          refine XS.lcmp X930.here hx rfl (hb hby at_218) rfl ?_
          refine XS.ifNo X930.here hx rfl (hb hby at_219) rfl ((if0 _ _).trans (teq ((lw_eq _ _).mpr (by rw [own_h]; simp only [Int64.zero_add, own_s0] : (((((288 : Int64) + (((0 : Int64) + q1) <<< ((0 : Int32) &&& 0x3f).toInt64)) + (0 : Int64)) + (0 : Int64)) - (288 : Int64)) = q1))).2) ?_
          refine XS.lload X930.here hx rfl (hb hby at_222) rfl ?_
          refine XS.lload X930.here hx rfl (hb hby at_224) rfl ?_
          refine XS.lsub X930.here hx rfl (hb hby at_226) rfl ?_
          refine XS.lload X930.here hx rfl (hb hby at_227) rfl ?_
          refine XS.lcmp X930.here hx rfl (hb hby at_229) rfl ?_
          refine XS.ifNo X930.here hx rfl (hb hby at_230) rfl ((if0 _ _).trans (teq ((lw_eq _ _).mpr (by rw [own_h]; simp only [Int64.zero_add, own_s0] : (((((288 : Int64) + ((((0 : Int64) + q1) + q2) <<< ((1 : Int32) &&& 0x3f).toInt64)) + (0 : Int64)) + (0 : Int64)) - (288 : Int64)) = ((q1 + q2) <<< ((1 : Int32) &&& 0x3f).toInt64)))).2) ?_
          refine XS.lload X930.here hx rfl (hb hby at_233) rfl ?_
          refine XS.lload X930.here hx rfl (hb hby at_235) rfl ?_
          refine XS.lsub X930.here hx rfl (hb hby at_237) rfl ?_
          refine XS.lload X930.here hx rfl (hb hby at_238) rfl ?_
          refine XS.lcmp X930.here hx rfl (hb hby at_240) rfl ?_
          refine XS.ifNo X930.here hx rfl (hb hby at_241) rfl ((if0 _ _).trans (teq ((lw_eq _ _).mpr (by rw [own_h]; simp only [Int64.zero_add, own_s0] : (((((288 : Int64) + (((((0 : Int64) + q1) + q2) + q3) <<< ((1 : Int32) &&& 0x3f).toInt64)) + (0 : Int64)) + (0 : Int64)) - (288 : Int64)) = (((q1 + q2) + q3) <<< ((1 : Int32) &&& 0x3f).toInt64)))).2) ?_
          refine XS.iconst X930.here hx rfl (hb hby at_244) ?_
          refine XS.goto X930.here hx rfl (pc0 := 245) (pc' := 249) rfl (hb hby at_245) (by decide) (by decide) ?_
          show Steps p.tables e below (T930.setTop (mkF m 249 #[.val (.long q1), .second, .val (.long q2), .second, .val (.long q3), .second, .val (.int p4), .val (.int 0), .val (.int 1), .val (.int 1), .val (.ref b703), .val (.long 288), .second, .val (.long ((((288 : Int64) + (((0 : Int64) + q1) <<< ((0 : Int32) &&& 0x3f).toInt64)) + (0 : Int64)) + (0 : Int64))), .second, .val (.long ((((288 : Int64) + ((((0 : Int64) + q1) + q2) <<< ((1 : Int32) &&& 0x3f).toInt64)) + (0 : Int64)) + (0 : Int64))), .second, .val (.long ((((288 : Int64) + (((((0 : Int64) + q1) + q2) + q3) <<< ((1 : Int32) &&& 0x3f).toInt64)) + (0 : Int64)) + (0 : Int64))), .second, .val (.long q1), .second, .val (.long (q1 + q2)), .second, .val (.long ((q1 + q2) + q3)), .second, .val (.int 0), .val (.int 1), .val (.int 1), .val (.long q1), .second, .val (.long ((q1 + q2) <<< ((1 : Int32) &&& 0x3f).toInt64)), .second, .val (.long (((q1 + q2) + q3) <<< ((1 : Int32) &&& 0x3f).toInt64)), .second] [(.int 1)])) _
          exact retN X930 hx (t := .boolean) hret (by simp) (hb hby at_249) hr
        ·
          show Q0 n0 _ T930.heap _
          rw [e932]
          exact ⟨rfl, N930⟩
  ·
    have hq933 : (p4 &&& (1 : Int32)) = (1 : Int32) := (own_geq (n := 1) (k := (1 : Int32)) (by decide) (by have q0 := own_and (x := p4) (k := (1 : Int32)) (n := 1) (by decide) (by decide); have q1 := own_neq (n := 0) (k := (0 : Int32)) (by decide) hc2; omega))
    have pre934 : ∀ t, Steps p.tables e below (s₁.setTop (mkF m 4 #[.val (.long q1), .second, .val (.long q2), .second, .val (.long q3), .second, .val (.int p4), .unset, .unset, .unset, .unset, .unset, .unset, .unset, .unset, .unset, .unset, .unset, .unset, .unset, .unset, .unset, .unset, .unset, .unset, .unset, .unset, .unset, .unset, .unset, .unset, .unset, .unset, .unset] [(.int 1)])) t → Steps p.tables e below (s₁.setTop (entryFrame m #[(.long q1), (.long q2), (.long q3), (.int p4)] maxLocals)) t := fun t k => pre1 t (by rw [hq933]; exact k)
    have pre935 : ∀ t, Steps p.tables e below (s₁.setTop (mkF m 18 #[.val (.long q1), .second, .val (.long q2), .second, .val (.long q3), .second, .val (.int p4), .val (.int 1), .unset, .unset, .unset, .unset, .unset, .unset, .unset, .unset, .unset, .unset, .unset, .unset, .unset, .unset, .unset, .unset, .unset, .unset, .unset, .unset, .unset, .unset, .unset, .unset, .unset, .unset] [(.int (p4 &&& (2 : Int32)))])) t → Steps p.tables e below (s₁.setTop (entryFrame m #[(.long q1), (.long q2), (.long q3), (.int p4)] maxLocals)) t := fun t k => by
      refine pre934 _ ?_
      show Steps p.tables e below (s₁.setTop (mkF m 4 #[.val (.long q1), .second, .val (.long q2), .second, .val (.long q3), .second, .val (.int p4), .unset, .unset, .unset, .unset, .unset, .unset, .unset, .unset, .unset, .unset, .unset, .unset, .unset, .unset, .unset, .unset, .unset, .unset, .unset, .unset, .unset, .unset, .unset, .unset, .unset, .unset, .unset] [(.int 1)])) _
      refine XS.ifNo X0.here hx rfl (hb hby at_4) rfl ((if0 _ _).trans (feq (by decide : ¬ ((1 : Int32) = (0 : Int32)))).1) ?_
      refine XS.iconst X0.here hx rfl (hb hby at_7) ?_
      refine XS.goto X0.here hx rfl (pc0 := 8) (pc' := 12) rfl (hb hby at_8) (by decide) (by decide) ?_
      refine XS.istore X0.here hx rfl (hb hby at_12) rfl (l' := #[.val (.long q1), .second, .val (.long q2), .second, .val (.long q3), .second, .val (.int p4), .val (.int 1), .unset, .unset, .unset, .unset, .unset, .unset, .unset, .unset, .unset, .unset, .unset, .unset, .unset, .unset, .unset, .unset, .unset, .unset, .unset, .unset, .unset, .unset, .unset, .unset, .unset, .unset]) rfl ?_
      refine XS.iload X0.here hx rfl (hb hby at_14) rfl ?_
      refine XS.iconst X0.here hx rfl (hb hby at_16) ?_
      refine XS.iand X0.here hx rfl (hb hby at_17) rfl ?_
      exact k
    by_cases hc936 : (p4 &&& (2 : Int32)) = (0 : Int32)
    ·
      have pre937 : ∀ t, Steps p.tables e below (s₁.setTop (mkF m 18 #[.val (.long q1), .second, .val (.long q2), .second, .val (.long q3), .second, .val (.int p4), .val (.int 1), .unset, .unset, .unset, .unset, .unset, .unset, .unset, .unset, .unset, .unset, .unset, .unset, .unset, .unset, .unset, .unset, .unset, .unset, .unset, .unset, .unset, .unset, .unset, .unset, .unset, .unset] [(.int 0)])) t → Steps p.tables e below (s₁.setTop (entryFrame m #[(.long q1), (.long q2), (.long q3), (.int p4)] maxLocals)) t := fun t k => pre935 t (by rw [hc936]; exact k)
      have pre938 : ∀ t, Steps p.tables e below (s₁.setTop (mkF m 32 #[.val (.long q1), .second, .val (.long q2), .second, .val (.long q3), .second, .val (.int p4), .val (.int 1), .val (.int 0), .unset, .unset, .unset, .unset, .unset, .unset, .unset, .unset, .unset, .unset, .unset, .unset, .unset, .unset, .unset, .unset, .unset, .unset, .unset, .unset, .unset, .unset, .unset, .unset, .unset] [(.int (p4 &&& (4 : Int32)))])) t → Steps p.tables e below (s₁.setTop (entryFrame m #[(.long q1), (.long q2), (.long q3), (.int p4)] maxLocals)) t := fun t k => by
        refine pre937 _ ?_
        show Steps p.tables e below (s₁.setTop (mkF m 18 #[.val (.long q1), .second, .val (.long q2), .second, .val (.long q3), .second, .val (.int p4), .val (.int 1), .unset, .unset, .unset, .unset, .unset, .unset, .unset, .unset, .unset, .unset, .unset, .unset, .unset, .unset, .unset, .unset, .unset, .unset, .unset, .unset, .unset, .unset, .unset, .unset, .unset, .unset] [(.int 0)])) _
        refine XS.ifYes X0.here hx rfl (pc0 := 18) (pc' := 25) rfl (hb hby at_18) rfl ((if0 _ _).trans (teq (by decide : (0 : Int32) = (0 : Int32))).1) (by decide) (by decide) ?_
        refine XS.iconst X0.here hx rfl (hb hby at_25) ?_
        refine XS.istore X0.here hx rfl (hb hby at_26) rfl (l' := #[.val (.long q1), .second, .val (.long q2), .second, .val (.long q3), .second, .val (.int p4), .val (.int 1), .val (.int 0), .unset, .unset, .unset, .unset, .unset, .unset, .unset, .unset, .unset, .unset, .unset, .unset, .unset, .unset, .unset, .unset, .unset, .unset, .unset, .unset, .unset, .unset, .unset, .unset, .unset]) rfl ?_
        refine XS.iload X0.here hx rfl (hb hby at_28) rfl ?_
        refine XS.iconst X0.here hx rfl (hb hby at_30) ?_
        refine XS.iand X0.here hx rfl (hb hby at_31) rfl ?_
        exact k
      by_cases hc939 : (p4 &&& (4 : Int32)) = (0 : Int32)
      ·
        have pre940 : ∀ t, Steps p.tables e below (s₁.setTop (mkF m 32 #[.val (.long q1), .second, .val (.long q2), .second, .val (.long q3), .second, .val (.int p4), .val (.int 1), .val (.int 0), .unset, .unset, .unset, .unset, .unset, .unset, .unset, .unset, .unset, .unset, .unset, .unset, .unset, .unset, .unset, .unset, .unset, .unset, .unset, .unset, .unset, .unset, .unset, .unset, .unset] [(.int 0)])) t → Steps p.tables e below (s₁.setTop (entryFrame m #[(.long q1), (.long q2), (.long q3), (.int p4)] maxLocals)) t := fun t k => pre938 t (by rw [hc939]; exact k)
        obtain ⟨T941, h941, X941, e941, E941, A941, D941, -, st941⟩ := newO X0 hx hZ hown (own_w hw 0 rfl) (own_w hw 1 rfl) (own_w hw 2 rfl) e0 (g := (mkF m 42 #[.val (.long q1), .second, .val (.long q2), .second, .val (.long q3), .second, .val (.int p4), .val (.int 1), .val (.int 0), .val (.int 0), .unset, .unset, .unset, .unset, .unset, .unset, .unset, .unset, .unset, .unset, .unset, .unset, .unset, .unset, .unset, .unset, .unset, .unset, .unset, .unset, .unset, .unset, .unset, .unset] [])) rfl (hb hby at_42) (by decide) (by decide)
        obtain ⟨b941, g941⟩ : ∃ z, z = h0.size := ⟨_, rfl⟩
        rw [← g941] at A941 D941 st941
        have M941 : h0.size ≤ h941.size := Nat.le_trans (Nat.le_refl _) E941.1
        have O941 := Old.ext O0 E941
        have sz_b941 : h0.size ≤ b941 := Nat.le_of_eq g941.symm
        have g_b941 : n0 ≤ b941 := Nat.le_trans (own_oz O0) (Nat.le_trans (Nat.le_refl _) sz_b941)
        have F941_21 : Fld Z h941 b941 "com/example/mycelia/mycelia/wire/MessageTree" "elements" "Lcom/example/mycelia/mycelia/wire/MessageTree$IntRecords;" .null := D941 (Or.inr (own_w hw 21 rfl)) (ty := (.object "com/example/mycelia/mycelia/wire/MessageTree$IntRecords")) (by decide)
        have F941_23 : Fld Z h941 b941 "com/example/mycelia/mycelia/wire/MessageTree" "attributes" "Lcom/example/mycelia/mycelia/wire/MessageTree$IntRecords;" .null := D941 (Or.inr (own_w hw 23 rfl)) (ty := (.object "com/example/mycelia/mycelia/wire/MessageTree$IntRecords")) (by decide)
        have F941_45 : Fld Z h941 b941 "com/example/mycelia/mycelia/wire/MessageTree" "text" "Ljava/lang/StringBuilder;" .null := D941 (Or.inr (own_w hw 45 rfl)) (ty := (.object "java/lang/StringBuilder")) (by decide)
        have F941_47 : Fld Z h941 b941 "com/example/mycelia/mycelia/wire/MessageTree" "values" "Ljava/lang/StringBuilder;" .null := D941 (Or.inr (own_w hw 47 rfl)) (ty := (.object "java/lang/StringBuilder")) (by decide)
        have F941_73 : Fld Z h941 b941 "com/example/mycelia/mycelia/wire/MessageTree" "names" "Ljava/util/List;" .null := D941 (Or.inr (own_w hw 73 rfl)) (ty := (.object "java/util/List")) (by decide)
        have F941_91 : Fld Z h941 b941 "com/example/mycelia/mycelia/wire/MessageTree" "codes" "Ljava/util/Map;" .null := D941 (Or.inr (own_w hw 91 rfl)) (ty := (.object "java/util/Map")) (by decide)
        have F941_105 : Fld Z h941 b941 "com/example/mycelia/mycelia/wire/MessageTree" "open" "I" (.int 0) := D941 (Or.inl (own_w hw 105 rfl)) (ty := .int) (by decide)
        have F941_127 : Fld Z h941 b941 "com/example/mycelia/mycelia/wire/MessageTree" "wideText" "Z" (.int 0) := D941 (Or.inl (own_w hw 127 rfl)) (ty := .boolean) (by decide)
        have F941_129 : Fld Z h941 b941 "com/example/mycelia/mycelia/wire/MessageTree" "wideValues" "Z" (.int 0) := D941 (Or.inl (own_w hw 129 rfl)) (ty := .boolean) (by decide)
        have F941_131 : Fld Z h941 b941 "com/example/mycelia/mycelia/wire/MessageTree" "passed" "J" (.long 0) := D941 (Or.inl (own_w hw 131 rfl)) (ty := .long) (by decide)
        have F941_133 : Fld Z h941 b941 "com/example/mycelia/mycelia/wire/MessageTree" "widePassed" "Z" (.int 0) := D941 (Or.inl (own_w hw 133 rfl)) (ty := .boolean) (by decide)
        have F941_148 : Fld Z h941 b941 "com/example/mycelia/mycelia/wire/MessageTree" "deepest" "I" (.int 0) := D941 (Or.inl (own_w hw 148 rfl)) (ty := .int) (by decide)
        obtain ⟨_, T942, L942, X942, hQ942, st942⟩ := own_sb X941 hx hZ hown (y := yn9) (own_w hw 3 rfl) (own_w hw 4 rfl) (own_w hw 5 rfl) (own_w hw 2 rfl) e941 (a := b941) (argsL := []) (rest := [(.ref b941)]) (rm10 l Z a0 hw w1 w2 kw1 kw2 gi1 G [] b941 h941 n0 O941 g_b941 A941 F941_23 F941_91 F941_148 F941_21 F941_73 F941_105 F941_131 F941_45 F941_47 F941_133 F941_127 F941_129) (g := (mkF m 46 #[.val (.long q1), .second, .val (.long q2), .second, .val (.long q3), .second, .val (.int p4), .val (.int 1), .val (.int 0), .val (.int 0), .unset, .unset, .unset, .unset, .unset, .unset, .unset, .unset, .unset, .unset, .unset, .unset, .unset, .unset, .unset, .unset, .unset, .unset, .unset, .unset, .unset, .unset, .unset, .unset] [(.ref b941), (.ref b941)])) rfl (by rw [hml]; rfl) rfl (hb hby at_46) (lenOf pd0 rfl) (W := 1) (c1 := 12) (s1 := 136)
        obtain ⟨b943, b944, b945, b946, b947, b948, b949, b950, b951, b952, b953, k954, k955, k956, k957, k958, rfl, Nq959, K960, sz_b943, sz_b944, sz_b945, sz_b946, sz_b947, sz_b948, sz_b949, sz_b950, sz_b951, sz_b952, sz_b953, ne961, ne962, ne963, ne964, ne965, ne966, ne967, ne968, ne969, ne970, ne971, ne972, ne973, ne974, ne975, ne976, ne977, ne978, ne979, ne980, ne981, ne982, ne983, ne984, ne985, ne986, ne987, ne988, ne989, ne990, ne991, ne992, ne993, ne994, ne995, ne996, ne997, ne998, ne999, ne1000, ne1001, ne1002, ne1003, ne1004, ne1005, ne1006, ne1007, ne1008, ne1009, ne1010, ne1011, ne1012, ne1013, ne1014, ne1015, OV1016, OV1017, f1018, f1019, f1020, f1021, f1022, f1023, f1024, f1025, f1026, f1027, f1028, f1029, f1030, f1031, f1032, f1033, f1034, f1035, f1036, f1037, f1038, f1039, f1040, f1041, f1042, f1043, f1044, f1045, f1046, f1047, f1048, f1049, f1050, f1051, f1052, f1053, f1054, f1055, f1056, f1057, f1058, f1059, f1060⟩ := hQ942
        have N942 := Fr.app N0 Nq959
        have g_b943 : n0 ≤ b943 := Nat.le_trans (own_oz O941) sz_b943
        have g_b944 : n0 ≤ b944 := Nat.le_trans (own_oz O941) sz_b944
        have g_b945 : n0 ≤ b945 := Nat.le_trans (own_oz O941) sz_b945
        have g_b946 : n0 ≤ b946 := Nat.le_trans (own_oz O941) sz_b946
        have g_b947 : n0 ≤ b947 := Nat.le_trans (own_oz O941) sz_b947
        have g_b948 : n0 ≤ b948 := Nat.le_trans (own_oz O941) sz_b948
        have g_b949 : n0 ≤ b949 := Nat.le_trans (own_oz O941) sz_b949
        have g_b950 : n0 ≤ b950 := Nat.le_trans (own_oz O941) sz_b950
        have g_b951 : n0 ≤ b951 := Nat.le_trans (own_oz O941) sz_b951
        have g_b952 : n0 ≤ b952 := Nat.le_trans (own_oz O941) sz_b952
        have g_b953 : n0 ≤ b953 := Nat.le_trans (own_oz O941) sz_b953
        have M942 : h0.size ≤ T942.heap.size := Nat.le_trans M941 K960.1
        have O942 := Old.keep O941 K960 (allS g_b941 all0)
        obtain ⟨_, T1061, L1061, X1061, hQ1061, st1061⟩ := own_vb X942 hx hZ hown (y := yn15) (own_w hw 106 rfl) (own_w hw 107 rfl) (own_w hw 109 rfl) (own_w hw 108 rfl) (own_w hw 110 rfl) (own_w hw 2 rfl) rfl f1018 (argsL := []) (rest := []) (rm16 l Z a0 hw [] b941 b943 b944 b945 b946 b947 b948 b949 b950 b951 b952 b953 k954 k955 k956 k957 T942.heap n0 O942 g_b941 g_b943 g_b944 g_b945 g_b946 g_b947 g_b948 g_b949 g_b950 g_b951 g_b952 g_b953 OV1016 OV1017 f1019 f1021 f1022 f1023 f1025 f1026 f1027 f1028 f1029 f1030 f1031 f1033 f1037 f1039 f1041 f1044 f1045 f1046 f1047 f1048 f1049 f1050 f1055 f1057) (g := (mkF m 53 #[.val (.long q1), .second, .val (.long q2), .second, .val (.long q3), .second, .val (.int p4), .val (.int 1), .val (.int 0), .val (.int 0), .val (.ref b941), .unset, .unset, .unset, .unset, .unset, .unset, .unset, .unset, .unset, .unset, .unset, .unset, .unset, .unset, .unset, .unset, .unset, .unset, .unset, .unset, .unset, .unset, .unset] [(.ref b941)])) rfl (by rw [hml]; rfl) rfl (hb hby at_53) (lenOf pd3 rfl) (W := 0) (c1 := 12) (s1 := 136)
        obtain ⟨rfl, Nq1062, e1063⟩ := hQ1061
        have N1061 := Fr.app N942 Nq1062
        obtain ⟨_, T1064, L1064, X1064, hQ1064, st1064⟩ := own_vb X1061 hx hZ hown (y := yn16) (own_w hw 149 rfl) (own_w hw 150 rfl) (own_w hw 152 rfl) (own_w hw 151 rfl) (own_w hw 153 rfl) (own_w hw 2 rfl) e1063 f1018 (argsL := [(.long q1), (.int 1)]) (rest := []) (rm24 l Z a0 hw [] b941 b943 b944 b945 b946 b947 b948 b949 b950 b951 b952 b953 k954 k955 q1 T942.heap n0 O942 g_b941 g_b943 g_b944 g_b945 g_b946 g_b947 g_b948 g_b949 g_b950 g_b951 g_b952 g_b953 OV1016 OV1017 f1018 f1019 f1020 f1021 f1022 f1023 f1024 f1025 f1026 f1027 f1028 f1029 f1030) (g := (mkF m 63 #[.val (.long q1), .second, .val (.long q2), .second, .val (.long q3), .second, .val (.int p4), .val (.int 1), .val (.int 0), .val (.int 0), .val (.ref b941), .val (.long 288), .second, .unset, .unset, .unset, .unset, .unset, .unset, .unset, .unset, .unset, .unset, .unset, .unset, .unset, .unset, .unset, .unset, .unset, .unset, .unset, .unset, .unset] [(.int 1), (.long q1), (.ref b941)])) rfl (by rw [hml]; rfl) rfl (hb hby at_63) (lenOf pd5 rfl) (W := 0) (c1 := 12) (s1 := 136)
        obtain ⟨rfl, Nq1065, K1066, f1067, f1068, f1069, f1070, f1071, f1072, f1073, f1074, f1075, f1076, f1077, f1078, f1079⟩ := hQ1064
        have N1064 := Fr.app N1061 Nq1065
        have M1064 : h0.size ≤ T1064.heap.size := Nat.le_trans M942 K1066.1
        have O1064 := Old.keep O942 K1066 (allS g_b941 all0)
        have f1080 := (f1031.keep K1066)
        have lt1081 : b941 < h941.size := A941.lt
        have ne1082 : b941 ≠ b943 := Nat.ne_of_lt (Nat.lt_of_lt_of_le lt1081 sz_b943)
        have f1083 := (f1033.keep K1066 (ninS (Ne.symm ne1082) nin0))
        have f1084 := (f1037.keep K1066)
        have ne1085 : b941 ≠ b945 := Nat.ne_of_lt (Nat.lt_of_lt_of_le lt1081 sz_b945)
        have f1086 := (f1039.keep K1066 (ninS (Ne.symm ne1085) nin0))
        have f1087 := (f1041.keep K1066)
        have ne1088 : b941 ≠ b946 := Nat.ne_of_lt (Nat.lt_of_lt_of_le lt1081 sz_b946)
        have f1089 := (f1044.keep K1066 (ninS (Ne.symm ne1088) nin0))
        have f1090 := (f1045.keep K1066)
        have ne1091 : b941 ≠ b947 := Nat.ne_of_lt (Nat.lt_of_lt_of_le lt1081 sz_b947)
        have f1092 := (f1046.keep K1066 (ninS (Ne.symm ne1091) nin0))
        have f1093 := (f1047.keep K1066 (ninS (Ne.symm ne1091) nin0))
        have f1094 := (f1048.keep K1066)
        have ne1095 : b941 ≠ b948 := Nat.ne_of_lt (Nat.lt_of_lt_of_le lt1081 sz_b948)
        have f1096 := (f1049.keep K1066 (ninS (Ne.symm ne1095) nin0))
        have f1097 := (f1050.keep K1066 (ninS (Ne.symm ne1095) nin0))
        have ne1098 : b941 ≠ b951 := Nat.ne_of_lt (Nat.lt_of_lt_of_le lt1081 sz_b951)
        have f1099 := (f1055.keep K1066 (ninS (Ne.symm ne1098) nin0))
        have ne1100 : b941 ≠ b952 := Nat.ne_of_lt (Nat.lt_of_lt_of_le lt1081 sz_b952)
        have f1101 := (f1057.keep K1066 (ninS (Ne.symm ne1100) nin0))
        obtain ⟨_, T1102, L1102, X1102, hQ1102, st1102⟩ := own_vb X1064 hx hZ hown (y := yn15) (own_w hw 106 rfl) (own_w hw 107 rfl) (own_w hw 109 rfl) (own_w hw 108 rfl) (own_w hw 110 rfl) (own_w hw 2 rfl) rfl f1067 (argsL := []) (rest := []) (rm21 l Z a0 hw [] b941 b943 b944 b945 b946 b947 b948 b949 b950 b951 b952 b953 k954 k955 (((0 : Int64) + q1)) k956 k957 T1064.heap n0 O1064 g_b941 g_b943 g_b944 g_b945 g_b946 g_b947 g_b948 g_b949 g_b950 g_b951 g_b952 g_b953 OV1016 OV1017 f1068 f1070 f1071 f1072 f1074 f1075 f1076 f1077 f1078 f1079 f1080 f1083 f1084 f1086 f1087 f1089 f1090 f1092 f1093 f1094 f1096 f1097 f1099 f1101) (g := (mkF m 68 #[.val (.long q1), .second, .val (.long q2), .second, .val (.long q3), .second, .val (.int p4), .val (.int 1), .val (.int 0), .val (.int 0), .val (.ref b941), .val (.long 288), .second, .unset, .unset, .unset, .unset, .unset, .unset, .unset, .unset, .unset, .unset, .unset, .unset, .unset, .unset, .unset, .unset, .unset, .unset, .unset, .unset, .unset] [(.ref b941)])) rfl (by rw [hml]; rfl) rfl (hb hby at_68) (lenOf pd3 rfl) (W := 0) (c1 := 12) (s1 := 136)
        obtain ⟨rfl, Nq1103, e1104⟩ := hQ1102
        have N1102 := Fr.app N1064 Nq1103
        obtain ⟨_, T1105, L1105, X1105, hQ1105, st1105⟩ := own_vb X1102 hx hZ hown (y := yn16) (own_w hw 149 rfl) (own_w hw 150 rfl) (own_w hw 152 rfl) (own_w hw 151 rfl) (own_w hw 153 rfl) (own_w hw 2 rfl) e1104 f1067 (argsL := [(.long q2), (.int 0)]) (rest := []) (rm22 l Z a0 hw [] b941 b943 b944 b945 b946 b947 b948 b949 b950 b951 b952 b953 k954 k955 (((0 : Int64) + q1)) q2 T1064.heap n0 O1064 g_b941 g_b943 g_b944 g_b945 g_b946 g_b947 g_b948 g_b949 g_b950 g_b951 g_b952 g_b953 OV1016 OV1017 f1067 f1068 f1069 f1070 f1071 f1072 f1073 f1074 f1075 f1076 f1077 f1078 f1079) (g := (mkF m 78 #[.val (.long q1), .second, .val (.long q2), .second, .val (.long q3), .second, .val (.int p4), .val (.int 1), .val (.int 0), .val (.int 0), .val (.ref b941), .val (.long 288), .second, .val (.long ((((288 : Int64) + (((0 : Int64) + q1) <<< ((1 : Int32) &&& 0x3f).toInt64)) + (0 : Int64)) + (0 : Int64))), .second, .unset, .unset, .unset, .unset, .unset, .unset, .unset, .unset, .unset, .unset, .unset, .unset, .unset, .unset, .unset, .unset, .unset, .unset, .unset] [(.int 0), (.long q2), (.ref b941)])) rfl (by rw [hml]; rfl) rfl (hb hby at_78) (lenOf pd5 rfl) (W := 0) (c1 := 12) (s1 := 136)
        obtain ⟨rfl, Nq1106, K1107, f1108, f1109, f1110, f1111, f1112, f1113, f1114, f1115, f1116, f1117, f1118, f1119, f1120⟩ := hQ1105
        have N1105 := Fr.app N1102 Nq1106
        have M1105 : h0.size ≤ T1105.heap.size := Nat.le_trans M1064 K1107.1
        have O1105 := Old.keep O1064 K1107 (allS g_b941 all0)
        have f1121 := (f1080.keep K1107)
        have f1122 := (f1083.keep K1107 (ninS (Ne.symm ne1082) nin0))
        have f1123 := (f1084.keep K1107)
        have f1124 := (f1086.keep K1107 (ninS (Ne.symm ne1085) nin0))
        have f1125 := (f1087.keep K1107)
        have f1126 := (f1089.keep K1107 (ninS (Ne.symm ne1088) nin0))
        have f1127 := (f1090.keep K1107)
        have f1128 := (f1092.keep K1107 (ninS (Ne.symm ne1091) nin0))
        have f1129 := (f1093.keep K1107 (ninS (Ne.symm ne1091) nin0))
        have f1130 := (f1094.keep K1107)
        have f1131 := (f1096.keep K1107 (ninS (Ne.symm ne1095) nin0))
        have f1132 := (f1097.keep K1107 (ninS (Ne.symm ne1095) nin0))
        have f1133 := (f1099.keep K1107 (ninS (Ne.symm ne1098) nin0))
        have f1134 := (f1101.keep K1107 (ninS (Ne.symm ne1100) nin0))
        obtain ⟨_, T1135, L1135, X1135, hQ1135, st1135⟩ := own_vb X1105 hx hZ hown (y := yn15) (own_w hw 106 rfl) (own_w hw 107 rfl) (own_w hw 109 rfl) (own_w hw 108 rfl) (own_w hw 110 rfl) (own_w hw 2 rfl) rfl f1108 (argsL := []) (rest := []) (rm21 l Z a0 hw [] b941 b943 b944 b945 b946 b947 b948 b949 b950 b951 b952 b953 k954 k955 ((((0 : Int64) + q1) + q2)) k956 k957 T1105.heap n0 O1105 g_b941 g_b943 g_b944 g_b945 g_b946 g_b947 g_b948 g_b949 g_b950 g_b951 g_b952 g_b953 OV1016 OV1017 f1109 f1111 f1112 f1113 f1115 f1116 f1117 f1118 f1119 f1120 f1121 f1122 f1123 f1124 f1125 f1126 f1127 f1128 f1129 f1130 f1131 f1132 f1133 f1134) (g := (mkF m 83 #[.val (.long q1), .second, .val (.long q2), .second, .val (.long q3), .second, .val (.int p4), .val (.int 1), .val (.int 0), .val (.int 0), .val (.ref b941), .val (.long 288), .second, .val (.long ((((288 : Int64) + (((0 : Int64) + q1) <<< ((1 : Int32) &&& 0x3f).toInt64)) + (0 : Int64)) + (0 : Int64))), .second, .unset, .unset, .unset, .unset, .unset, .unset, .unset, .unset, .unset, .unset, .unset, .unset, .unset, .unset, .unset, .unset, .unset, .unset, .unset] [(.ref b941)])) rfl (by rw [hml]; rfl) rfl (hb hby at_83) (lenOf pd3 rfl) (W := 0) (c1 := 12) (s1 := 136)
        obtain ⟨rfl, Nq1136, e1137⟩ := hQ1135
        have N1135 := Fr.app N1105 Nq1136
        obtain ⟨_, T1138, L1138, X1138, hQ1138, st1138⟩ := own_vb X1135 hx hZ hown (y := yn16) (own_w hw 149 rfl) (own_w hw 150 rfl) (own_w hw 152 rfl) (own_w hw 151 rfl) (own_w hw 153 rfl) (own_w hw 2 rfl) e1137 f1108 (argsL := [(.long q3), (.int 0)]) (rest := []) (rm22 l Z a0 hw [] b941 b943 b944 b945 b946 b947 b948 b949 b950 b951 b952 b953 k954 k955 ((((0 : Int64) + q1) + q2)) q3 T1105.heap n0 O1105 g_b941 g_b943 g_b944 g_b945 g_b946 g_b947 g_b948 g_b949 g_b950 g_b951 g_b952 g_b953 OV1016 OV1017 f1108 f1109 f1110 f1111 f1112 f1113 f1114 f1115 f1116 f1117 f1118 f1119 f1120) (g := (mkF m 94 #[.val (.long q1), .second, .val (.long q2), .second, .val (.long q3), .second, .val (.int p4), .val (.int 1), .val (.int 0), .val (.int 0), .val (.ref b941), .val (.long 288), .second, .val (.long ((((288 : Int64) + (((0 : Int64) + q1) <<< ((1 : Int32) &&& 0x3f).toInt64)) + (0 : Int64)) + (0 : Int64))), .second, .val (.long ((((288 : Int64) + ((((0 : Int64) + q1) + q2) <<< ((1 : Int32) &&& 0x3f).toInt64)) + (0 : Int64)) + (0 : Int64))), .second, .unset, .unset, .unset, .unset, .unset, .unset, .unset, .unset, .unset, .unset, .unset, .unset, .unset, .unset, .unset, .unset, .unset] [(.int 0), (.long q3), (.ref b941)])) rfl (by rw [hml]; rfl) rfl (hb hby at_94) (lenOf pd5 rfl) (W := 0) (c1 := 12) (s1 := 136)
        obtain ⟨rfl, Nq1139, K1140, f1141, f1142, f1143, f1144, f1145, f1146, f1147, f1148, f1149, f1150, f1151, f1152, f1153⟩ := hQ1138
        have N1138 := Fr.app N1135 Nq1139
        have M1138 : h0.size ≤ T1138.heap.size := Nat.le_trans M1105 K1140.1
        have O1138 := Old.keep O1105 K1140 (allS g_b941 all0)
        have f1154 := (f1121.keep K1140)
        have f1155 := (f1122.keep K1140 (ninS (Ne.symm ne1082) nin0))
        have f1156 := (f1123.keep K1140)
        have f1157 := (f1124.keep K1140 (ninS (Ne.symm ne1085) nin0))
        have f1158 := (f1125.keep K1140)
        have f1159 := (f1126.keep K1140 (ninS (Ne.symm ne1088) nin0))
        have f1160 := (f1127.keep K1140)
        have f1161 := (f1128.keep K1140 (ninS (Ne.symm ne1091) nin0))
        have f1162 := (f1129.keep K1140 (ninS (Ne.symm ne1091) nin0))
        have f1163 := (f1130.keep K1140)
        have f1164 := (f1131.keep K1140 (ninS (Ne.symm ne1095) nin0))
        have f1165 := (f1132.keep K1140 (ninS (Ne.symm ne1095) nin0))
        have f1166 := (f1133.keep K1140 (ninS (Ne.symm ne1098) nin0))
        have f1167 := (f1134.keep K1140 (ninS (Ne.symm ne1100) nin0))
        obtain ⟨_, T1168, L1168, X1168, hQ1168, st1168⟩ := own_vb X1138 hx hZ hown (y := yn15) (own_w hw 106 rfl) (own_w hw 107 rfl) (own_w hw 109 rfl) (own_w hw 108 rfl) (own_w hw 110 rfl) (own_w hw 2 rfl) rfl f1141 (argsL := []) (rest := []) (rm21 l Z a0 hw [] b941 b943 b944 b945 b946 b947 b948 b949 b950 b951 b952 b953 k954 k955 (((((0 : Int64) + q1) + q2) + q3)) k956 k957 T1138.heap n0 O1138 g_b941 g_b943 g_b944 g_b945 g_b946 g_b947 g_b948 g_b949 g_b950 g_b951 g_b952 g_b953 OV1016 OV1017 f1142 f1144 f1145 f1146 f1148 f1149 f1150 f1151 f1152 f1153 f1154 f1155 f1156 f1157 f1158 f1159 f1160 f1161 f1162 f1163 f1164 f1165 f1166 f1167) (g := (mkF m 99 #[.val (.long q1), .second, .val (.long q2), .second, .val (.long q3), .second, .val (.int p4), .val (.int 1), .val (.int 0), .val (.int 0), .val (.ref b941), .val (.long 288), .second, .val (.long ((((288 : Int64) + (((0 : Int64) + q1) <<< ((1 : Int32) &&& 0x3f).toInt64)) + (0 : Int64)) + (0 : Int64))), .second, .val (.long ((((288 : Int64) + ((((0 : Int64) + q1) + q2) <<< ((1 : Int32) &&& 0x3f).toInt64)) + (0 : Int64)) + (0 : Int64))), .second, .unset, .unset, .unset, .unset, .unset, .unset, .unset, .unset, .unset, .unset, .unset, .unset, .unset, .unset, .unset, .unset, .unset] [(.ref b941)])) rfl (by rw [hml]; rfl) rfl (hb hby at_99) (lenOf pd3 rfl) (W := 0) (c1 := 12) (s1 := 136)
        obtain ⟨rfl, Nq1169, e1170⟩ := hQ1168
        have N1168 := Fr.app N1138 Nq1169
        obtain ⟨fs, hr, hrun, hended, hW, hsame⟩ := X1168.leave (v := some (.int 1)) (fun h => by rw [hret] at h; cases h)
        refine ⟨_, _, pre940 _ ?_, hrun, hended, _, _, rfl, ?_, ⟨_, rfl⟩, hW, hsame.mono (by decide) (by decide)⟩
        ·
          show Steps p.tables e below (s₁.setTop (mkF m 32 #[.val (.long q1), .second, .val (.long q2), .second, .val (.long q3), .second, .val (.int p4), .val (.int 1), .val (.int 0), .unset, .unset, .unset, .unset, .unset, .unset, .unset, .unset, .unset, .unset, .unset, .unset, .unset, .unset, .unset, .unset, .unset, .unset, .unset, .unset, .unset, .unset, .unset, .unset, .unset] [(.int 0)])) _
          refine XS.ifYes X0.here hx rfl (pc0 := 32) (pc' := 39) rfl (hb hby at_32) rfl ((if0 _ _).trans (teq (by decide : (0 : Int32) = (0 : Int32))).1) (by decide) (by decide) ?_
          refine XS.iconst X0.here hx rfl (hb hby at_39) ?_
          refine XS.istore X0.here hx rfl (hb hby at_40) rfl (l' := #[.val (.long q1), .second, .val (.long q2), .second, .val (.long q3), .second, .val (.int p4), .val (.int 1), .val (.int 0), .val (.int 0), .unset, .unset, .unset, .unset, .unset, .unset, .unset, .unset, .unset, .unset, .unset, .unset, .unset, .unset, .unset, .unset, .unset, .unset, .unset, .unset, .unset, .unset, .unset, .unset]) rfl ?_
          refine st941 _ ?_
          refine XS.dup X941.here hx rfl (hb hby at_45) rfl rfl ?_
          refine st942 _ ?_
          refine XS.astore X942.here hx rfl (hb hby at_49) rfl rfl (l' := #[.val (.long q1), .second, .val (.long q2), .second, .val (.long q3), .second, .val (.int p4), .val (.int 1), .val (.int 0), .val (.int 0), .val (.ref b941), .unset, .unset, .unset, .unset, .unset, .unset, .unset, .unset, .unset, .unset, .unset, .unset, .unset, .unset, .unset, .unset, .unset, .unset, .unset, .unset, .unset, .unset, .unset]) rfl ?_
          refine XS.aload X942.here hx rfl (hb hby at_51) rfl rfl ?_
          refine st1061 _ ?_
          refine XS.lstore X1061.here hx rfl (hb hby at_56) rfl (l' := #[.val (.long q1), .second, .val (.long q2), .second, .val (.long q3), .second, .val (.int p4), .val (.int 1), .val (.int 0), .val (.int 0), .val (.ref b941), .val (.long 288), .second, .unset, .unset, .unset, .unset, .unset, .unset, .unset, .unset, .unset, .unset, .unset, .unset, .unset, .unset, .unset, .unset, .unset, .unset, .unset, .unset, .unset]) rfl ?_
          refine XS.aload X1061.here hx rfl (hb hby at_58) rfl rfl ?_
          refine XS.lloadN X1061.here hx rfl (hb hby at_60) rfl ?_
          refine XS.iload X1061.here hx rfl (hb hby at_61) rfl ?_
          refine st1064 _ ?_
          refine XS.aload X1064.here hx rfl (hb hby at_66) rfl rfl ?_
          refine st1102 _ ?_
          refine XS.lstore X1102.here hx rfl (hb hby at_71) rfl (l' := #[.val (.long q1), .second, .val (.long q2), .second, .val (.long q3), .second, .val (.int p4), .val (.int 1), .val (.int 0), .val (.int 0), .val (.ref b941), .val (.long 288), .second, .val (.long ((((288 : Int64) + (((0 : Int64) + q1) <<< ((1 : Int32) &&& 0x3f).toInt64)) + (0 : Int64)) + (0 : Int64))), .second, .unset, .unset, .unset, .unset, .unset, .unset, .unset, .unset, .unset, .unset, .unset, .unset, .unset, .unset, .unset, .unset, .unset, .unset, .unset]) rfl ?_
          refine XS.aload X1102.here hx rfl (hb hby at_73) rfl rfl ?_
          refine XS.lloadN X1102.here hx rfl (hb hby at_75) rfl ?_
          refine XS.iload X1102.here hx rfl (hb hby at_76) rfl ?_
          refine st1105 _ ?_
          refine XS.aload X1105.here hx rfl (hb hby at_81) rfl rfl ?_
          refine st1135 _ ?_
          refine XS.lstore X1135.here hx rfl (hb hby at_86) rfl (l' := #[.val (.long q1), .second, .val (.long q2), .second, .val (.long q3), .second, .val (.int p4), .val (.int 1), .val (.int 0), .val (.int 0), .val (.ref b941), .val (.long 288), .second, .val (.long ((((288 : Int64) + (((0 : Int64) + q1) <<< ((1 : Int32) &&& 0x3f).toInt64)) + (0 : Int64)) + (0 : Int64))), .second, .val (.long ((((288 : Int64) + ((((0 : Int64) + q1) + q2) <<< ((1 : Int32) &&& 0x3f).toInt64)) + (0 : Int64)) + (0 : Int64))), .second, .unset, .unset, .unset, .unset, .unset, .unset, .unset, .unset, .unset, .unset, .unset, .unset, .unset, .unset, .unset, .unset, .unset]) rfl ?_
          show Steps p.tables e below (T1135.setTop (mkF m 88 #[.val (.long q1), .second, .val (.long q2), .second, .val (.long q3), .second, .val (.int p4), .val (.int 1), .val (.int 0), .val (.int 0), .val (.ref b941), .val (.long 288), .second, .val (.long ((((288 : Int64) + (((0 : Int64) + q1) <<< ((1 : Int32) &&& 0x3f).toInt64)) + (0 : Int64)) + (0 : Int64))), .second, .val (.long ((((288 : Int64) + ((((0 : Int64) + q1) + q2) <<< ((1 : Int32) &&& 0x3f).toInt64)) + (0 : Int64)) + (0 : Int64))), .second, .unset, .unset, .unset, .unset, .unset, .unset, .unset, .unset, .unset, .unset, .unset, .unset, .unset, .unset, .unset, .unset, .unset] [])) _
          refine XS.aload X1135.here hx rfl (hb hby at_88) rfl rfl ?_
          refine XS.lload X1135.here hx rfl (hb hby at_90) rfl ?_
          refine XS.iload X1135.here hx rfl (hb hby at_92) rfl ?_
          refine st1138 _ ?_
          refine XS.aload X1138.here hx rfl (hb hby at_97) rfl rfl ?_
          refine st1168 _ ?_
          refine XS.lstore X1168.here hx rfl (hb hby at_102) rfl (l' := #[.val (.long q1), .second, .val (.long q2), .second, .val (.long q3), .second, .val (.int p4), .val (.int 1), .val (.int 0), .val (.int 0), .val (.ref b941), .val (.long 288), .second, .val (.long ((((288 : Int64) + (((0 : Int64) + q1) <<< ((1 : Int32) &&& 0x3f).toInt64)) + (0 : Int64)) + (0 : Int64))), .second, .val (.long ((((288 : Int64) + ((((0 : Int64) + q1) + q2) <<< ((1 : Int32) &&& 0x3f).toInt64)) + (0 : Int64)) + (0 : Int64))), .second, .val (.long ((((288 : Int64) + (((((0 : Int64) + q1) + q2) + q3) <<< ((1 : Int32) &&& 0x3f).toInt64)) + (0 : Int64)) + (0 : Int64))), .second, .unset, .unset, .unset, .unset, .unset, .unset, .unset, .unset, .unset, .unset, .unset, .unset, .unset, .unset, .unset]) rfl ?_
          refine XS.lloadN X1168.here hx rfl (hb hby at_104) rfl ?_
          refine XS.lstore X1168.here hx rfl (hb hby at_105) rfl (l' := #[.val (.long q1), .second, .val (.long q2), .second, .val (.long q3), .second, .val (.int p4), .val (.int 1), .val (.int 0), .val (.int 0), .val (.ref b941), .val (.long 288), .second, .val (.long ((((288 : Int64) + (((0 : Int64) + q1) <<< ((1 : Int32) &&& 0x3f).toInt64)) + (0 : Int64)) + (0 : Int64))), .second, .val (.long ((((288 : Int64) + ((((0 : Int64) + q1) + q2) <<< ((1 : Int32) &&& 0x3f).toInt64)) + (0 : Int64)) + (0 : Int64))), .second, .val (.long ((((288 : Int64) + (((((0 : Int64) + q1) + q2) + q3) <<< ((1 : Int32) &&& 0x3f).toInt64)) + (0 : Int64)) + (0 : Int64))), .second, .val (.long q1), .second, .unset, .unset, .unset, .unset, .unset, .unset, .unset, .unset, .unset, .unset, .unset, .unset, .unset]) rfl ?_
          refine XS.lloadN X1168.here hx rfl (hb hby at_107) rfl ?_
          refine XS.lloadN X1168.here hx rfl (hb hby at_108) rfl ?_
          refine XS.ladd X1168.here hx rfl (hb hby at_109) rfl ?_
          refine XS.lstore X1168.here hx rfl (hb hby at_110) rfl (l' := #[.val (.long q1), .second, .val (.long q2), .second, .val (.long q3), .second, .val (.int p4), .val (.int 1), .val (.int 0), .val (.int 0), .val (.ref b941), .val (.long 288), .second, .val (.long ((((288 : Int64) + (((0 : Int64) + q1) <<< ((1 : Int32) &&& 0x3f).toInt64)) + (0 : Int64)) + (0 : Int64))), .second, .val (.long ((((288 : Int64) + ((((0 : Int64) + q1) + q2) <<< ((1 : Int32) &&& 0x3f).toInt64)) + (0 : Int64)) + (0 : Int64))), .second, .val (.long ((((288 : Int64) + (((((0 : Int64) + q1) + q2) + q3) <<< ((1 : Int32) &&& 0x3f).toInt64)) + (0 : Int64)) + (0 : Int64))), .second, .val (.long q1), .second, .val (.long (q1 + q2)), .second, .unset, .unset, .unset, .unset, .unset, .unset, .unset, .unset, .unset, .unset, .unset]) rfl ?_
          refine XS.lloadN X1168.here hx rfl (hb hby at_112) rfl ?_
          refine XS.lloadN X1168.here hx rfl (hb hby at_113) rfl ?_
          refine XS.ladd X1168.here hx rfl (hb hby at_114) rfl ?_
          refine XS.lload X1168.here hx rfl (hb hby at_115) rfl ?_
          refine XS.ladd X1168.here hx rfl (hb hby at_117) rfl ?_
          refine XS.lstore X1168.here hx rfl (hb hby at_118) rfl (l' := #[.val (.long q1), .second, .val (.long q2), .second, .val (.long q3), .second, .val (.int p4), .val (.int 1), .val (.int 0), .val (.int 0), .val (.ref b941), .val (.long 288), .second, .val (.long ((((288 : Int64) + (((0 : Int64) + q1) <<< ((1 : Int32) &&& 0x3f).toInt64)) + (0 : Int64)) + (0 : Int64))), .second, .val (.long ((((288 : Int64) + ((((0 : Int64) + q1) + q2) <<< ((1 : Int32) &&& 0x3f).toInt64)) + (0 : Int64)) + (0 : Int64))), .second, .val (.long ((((288 : Int64) + (((((0 : Int64) + q1) + q2) + q3) <<< ((1 : Int32) &&& 0x3f).toInt64)) + (0 : Int64)) + (0 : Int64))), .second, .val (.long q1), .second, .val (.long (q1 + q2)), .second, .val (.long ((q1 + q2) + q3)), .second, .unset, .unset, .unset, .unset, .unset, .unset, .unset, .unset, .unset]) rfl ?_
          refine XS.iload X1168.here hx rfl (hb hby at_120) rfl ?_
          refine XS.istore X1168.here hx rfl (hb hby at_122) rfl (l' := #[.val (.long q1), .second, .val (.long q2), .second, .val (.long q3), .second, .val (.int p4), .val (.int 1), .val (.int 0), .val (.int 0), .val (.ref b941), .val (.long 288), .second, .val (.long ((((288 : Int64) + (((0 : Int64) + q1) <<< ((1 : Int32) &&& 0x3f).toInt64)) + (0 : Int64)) + (0 : Int64))), .second, .val (.long ((((288 : Int64) + ((((0 : Int64) + q1) + q2) <<< ((1 : Int32) &&& 0x3f).toInt64)) + (0 : Int64)) + (0 : Int64))), .second, .val (.long ((((288 : Int64) + (((((0 : Int64) + q1) + q2) + q3) <<< ((1 : Int32) &&& 0x3f).toInt64)) + (0 : Int64)) + (0 : Int64))), .second, .val (.long q1), .second, .val (.long (q1 + q2)), .second, .val (.long ((q1 + q2) + q3)), .second, .val (.int 1), .unset, .unset, .unset, .unset, .unset, .unset, .unset, .unset]) rfl ?_
          refine XS.iload X1168.here hx rfl (hb hby at_124) rfl ?_
          refine XS.ifYes X1168.here hx rfl (pc0 := 126) (pc' := 134) rfl (hb hby at_126) rfl ((if0 _ _).trans (feq (by decide : ¬ ((1 : Int32) = (0 : Int32)))).2) (by decide) (by decide) ?_
          refine XS.iconst X1168.here hx rfl (hb hby at_134) ?_
          refine XS.goto X1168.here hx rfl (pc0 := 135) (pc' := 139) rfl (hb hby at_135) (by decide) (by decide) ?_
          refine XS.istore X1168.here hx rfl (hb hby at_139) rfl (l' := #[.val (.long q1), .second, .val (.long q2), .second, .val (.long q3), .second, .val (.int p4), .val (.int 1), .val (.int 0), .val (.int 0), .val (.ref b941), .val (.long 288), .second, .val (.long ((((288 : Int64) + (((0 : Int64) + q1) <<< ((1 : Int32) &&& 0x3f).toInt64)) + (0 : Int64)) + (0 : Int64))), .second, .val (.long ((((288 : Int64) + ((((0 : Int64) + q1) + q2) <<< ((1 : Int32) &&& 0x3f).toInt64)) + (0 : Int64)) + (0 : Int64))), .second, .val (.long ((((288 : Int64) + (((((0 : Int64) + q1) + q2) + q3) <<< ((1 : Int32) &&& 0x3f).toInt64)) + (0 : Int64)) + (0 : Int64))), .second, .val (.long q1), .second, .val (.long (q1 + q2)), .second, .val (.long ((q1 + q2) + q3)), .second, .val (.int 1), .val (.int 1), .unset, .unset, .unset, .unset, .unset, .unset, .unset]) rfl ?_
          refine XS.iload X1168.here hx rfl (hb hby at_141) rfl ?_
          refine XS.ifYes X1168.here hx rfl (pc0 := 143) (pc' := 156) rfl (hb hby at_143) rfl ((if0 _ _).trans (feq (by decide : ¬ ((1 : Int32) = (0 : Int32)))).2) (by decide) (by decide) ?_
          refine XS.iconst X1168.here hx rfl (hb hby at_156) ?_
          refine XS.goto X1168.here hx rfl (pc0 := 157) (pc' := 161) rfl (hb hby at_157) (by decide) (by decide) ?_
          refine XS.istore X1168.here hx rfl (hb hby at_161) rfl (l' := #[.val (.long q1), .second, .val (.long q2), .second, .val (.long q3), .second, .val (.int p4), .val (.int 1), .val (.int 0), .val (.int 0), .val (.ref b941), .val (.long 288), .second, .val (.long ((((288 : Int64) + (((0 : Int64) + q1) <<< ((1 : Int32) &&& 0x3f).toInt64)) + (0 : Int64)) + (0 : Int64))), .second, .val (.long ((((288 : Int64) + ((((0 : Int64) + q1) + q2) <<< ((1 : Int32) &&& 0x3f).toInt64)) + (0 : Int64)) + (0 : Int64))), .second, .val (.long ((((288 : Int64) + (((((0 : Int64) + q1) + q2) + q3) <<< ((1 : Int32) &&& 0x3f).toInt64)) + (0 : Int64)) + (0 : Int64))), .second, .val (.long q1), .second, .val (.long (q1 + q2)), .second, .val (.long ((q1 + q2) + q3)), .second, .val (.int 1), .val (.int 1), .val (.int 1), .unset, .unset, .unset, .unset, .unset, .unset]) rfl ?_
          refine XS.iload X1168.here hx rfl (hb hby at_163) rfl ?_
          refine XS.ifNo X1168.here hx rfl (hb hby at_165) rfl ((if0 _ _).trans (feq (by decide : ¬ ((1 : Int32) = (0 : Int32)))).1) ?_
          refine XS.lload X1168.here hx rfl (hb hby at_168) rfl ?_
          refine XS.iconst X1168.here hx rfl (hb hby at_170) ?_
          refine XS.lshl X1168.here hx rfl (hb hby at_171) rfl ?_
          refine XS.goto X1168.here hx rfl (pc0 := 172) (pc' := 177) rfl (hb hby at_172) (by decide) (by decide) ?_
          refine XS.lstore X1168.here hx rfl (hb hby at_177) rfl (l' := #[.val (.long q1), .second, .val (.long q2), .second, .val (.long q3), .second, .val (.int p4), .val (.int 1), .val (.int 0), .val (.int 0), .val (.ref b941), .val (.long 288), .second, .val (.long ((((288 : Int64) + (((0 : Int64) + q1) <<< ((1 : Int32) &&& 0x3f).toInt64)) + (0 : Int64)) + (0 : Int64))), .second, .val (.long ((((288 : Int64) + ((((0 : Int64) + q1) + q2) <<< ((1 : Int32) &&& 0x3f).toInt64)) + (0 : Int64)) + (0 : Int64))), .second, .val (.long ((((288 : Int64) + (((((0 : Int64) + q1) + q2) + q3) <<< ((1 : Int32) &&& 0x3f).toInt64)) + (0 : Int64)) + (0 : Int64))), .second, .val (.long q1), .second, .val (.long (q1 + q2)), .second, .val (.long ((q1 + q2) + q3)), .second, .val (.int 1), .val (.int 1), .val (.int 1), .val (.long (q1 <<< ((1 : Int32) &&& 0x3f).toInt64)), .second, .unset, .unset, .unset, .unset]) rfl ?_
          refine XS.iload X1168.here hx rfl (hb hby at_179) rfl ?_
          refine XS.ifNo X1168.here hx rfl (hb hby at_181) rfl ((if0 _ _).trans (feq (by decide : ¬ ((1 : Int32) = (0 : Int32)))).1) ?_
          show Steps p.tables e below (T1168.setTop (mkF m 184 #[.val (.long q1), .second, .val (.long q2), .second, .val (.long q3), .second, .val (.int p4), .val (.int 1), .val (.int 0), .val (.int 0), .val (.ref b941), .val (.long 288), .second, .val (.long ((((288 : Int64) + (((0 : Int64) + q1) <<< ((1 : Int32) &&& 0x3f).toInt64)) + (0 : Int64)) + (0 : Int64))), .second, .val (.long ((((288 : Int64) + ((((0 : Int64) + q1) + q2) <<< ((1 : Int32) &&& 0x3f).toInt64)) + (0 : Int64)) + (0 : Int64))), .second, .val (.long ((((288 : Int64) + (((((0 : Int64) + q1) + q2) + q3) <<< ((1 : Int32) &&& 0x3f).toInt64)) + (0 : Int64)) + (0 : Int64))), .second, .val (.long q1), .second, .val (.long (q1 + q2)), .second, .val (.long ((q1 + q2) + q3)), .second, .val (.int 1), .val (.int 1), .val (.int 1), .val (.long (q1 <<< ((1 : Int32) &&& 0x3f).toInt64)), .second, .unset, .unset, .unset, .unset] [])) _
          refine XS.lload X1168.here hx rfl (hb hby at_184) rfl ?_
          refine XS.iconst X1168.here hx rfl (hb hby at_186) ?_
          refine XS.lshl X1168.here hx rfl (hb hby at_187) rfl ?_
          refine XS.goto X1168.here hx rfl (pc0 := 188) (pc' := 193) rfl (hb hby at_188) (by decide) (by decide) ?_
          refine XS.lstore X1168.here hx rfl (hb hby at_193) rfl (l' := #[.val (.long q1), .second, .val (.long q2), .second, .val (.long q3), .second, .val (.int p4), .val (.int 1), .val (.int 0), .val (.int 0), .val (.ref b941), .val (.long 288), .second, .val (.long ((((288 : Int64) + (((0 : Int64) + q1) <<< ((1 : Int32) &&& 0x3f).toInt64)) + (0 : Int64)) + (0 : Int64))), .second, .val (.long ((((288 : Int64) + ((((0 : Int64) + q1) + q2) <<< ((1 : Int32) &&& 0x3f).toInt64)) + (0 : Int64)) + (0 : Int64))), .second, .val (.long ((((288 : Int64) + (((((0 : Int64) + q1) + q2) + q3) <<< ((1 : Int32) &&& 0x3f).toInt64)) + (0 : Int64)) + (0 : Int64))), .second, .val (.long q1), .second, .val (.long (q1 + q2)), .second, .val (.long ((q1 + q2) + q3)), .second, .val (.int 1), .val (.int 1), .val (.int 1), .val (.long (q1 <<< ((1 : Int32) &&& 0x3f).toInt64)), .second, .val (.long ((q1 + q2) <<< ((1 : Int32) &&& 0x3f).toInt64)), .second, .unset, .unset]) rfl ?_
          refine XS.iload X1168.here hx rfl (hb hby at_195) rfl ?_
          refine XS.ifNo X1168.here hx rfl (hb hby at_197) rfl ((if0 _ _).trans (feq (by decide : ¬ ((1 : Int32) = (0 : Int32)))).1) ?_
          refine XS.lload X1168.here hx rfl (hb hby at_200) rfl ?_
          refine XS.iconst X1168.here hx rfl (hb hby at_202) ?_
          refine XS.lshl X1168.here hx rfl (hb hby at_203) rfl ?_
          refine XS.goto X1168.here hx rfl (pc0 := 204) (pc' := 209) rfl (hb hby at_204) (by decide) (by decide) ?_
          refine XS.lstore X1168.here hx rfl (hb hby at_209) rfl (l' := #[.val (.long q1), .second, .val (.long q2), .second, .val (.long q3), .second, .val (.int p4), .val (.int 1), .val (.int 0), .val (.int 0), .val (.ref b941), .val (.long 288), .second, .val (.long ((((288 : Int64) + (((0 : Int64) + q1) <<< ((1 : Int32) &&& 0x3f).toInt64)) + (0 : Int64)) + (0 : Int64))), .second, .val (.long ((((288 : Int64) + ((((0 : Int64) + q1) + q2) <<< ((1 : Int32) &&& 0x3f).toInt64)) + (0 : Int64)) + (0 : Int64))), .second, .val (.long ((((288 : Int64) + (((((0 : Int64) + q1) + q2) + q3) <<< ((1 : Int32) &&& 0x3f).toInt64)) + (0 : Int64)) + (0 : Int64))), .second, .val (.long q1), .second, .val (.long (q1 + q2)), .second, .val (.long ((q1 + q2) + q3)), .second, .val (.int 1), .val (.int 1), .val (.int 1), .val (.long (q1 <<< ((1 : Int32) &&& 0x3f).toInt64)), .second, .val (.long ((q1 + q2) <<< ((1 : Int32) &&& 0x3f).toInt64)), .second, .val (.long (((q1 + q2) + q3) <<< ((1 : Int32) &&& 0x3f).toInt64)), .second]) rfl ?_
          refine XS.lload X1168.here hx rfl (hb hby at_211) rfl ?_
          refine XS.lload X1168.here hx rfl (hb hby at_213) rfl ?_
          refine XS.lsub X1168.here hx rfl (hb hby at_215) rfl ?_
          refine XS.lload X1168.here hx rfl (hb hby at_216) rfl ?_
          refine XS.lcmp X1168.here hx rfl (hb hby at_218) rfl ?_
          refine XS.ifNo X1168.here hx rfl (hb hby at_219) rfl ((if0 _ _).trans (teq ((lw_eq _ _).mpr (by rw [own_h]; simp only [Int64.zero_add, own_s0] : (((((288 : Int64) + (((0 : Int64) + q1) <<< ((1 : Int32) &&& 0x3f).toInt64)) + (0 : Int64)) + (0 : Int64)) - (288 : Int64)) = (q1 <<< ((1 : Int32) &&& 0x3f).toInt64)))).2) ?_
          refine XS.lload X1168.here hx rfl (hb hby at_222) rfl ?_
          refine XS.lload X1168.here hx rfl (hb hby at_224) rfl ?_
          refine XS.lsub X1168.here hx rfl (hb hby at_226) rfl ?_
          refine XS.lload X1168.here hx rfl (hb hby at_227) rfl ?_
          refine XS.lcmp X1168.here hx rfl (hb hby at_229) rfl ?_
          refine XS.ifNo X1168.here hx rfl (hb hby at_230) rfl ((if0 _ _).trans (teq ((lw_eq _ _).mpr (by rw [own_h]; simp only [Int64.zero_add, own_s0] : (((((288 : Int64) + ((((0 : Int64) + q1) + q2) <<< ((1 : Int32) &&& 0x3f).toInt64)) + (0 : Int64)) + (0 : Int64)) - (288 : Int64)) = ((q1 + q2) <<< ((1 : Int32) &&& 0x3f).toInt64)))).2) ?_
          refine XS.lload X1168.here hx rfl (hb hby at_233) rfl ?_
          refine XS.lload X1168.here hx rfl (hb hby at_235) rfl ?_
          refine XS.lsub X1168.here hx rfl (hb hby at_237) rfl ?_
          refine XS.lload X1168.here hx rfl (hb hby at_238) rfl ?_
          refine XS.lcmp X1168.here hx rfl (hb hby at_240) rfl ?_
          refine XS.ifNo X1168.here hx rfl (hb hby at_241) rfl ((if0 _ _).trans (teq ((lw_eq _ _).mpr (by rw [own_h]; simp only [Int64.zero_add, own_s0] : (((((288 : Int64) + (((((0 : Int64) + q1) + q2) + q3) <<< ((1 : Int32) &&& 0x3f).toInt64)) + (0 : Int64)) + (0 : Int64)) - (288 : Int64)) = (((q1 + q2) + q3) <<< ((1 : Int32) &&& 0x3f).toInt64)))).2) ?_
          refine XS.iconst X1168.here hx rfl (hb hby at_244) ?_
          refine XS.goto X1168.here hx rfl (pc0 := 245) (pc' := 249) rfl (hb hby at_245) (by decide) (by decide) ?_
          show Steps p.tables e below (T1168.setTop (mkF m 249 #[.val (.long q1), .second, .val (.long q2), .second, .val (.long q3), .second, .val (.int p4), .val (.int 1), .val (.int 0), .val (.int 0), .val (.ref b941), .val (.long 288), .second, .val (.long ((((288 : Int64) + (((0 : Int64) + q1) <<< ((1 : Int32) &&& 0x3f).toInt64)) + (0 : Int64)) + (0 : Int64))), .second, .val (.long ((((288 : Int64) + ((((0 : Int64) + q1) + q2) <<< ((1 : Int32) &&& 0x3f).toInt64)) + (0 : Int64)) + (0 : Int64))), .second, .val (.long ((((288 : Int64) + (((((0 : Int64) + q1) + q2) + q3) <<< ((1 : Int32) &&& 0x3f).toInt64)) + (0 : Int64)) + (0 : Int64))), .second, .val (.long q1), .second, .val (.long (q1 + q2)), .second, .val (.long ((q1 + q2) + q3)), .second, .val (.int 1), .val (.int 1), .val (.int 1), .val (.long (q1 <<< ((1 : Int32) &&& 0x3f).toInt64)), .second, .val (.long ((q1 + q2) <<< ((1 : Int32) &&& 0x3f).toInt64)), .second, .val (.long (((q1 + q2) + q3) <<< ((1 : Int32) &&& 0x3f).toInt64)), .second] [(.int 1)])) _
          exact retN X1168 hx (t := .boolean) hret (by simp) (hb hby at_249) hr
        ·
          show Q0 n0 _ T1168.heap _
          rw [e1170]
          exact ⟨rfl, N1168⟩
      ·
        obtain ⟨T1171, h1171, X1171, e1171, E1171, A1171, D1171, -, st1171⟩ := newO X0 hx hZ hown (own_w hw 0 rfl) (own_w hw 1 rfl) (own_w hw 2 rfl) e0 (g := (mkF m 42 #[.val (.long q1), .second, .val (.long q2), .second, .val (.long q3), .second, .val (.int p4), .val (.int 1), .val (.int 0), .val (.int 1), .unset, .unset, .unset, .unset, .unset, .unset, .unset, .unset, .unset, .unset, .unset, .unset, .unset, .unset, .unset, .unset, .unset, .unset, .unset, .unset, .unset, .unset, .unset, .unset] [])) rfl (hb hby at_42) (by decide) (by decide)
        obtain ⟨b1171, g1171⟩ : ∃ z, z = h0.size := ⟨_, rfl⟩
        rw [← g1171] at A1171 D1171 st1171
        have M1171 : h0.size ≤ h1171.size := Nat.le_trans (Nat.le_refl _) E1171.1
        have O1171 := Old.ext O0 E1171
        have sz_b1171 : h0.size ≤ b1171 := Nat.le_of_eq g1171.symm
        have g_b1171 : n0 ≤ b1171 := Nat.le_trans (own_oz O0) (Nat.le_trans (Nat.le_refl _) sz_b1171)
        have F1171_21 : Fld Z h1171 b1171 "com/example/mycelia/mycelia/wire/MessageTree" "elements" "Lcom/example/mycelia/mycelia/wire/MessageTree$IntRecords;" .null := D1171 (Or.inr (own_w hw 21 rfl)) (ty := (.object "com/example/mycelia/mycelia/wire/MessageTree$IntRecords")) (by decide)
        have F1171_23 : Fld Z h1171 b1171 "com/example/mycelia/mycelia/wire/MessageTree" "attributes" "Lcom/example/mycelia/mycelia/wire/MessageTree$IntRecords;" .null := D1171 (Or.inr (own_w hw 23 rfl)) (ty := (.object "com/example/mycelia/mycelia/wire/MessageTree$IntRecords")) (by decide)
        have F1171_45 : Fld Z h1171 b1171 "com/example/mycelia/mycelia/wire/MessageTree" "text" "Ljava/lang/StringBuilder;" .null := D1171 (Or.inr (own_w hw 45 rfl)) (ty := (.object "java/lang/StringBuilder")) (by decide)
        have F1171_47 : Fld Z h1171 b1171 "com/example/mycelia/mycelia/wire/MessageTree" "values" "Ljava/lang/StringBuilder;" .null := D1171 (Or.inr (own_w hw 47 rfl)) (ty := (.object "java/lang/StringBuilder")) (by decide)
        have F1171_73 : Fld Z h1171 b1171 "com/example/mycelia/mycelia/wire/MessageTree" "names" "Ljava/util/List;" .null := D1171 (Or.inr (own_w hw 73 rfl)) (ty := (.object "java/util/List")) (by decide)
        have F1171_91 : Fld Z h1171 b1171 "com/example/mycelia/mycelia/wire/MessageTree" "codes" "Ljava/util/Map;" .null := D1171 (Or.inr (own_w hw 91 rfl)) (ty := (.object "java/util/Map")) (by decide)
        have F1171_105 : Fld Z h1171 b1171 "com/example/mycelia/mycelia/wire/MessageTree" "open" "I" (.int 0) := D1171 (Or.inl (own_w hw 105 rfl)) (ty := .int) (by decide)
        have F1171_127 : Fld Z h1171 b1171 "com/example/mycelia/mycelia/wire/MessageTree" "wideText" "Z" (.int 0) := D1171 (Or.inl (own_w hw 127 rfl)) (ty := .boolean) (by decide)
        have F1171_129 : Fld Z h1171 b1171 "com/example/mycelia/mycelia/wire/MessageTree" "wideValues" "Z" (.int 0) := D1171 (Or.inl (own_w hw 129 rfl)) (ty := .boolean) (by decide)
        have F1171_131 : Fld Z h1171 b1171 "com/example/mycelia/mycelia/wire/MessageTree" "passed" "J" (.long 0) := D1171 (Or.inl (own_w hw 131 rfl)) (ty := .long) (by decide)
        have F1171_133 : Fld Z h1171 b1171 "com/example/mycelia/mycelia/wire/MessageTree" "widePassed" "Z" (.int 0) := D1171 (Or.inl (own_w hw 133 rfl)) (ty := .boolean) (by decide)
        have F1171_148 : Fld Z h1171 b1171 "com/example/mycelia/mycelia/wire/MessageTree" "deepest" "I" (.int 0) := D1171 (Or.inl (own_w hw 148 rfl)) (ty := .int) (by decide)
        obtain ⟨_, T1172, L1172, X1172, hQ1172, st1172⟩ := own_sb X1171 hx hZ hown (y := yn9) (own_w hw 3 rfl) (own_w hw 4 rfl) (own_w hw 5 rfl) (own_w hw 2 rfl) e1171 (a := b1171) (argsL := []) (rest := [(.ref b1171)]) (rm10 l Z a0 hw w1 w2 kw1 kw2 gi1 G [] b1171 h1171 n0 O1171 g_b1171 A1171 F1171_23 F1171_91 F1171_148 F1171_21 F1171_73 F1171_105 F1171_131 F1171_45 F1171_47 F1171_133 F1171_127 F1171_129) (g := (mkF m 46 #[.val (.long q1), .second, .val (.long q2), .second, .val (.long q3), .second, .val (.int p4), .val (.int 1), .val (.int 0), .val (.int 1), .unset, .unset, .unset, .unset, .unset, .unset, .unset, .unset, .unset, .unset, .unset, .unset, .unset, .unset, .unset, .unset, .unset, .unset, .unset, .unset, .unset, .unset, .unset, .unset] [(.ref b1171), (.ref b1171)])) rfl (by rw [hml]; rfl) rfl (hb hby at_46) (lenOf pd0 rfl) (W := 1) (c1 := 12) (s1 := 136)
        obtain ⟨b1173, b1174, b1175, b1176, b1177, b1178, b1179, b1180, b1181, b1182, b1183, k1184, k1185, k1186, k1187, k1188, rfl, Nq1189, K1190, sz_b1173, sz_b1174, sz_b1175, sz_b1176, sz_b1177, sz_b1178, sz_b1179, sz_b1180, sz_b1181, sz_b1182, sz_b1183, ne1191, ne1192, ne1193, ne1194, ne1195, ne1196, ne1197, ne1198, ne1199, ne1200, ne1201, ne1202, ne1203, ne1204, ne1205, ne1206, ne1207, ne1208, ne1209, ne1210, ne1211, ne1212, ne1213, ne1214, ne1215, ne1216, ne1217, ne1218, ne1219, ne1220, ne1221, ne1222, ne1223, ne1224, ne1225, ne1226, ne1227, ne1228, ne1229, ne1230, ne1231, ne1232, ne1233, ne1234, ne1235, ne1236, ne1237, ne1238, ne1239, ne1240, ne1241, ne1242, ne1243, ne1244, ne1245, OV1246, OV1247, f1248, f1249, f1250, f1251, f1252, f1253, f1254, f1255, f1256, f1257, f1258, f1259, f1260, f1261, f1262, f1263, f1264, f1265, f1266, f1267, f1268, f1269, f1270, f1271, f1272, f1273, f1274, f1275, f1276, f1277, f1278, f1279, f1280, f1281, f1282, f1283, f1284, f1285, f1286, f1287, f1288, f1289, f1290⟩ := hQ1172
        have N1172 := Fr.app N0 Nq1189
        have g_b1173 : n0 ≤ b1173 := Nat.le_trans (own_oz O1171) sz_b1173
        have g_b1174 : n0 ≤ b1174 := Nat.le_trans (own_oz O1171) sz_b1174
        have g_b1175 : n0 ≤ b1175 := Nat.le_trans (own_oz O1171) sz_b1175
        have g_b1176 : n0 ≤ b1176 := Nat.le_trans (own_oz O1171) sz_b1176
        have g_b1177 : n0 ≤ b1177 := Nat.le_trans (own_oz O1171) sz_b1177
        have g_b1178 : n0 ≤ b1178 := Nat.le_trans (own_oz O1171) sz_b1178
        have g_b1179 : n0 ≤ b1179 := Nat.le_trans (own_oz O1171) sz_b1179
        have g_b1180 : n0 ≤ b1180 := Nat.le_trans (own_oz O1171) sz_b1180
        have g_b1181 : n0 ≤ b1181 := Nat.le_trans (own_oz O1171) sz_b1181
        have g_b1182 : n0 ≤ b1182 := Nat.le_trans (own_oz O1171) sz_b1182
        have g_b1183 : n0 ≤ b1183 := Nat.le_trans (own_oz O1171) sz_b1183
        have M1172 : h0.size ≤ T1172.heap.size := Nat.le_trans M1171 K1190.1
        have O1172 := Old.keep O1171 K1190 (allS g_b1171 all0)
        obtain ⟨_, T1291, L1291, X1291, hQ1291, st1291⟩ := own_vb X1172 hx hZ hown (y := yn15) (own_w hw 106 rfl) (own_w hw 107 rfl) (own_w hw 109 rfl) (own_w hw 108 rfl) (own_w hw 110 rfl) (own_w hw 2 rfl) rfl f1248 (argsL := []) (rest := []) (rm16 l Z a0 hw [] b1171 b1173 b1174 b1175 b1176 b1177 b1178 b1179 b1180 b1181 b1182 b1183 k1184 k1185 k1186 k1187 T1172.heap n0 O1172 g_b1171 g_b1173 g_b1174 g_b1175 g_b1176 g_b1177 g_b1178 g_b1179 g_b1180 g_b1181 g_b1182 g_b1183 OV1246 OV1247 f1249 f1251 f1252 f1253 f1255 f1256 f1257 f1258 f1259 f1260 f1261 f1263 f1267 f1269 f1271 f1274 f1275 f1276 f1277 f1278 f1279 f1280 f1285 f1287) (g := (mkF m 53 #[.val (.long q1), .second, .val (.long q2), .second, .val (.long q3), .second, .val (.int p4), .val (.int 1), .val (.int 0), .val (.int 1), .val (.ref b1171), .unset, .unset, .unset, .unset, .unset, .unset, .unset, .unset, .unset, .unset, .unset, .unset, .unset, .unset, .unset, .unset, .unset, .unset, .unset, .unset, .unset, .unset, .unset] [(.ref b1171)])) rfl (by rw [hml]; rfl) rfl (hb hby at_53) (lenOf pd3 rfl) (W := 0) (c1 := 12) (s1 := 136)
        obtain ⟨rfl, Nq1292, e1293⟩ := hQ1291
        have N1291 := Fr.app N1172 Nq1292
        obtain ⟨_, T1294, L1294, X1294, hQ1294, st1294⟩ := own_vb X1291 hx hZ hown (y := yn16) (own_w hw 149 rfl) (own_w hw 150 rfl) (own_w hw 152 rfl) (own_w hw 151 rfl) (own_w hw 153 rfl) (own_w hw 2 rfl) e1293 f1248 (argsL := [(.long q1), (.int 1)]) (rest := []) (rm24 l Z a0 hw [] b1171 b1173 b1174 b1175 b1176 b1177 b1178 b1179 b1180 b1181 b1182 b1183 k1184 k1185 q1 T1172.heap n0 O1172 g_b1171 g_b1173 g_b1174 g_b1175 g_b1176 g_b1177 g_b1178 g_b1179 g_b1180 g_b1181 g_b1182 g_b1183 OV1246 OV1247 f1248 f1249 f1250 f1251 f1252 f1253 f1254 f1255 f1256 f1257 f1258 f1259 f1260) (g := (mkF m 63 #[.val (.long q1), .second, .val (.long q2), .second, .val (.long q3), .second, .val (.int p4), .val (.int 1), .val (.int 0), .val (.int 1), .val (.ref b1171), .val (.long 288), .second, .unset, .unset, .unset, .unset, .unset, .unset, .unset, .unset, .unset, .unset, .unset, .unset, .unset, .unset, .unset, .unset, .unset, .unset, .unset, .unset, .unset] [(.int 1), (.long q1), (.ref b1171)])) rfl (by rw [hml]; rfl) rfl (hb hby at_63) (lenOf pd5 rfl) (W := 0) (c1 := 12) (s1 := 136)
        obtain ⟨rfl, Nq1295, K1296, f1297, f1298, f1299, f1300, f1301, f1302, f1303, f1304, f1305, f1306, f1307, f1308, f1309⟩ := hQ1294
        have N1294 := Fr.app N1291 Nq1295
        have M1294 : h0.size ≤ T1294.heap.size := Nat.le_trans M1172 K1296.1
        have O1294 := Old.keep O1172 K1296 (allS g_b1171 all0)
        have f1310 := (f1261.keep K1296)
        have lt1311 : b1171 < h1171.size := A1171.lt
        have ne1312 : b1171 ≠ b1173 := Nat.ne_of_lt (Nat.lt_of_lt_of_le lt1311 sz_b1173)
        have f1313 := (f1263.keep K1296 (ninS (Ne.symm ne1312) nin0))
        have f1314 := (f1267.keep K1296)
        have ne1315 : b1171 ≠ b1175 := Nat.ne_of_lt (Nat.lt_of_lt_of_le lt1311 sz_b1175)
        have f1316 := (f1269.keep K1296 (ninS (Ne.symm ne1315) nin0))
        have f1317 := (f1271.keep K1296)
        have ne1318 : b1171 ≠ b1176 := Nat.ne_of_lt (Nat.lt_of_lt_of_le lt1311 sz_b1176)
        have f1319 := (f1274.keep K1296 (ninS (Ne.symm ne1318) nin0))
        have f1320 := (f1275.keep K1296)
        have ne1321 : b1171 ≠ b1177 := Nat.ne_of_lt (Nat.lt_of_lt_of_le lt1311 sz_b1177)
        have f1322 := (f1276.keep K1296 (ninS (Ne.symm ne1321) nin0))
        have f1323 := (f1277.keep K1296 (ninS (Ne.symm ne1321) nin0))
        have f1324 := (f1278.keep K1296)
        have ne1325 : b1171 ≠ b1178 := Nat.ne_of_lt (Nat.lt_of_lt_of_le lt1311 sz_b1178)
        have f1326 := (f1279.keep K1296 (ninS (Ne.symm ne1325) nin0))
        have f1327 := (f1280.keep K1296 (ninS (Ne.symm ne1325) nin0))
        have ne1328 : b1171 ≠ b1181 := Nat.ne_of_lt (Nat.lt_of_lt_of_le lt1311 sz_b1181)
        have f1329 := (f1285.keep K1296 (ninS (Ne.symm ne1328) nin0))
        have ne1330 : b1171 ≠ b1182 := Nat.ne_of_lt (Nat.lt_of_lt_of_le lt1311 sz_b1182)
        have f1331 := (f1287.keep K1296 (ninS (Ne.symm ne1330) nin0))
        obtain ⟨_, T1332, L1332, X1332, hQ1332, st1332⟩ := own_vb X1294 hx hZ hown (y := yn15) (own_w hw 106 rfl) (own_w hw 107 rfl) (own_w hw 109 rfl) (own_w hw 108 rfl) (own_w hw 110 rfl) (own_w hw 2 rfl) rfl f1297 (argsL := []) (rest := []) (rm21 l Z a0 hw [] b1171 b1173 b1174 b1175 b1176 b1177 b1178 b1179 b1180 b1181 b1182 b1183 k1184 k1185 (((0 : Int64) + q1)) k1186 k1187 T1294.heap n0 O1294 g_b1171 g_b1173 g_b1174 g_b1175 g_b1176 g_b1177 g_b1178 g_b1179 g_b1180 g_b1181 g_b1182 g_b1183 OV1246 OV1247 f1298 f1300 f1301 f1302 f1304 f1305 f1306 f1307 f1308 f1309 f1310 f1313 f1314 f1316 f1317 f1319 f1320 f1322 f1323 f1324 f1326 f1327 f1329 f1331) (g := (mkF m 68 #[.val (.long q1), .second, .val (.long q2), .second, .val (.long q3), .second, .val (.int p4), .val (.int 1), .val (.int 0), .val (.int 1), .val (.ref b1171), .val (.long 288), .second, .unset, .unset, .unset, .unset, .unset, .unset, .unset, .unset, .unset, .unset, .unset, .unset, .unset, .unset, .unset, .unset, .unset, .unset, .unset, .unset, .unset] [(.ref b1171)])) rfl (by rw [hml]; rfl) rfl (hb hby at_68) (lenOf pd3 rfl) (W := 0) (c1 := 12) (s1 := 136)
        obtain ⟨rfl, Nq1333, e1334⟩ := hQ1332
        have N1332 := Fr.app N1294 Nq1333
        obtain ⟨_, T1335, L1335, X1335, hQ1335, st1335⟩ := own_vb X1332 hx hZ hown (y := yn16) (own_w hw 149 rfl) (own_w hw 150 rfl) (own_w hw 152 rfl) (own_w hw 151 rfl) (own_w hw 153 rfl) (own_w hw 2 rfl) e1334 f1297 (argsL := [(.long q2), (.int 0)]) (rest := []) (rm22 l Z a0 hw [] b1171 b1173 b1174 b1175 b1176 b1177 b1178 b1179 b1180 b1181 b1182 b1183 k1184 k1185 (((0 : Int64) + q1)) q2 T1294.heap n0 O1294 g_b1171 g_b1173 g_b1174 g_b1175 g_b1176 g_b1177 g_b1178 g_b1179 g_b1180 g_b1181 g_b1182 g_b1183 OV1246 OV1247 f1297 f1298 f1299 f1300 f1301 f1302 f1303 f1304 f1305 f1306 f1307 f1308 f1309) (g := (mkF m 78 #[.val (.long q1), .second, .val (.long q2), .second, .val (.long q3), .second, .val (.int p4), .val (.int 1), .val (.int 0), .val (.int 1), .val (.ref b1171), .val (.long 288), .second, .val (.long ((((288 : Int64) + (((0 : Int64) + q1) <<< ((1 : Int32) &&& 0x3f).toInt64)) + (0 : Int64)) + (0 : Int64))), .second, .unset, .unset, .unset, .unset, .unset, .unset, .unset, .unset, .unset, .unset, .unset, .unset, .unset, .unset, .unset, .unset, .unset, .unset, .unset] [(.int 0), (.long q2), (.ref b1171)])) rfl (by rw [hml]; rfl) rfl (hb hby at_78) (lenOf pd5 rfl) (W := 0) (c1 := 12) (s1 := 136)
        obtain ⟨rfl, Nq1336, K1337, f1338, f1339, f1340, f1341, f1342, f1343, f1344, f1345, f1346, f1347, f1348, f1349, f1350⟩ := hQ1335
        have N1335 := Fr.app N1332 Nq1336
        have M1335 : h0.size ≤ T1335.heap.size := Nat.le_trans M1294 K1337.1
        have O1335 := Old.keep O1294 K1337 (allS g_b1171 all0)
        have f1351 := (f1310.keep K1337)
        have f1352 := (f1313.keep K1337 (ninS (Ne.symm ne1312) nin0))
        have f1353 := (f1314.keep K1337)
        have f1354 := (f1316.keep K1337 (ninS (Ne.symm ne1315) nin0))
        have f1355 := (f1317.keep K1337)
        have f1356 := (f1319.keep K1337 (ninS (Ne.symm ne1318) nin0))
        have f1357 := (f1320.keep K1337)
        have f1358 := (f1322.keep K1337 (ninS (Ne.symm ne1321) nin0))
        have f1359 := (f1323.keep K1337 (ninS (Ne.symm ne1321) nin0))
        have f1360 := (f1324.keep K1337)
        have f1361 := (f1326.keep K1337 (ninS (Ne.symm ne1325) nin0))
        have f1362 := (f1327.keep K1337 (ninS (Ne.symm ne1325) nin0))
        have f1363 := (f1329.keep K1337 (ninS (Ne.symm ne1328) nin0))
        have f1364 := (f1331.keep K1337 (ninS (Ne.symm ne1330) nin0))
        obtain ⟨_, T1365, L1365, X1365, hQ1365, st1365⟩ := own_vb X1335 hx hZ hown (y := yn15) (own_w hw 106 rfl) (own_w hw 107 rfl) (own_w hw 109 rfl) (own_w hw 108 rfl) (own_w hw 110 rfl) (own_w hw 2 rfl) rfl f1338 (argsL := []) (rest := []) (rm21 l Z a0 hw [] b1171 b1173 b1174 b1175 b1176 b1177 b1178 b1179 b1180 b1181 b1182 b1183 k1184 k1185 ((((0 : Int64) + q1) + q2)) k1186 k1187 T1335.heap n0 O1335 g_b1171 g_b1173 g_b1174 g_b1175 g_b1176 g_b1177 g_b1178 g_b1179 g_b1180 g_b1181 g_b1182 g_b1183 OV1246 OV1247 f1339 f1341 f1342 f1343 f1345 f1346 f1347 f1348 f1349 f1350 f1351 f1352 f1353 f1354 f1355 f1356 f1357 f1358 f1359 f1360 f1361 f1362 f1363 f1364) (g := (mkF m 83 #[.val (.long q1), .second, .val (.long q2), .second, .val (.long q3), .second, .val (.int p4), .val (.int 1), .val (.int 0), .val (.int 1), .val (.ref b1171), .val (.long 288), .second, .val (.long ((((288 : Int64) + (((0 : Int64) + q1) <<< ((1 : Int32) &&& 0x3f).toInt64)) + (0 : Int64)) + (0 : Int64))), .second, .unset, .unset, .unset, .unset, .unset, .unset, .unset, .unset, .unset, .unset, .unset, .unset, .unset, .unset, .unset, .unset, .unset, .unset, .unset] [(.ref b1171)])) rfl (by rw [hml]; rfl) rfl (hb hby at_83) (lenOf pd3 rfl) (W := 0) (c1 := 12) (s1 := 136)
        obtain ⟨rfl, Nq1366, e1367⟩ := hQ1365
        have N1365 := Fr.app N1335 Nq1366
        obtain ⟨_, T1368, L1368, X1368, hQ1368, st1368⟩ := own_vb X1365 hx hZ hown (y := yn16) (own_w hw 149 rfl) (own_w hw 150 rfl) (own_w hw 152 rfl) (own_w hw 151 rfl) (own_w hw 153 rfl) (own_w hw 2 rfl) e1367 f1338 (argsL := [(.long q3), (.int 1)]) (rest := []) (rm23 l Z a0 hw [] b1171 b1173 b1174 b1175 b1176 b1177 b1178 b1179 b1180 b1181 b1182 b1183 k1184 k1185 ((((0 : Int64) + q1) + q2)) q3 T1335.heap n0 O1335 g_b1171 g_b1173 g_b1174 g_b1175 g_b1176 g_b1177 g_b1178 g_b1179 g_b1180 g_b1181 g_b1182 g_b1183 OV1246 OV1247 f1338 f1339 f1340 f1341 f1342 f1343 f1344 f1345 f1346 f1347 f1348 f1349 f1350) (g := (mkF m 94 #[.val (.long q1), .second, .val (.long q2), .second, .val (.long q3), .second, .val (.int p4), .val (.int 1), .val (.int 0), .val (.int 1), .val (.ref b1171), .val (.long 288), .second, .val (.long ((((288 : Int64) + (((0 : Int64) + q1) <<< ((1 : Int32) &&& 0x3f).toInt64)) + (0 : Int64)) + (0 : Int64))), .second, .val (.long ((((288 : Int64) + ((((0 : Int64) + q1) + q2) <<< ((1 : Int32) &&& 0x3f).toInt64)) + (0 : Int64)) + (0 : Int64))), .second, .unset, .unset, .unset, .unset, .unset, .unset, .unset, .unset, .unset, .unset, .unset, .unset, .unset, .unset, .unset, .unset, .unset] [(.int 1), (.long q3), (.ref b1171)])) rfl (by rw [hml]; rfl) rfl (hb hby at_94) (lenOf pd5 rfl) (W := 0) (c1 := 12) (s1 := 136)
        obtain ⟨rfl, Nq1369, K1370, f1371, f1372, f1373, f1374, f1375, f1376, f1377, f1378, f1379, f1380, f1381, f1382, f1383⟩ := hQ1368
        have N1368 := Fr.app N1365 Nq1369
        have M1368 : h0.size ≤ T1368.heap.size := Nat.le_trans M1335 K1370.1
        have O1368 := Old.keep O1335 K1370 (allS g_b1171 all0)
        have f1384 := (f1351.keep K1370)
        have f1385 := (f1352.keep K1370 (ninS (Ne.symm ne1312) nin0))
        have f1386 := (f1353.keep K1370)
        have f1387 := (f1354.keep K1370 (ninS (Ne.symm ne1315) nin0))
        have f1388 := (f1355.keep K1370)
        have f1389 := (f1356.keep K1370 (ninS (Ne.symm ne1318) nin0))
        have f1390 := (f1357.keep K1370)
        have f1391 := (f1358.keep K1370 (ninS (Ne.symm ne1321) nin0))
        have f1392 := (f1359.keep K1370 (ninS (Ne.symm ne1321) nin0))
        have f1393 := (f1360.keep K1370)
        have f1394 := (f1361.keep K1370 (ninS (Ne.symm ne1325) nin0))
        have f1395 := (f1362.keep K1370 (ninS (Ne.symm ne1325) nin0))
        have f1396 := (f1363.keep K1370 (ninS (Ne.symm ne1328) nin0))
        have f1397 := (f1364.keep K1370 (ninS (Ne.symm ne1330) nin0))
        obtain ⟨_, T1398, L1398, X1398, hQ1398, st1398⟩ := own_vb X1368 hx hZ hown (y := yn15) (own_w hw 106 rfl) (own_w hw 107 rfl) (own_w hw 109 rfl) (own_w hw 108 rfl) (own_w hw 110 rfl) (own_w hw 2 rfl) rfl f1371 (argsL := []) (rest := []) (rm21 l Z a0 hw [] b1171 b1173 b1174 b1175 b1176 b1177 b1178 b1179 b1180 b1181 b1182 b1183 k1184 k1185 (((((0 : Int64) + q1) + q2) + q3)) k1186 k1187 T1368.heap n0 O1368 g_b1171 g_b1173 g_b1174 g_b1175 g_b1176 g_b1177 g_b1178 g_b1179 g_b1180 g_b1181 g_b1182 g_b1183 OV1246 OV1247 f1372 f1374 f1375 f1376 f1378 f1379 f1380 f1381 f1382 f1383 f1384 f1385 f1386 f1387 f1388 f1389 f1390 f1391 f1392 f1393 f1394 f1395 f1396 f1397) (g := (mkF m 99 #[.val (.long q1), .second, .val (.long q2), .second, .val (.long q3), .second, .val (.int p4), .val (.int 1), .val (.int 0), .val (.int 1), .val (.ref b1171), .val (.long 288), .second, .val (.long ((((288 : Int64) + (((0 : Int64) + q1) <<< ((1 : Int32) &&& 0x3f).toInt64)) + (0 : Int64)) + (0 : Int64))), .second, .val (.long ((((288 : Int64) + ((((0 : Int64) + q1) + q2) <<< ((1 : Int32) &&& 0x3f).toInt64)) + (0 : Int64)) + (0 : Int64))), .second, .unset, .unset, .unset, .unset, .unset, .unset, .unset, .unset, .unset, .unset, .unset, .unset, .unset, .unset, .unset, .unset, .unset] [(.ref b1171)])) rfl (by rw [hml]; rfl) rfl (hb hby at_99) (lenOf pd3 rfl) (W := 0) (c1 := 12) (s1 := 136)
        obtain ⟨rfl, Nq1399, e1400⟩ := hQ1398
        have N1398 := Fr.app N1368 Nq1399
        obtain ⟨fs, hr, hrun, hended, hW, hsame⟩ := X1398.leave (v := some (.int 1)) (fun h => by rw [hret] at h; cases h)
        refine ⟨_, _, pre938 _ ?_, hrun, hended, _, _, rfl, ?_, ⟨_, rfl⟩, hW, hsame.mono (by decide) (by decide)⟩
        ·
          show Steps p.tables e below (s₁.setTop (mkF m 32 #[.val (.long q1), .second, .val (.long q2), .second, .val (.long q3), .second, .val (.int p4), .val (.int 1), .val (.int 0), .unset, .unset, .unset, .unset, .unset, .unset, .unset, .unset, .unset, .unset, .unset, .unset, .unset, .unset, .unset, .unset, .unset, .unset, .unset, .unset, .unset, .unset, .unset, .unset, .unset] [(.int (p4 &&& (4 : Int32)))])) _
          refine XS.ifNo X0.here hx rfl (hb hby at_32) rfl ((if0 _ _).trans (feq hc939).1) ?_
          refine XS.iconst X0.here hx rfl (hb hby at_35) ?_
          refine XS.goto X0.here hx rfl (pc0 := 36) (pc' := 40) rfl (hb hby at_36) (by decide) (by decide) ?_
          refine XS.istore X0.here hx rfl (hb hby at_40) rfl (l' := #[.val (.long q1), .second, .val (.long q2), .second, .val (.long q3), .second, .val (.int p4), .val (.int 1), .val (.int 0), .val (.int 1), .unset, .unset, .unset, .unset, .unset, .unset, .unset, .unset, .unset, .unset, .unset, .unset, .unset, .unset, .unset, .unset, .unset, .unset, .unset, .unset, .unset, .unset, .unset, .unset]) rfl ?_
          refine st1171 _ ?_
          refine XS.dup X1171.here hx rfl (hb hby at_45) rfl rfl ?_
          refine st1172 _ ?_
          refine XS.astore X1172.here hx rfl (hb hby at_49) rfl rfl (l' := #[.val (.long q1), .second, .val (.long q2), .second, .val (.long q3), .second, .val (.int p4), .val (.int 1), .val (.int 0), .val (.int 1), .val (.ref b1171), .unset, .unset, .unset, .unset, .unset, .unset, .unset, .unset, .unset, .unset, .unset, .unset, .unset, .unset, .unset, .unset, .unset, .unset, .unset, .unset, .unset, .unset, .unset]) rfl ?_
          refine XS.aload X1172.here hx rfl (hb hby at_51) rfl rfl ?_
          refine st1291 _ ?_
          refine XS.lstore X1291.here hx rfl (hb hby at_56) rfl (l' := #[.val (.long q1), .second, .val (.long q2), .second, .val (.long q3), .second, .val (.int p4), .val (.int 1), .val (.int 0), .val (.int 1), .val (.ref b1171), .val (.long 288), .second, .unset, .unset, .unset, .unset, .unset, .unset, .unset, .unset, .unset, .unset, .unset, .unset, .unset, .unset, .unset, .unset, .unset, .unset, .unset, .unset, .unset]) rfl ?_
          refine XS.aload X1291.here hx rfl (hb hby at_58) rfl rfl ?_
          refine XS.lloadN X1291.here hx rfl (hb hby at_60) rfl ?_
          refine XS.iload X1291.here hx rfl (hb hby at_61) rfl ?_
          refine st1294 _ ?_
          refine XS.aload X1294.here hx rfl (hb hby at_66) rfl rfl ?_
          refine st1332 _ ?_
          refine XS.lstore X1332.here hx rfl (hb hby at_71) rfl (l' := #[.val (.long q1), .second, .val (.long q2), .second, .val (.long q3), .second, .val (.int p4), .val (.int 1), .val (.int 0), .val (.int 1), .val (.ref b1171), .val (.long 288), .second, .val (.long ((((288 : Int64) + (((0 : Int64) + q1) <<< ((1 : Int32) &&& 0x3f).toInt64)) + (0 : Int64)) + (0 : Int64))), .second, .unset, .unset, .unset, .unset, .unset, .unset, .unset, .unset, .unset, .unset, .unset, .unset, .unset, .unset, .unset, .unset, .unset, .unset, .unset]) rfl ?_
          refine XS.aload X1332.here hx rfl (hb hby at_73) rfl rfl ?_
          refine XS.lloadN X1332.here hx rfl (hb hby at_75) rfl ?_
          refine XS.iload X1332.here hx rfl (hb hby at_76) rfl ?_
          refine st1335 _ ?_
          refine XS.aload X1335.here hx rfl (hb hby at_81) rfl rfl ?_
          refine st1365 _ ?_
          show Steps p.tables e below (T1365.setTop (mkF m 86 #[.val (.long q1), .second, .val (.long q2), .second, .val (.long q3), .second, .val (.int p4), .val (.int 1), .val (.int 0), .val (.int 1), .val (.ref b1171), .val (.long 288), .second, .val (.long ((((288 : Int64) + (((0 : Int64) + q1) <<< ((1 : Int32) &&& 0x3f).toInt64)) + (0 : Int64)) + (0 : Int64))), .second, .unset, .unset, .unset, .unset, .unset, .unset, .unset, .unset, .unset, .unset, .unset, .unset, .unset, .unset, .unset, .unset, .unset, .unset, .unset] [(.long ((((288 : Int64) + ((((0 : Int64) + q1) + q2) <<< ((1 : Int32) &&& 0x3f).toInt64)) + (0 : Int64)) + (0 : Int64)))])) _
          refine XS.lstore X1365.here hx rfl (hb hby at_86) rfl (l' := #[.val (.long q1), .second, .val (.long q2), .second, .val (.long q3), .second, .val (.int p4), .val (.int 1), .val (.int 0), .val (.int 1), .val (.ref b1171), .val (.long 288), .second, .val (.long ((((288 : Int64) + (((0 : Int64) + q1) <<< ((1 : Int32) &&& 0x3f).toInt64)) + (0 : Int64)) + (0 : Int64))), .second, .val (.long ((((288 : Int64) + ((((0 : Int64) + q1) + q2) <<< ((1 : Int32) &&& 0x3f).toInt64)) + (0 : Int64)) + (0 : Int64))), .second, .unset, .unset, .unset, .unset, .unset, .unset, .unset, .unset, .unset, .unset, .unset, .unset, .unset, .unset, .unset, .unset, .unset]) rfl ?_
          refine XS.aload X1365.here hx rfl (hb hby at_88) rfl rfl ?_
          refine XS.lload X1365.here hx rfl (hb hby at_90) rfl ?_
          refine XS.iload X1365.here hx rfl (hb hby at_92) rfl ?_
          refine st1368 _ ?_
          refine XS.aload X1368.here hx rfl (hb hby at_97) rfl rfl ?_
          refine st1398 _ ?_
          refine XS.lstore X1398.here hx rfl (hb hby at_102) rfl (l' := #[.val (.long q1), .second, .val (.long q2), .second, .val (.long q3), .second, .val (.int p4), .val (.int 1), .val (.int 0), .val (.int 1), .val (.ref b1171), .val (.long 288), .second, .val (.long ((((288 : Int64) + (((0 : Int64) + q1) <<< ((1 : Int32) &&& 0x3f).toInt64)) + (0 : Int64)) + (0 : Int64))), .second, .val (.long ((((288 : Int64) + ((((0 : Int64) + q1) + q2) <<< ((1 : Int32) &&& 0x3f).toInt64)) + (0 : Int64)) + (0 : Int64))), .second, .val (.long ((((288 : Int64) + (((((0 : Int64) + q1) + q2) + q3) <<< ((1 : Int32) &&& 0x3f).toInt64)) + (0 : Int64)) + (0 : Int64))), .second, .unset, .unset, .unset, .unset, .unset, .unset, .unset, .unset, .unset, .unset, .unset, .unset, .unset, .unset, .unset]) rfl ?_
          refine XS.lloadN X1398.here hx rfl (hb hby at_104) rfl ?_
          refine XS.lstore X1398.here hx rfl (hb hby at_105) rfl (l' := #[.val (.long q1), .second, .val (.long q2), .second, .val (.long q3), .second, .val (.int p4), .val (.int 1), .val (.int 0), .val (.int 1), .val (.ref b1171), .val (.long 288), .second, .val (.long ((((288 : Int64) + (((0 : Int64) + q1) <<< ((1 : Int32) &&& 0x3f).toInt64)) + (0 : Int64)) + (0 : Int64))), .second, .val (.long ((((288 : Int64) + ((((0 : Int64) + q1) + q2) <<< ((1 : Int32) &&& 0x3f).toInt64)) + (0 : Int64)) + (0 : Int64))), .second, .val (.long ((((288 : Int64) + (((((0 : Int64) + q1) + q2) + q3) <<< ((1 : Int32) &&& 0x3f).toInt64)) + (0 : Int64)) + (0 : Int64))), .second, .val (.long q1), .second, .unset, .unset, .unset, .unset, .unset, .unset, .unset, .unset, .unset, .unset, .unset, .unset, .unset]) rfl ?_
          refine XS.lloadN X1398.here hx rfl (hb hby at_107) rfl ?_
          refine XS.lloadN X1398.here hx rfl (hb hby at_108) rfl ?_
          refine XS.ladd X1398.here hx rfl (hb hby at_109) rfl ?_
          refine XS.lstore X1398.here hx rfl (hb hby at_110) rfl (l' := #[.val (.long q1), .second, .val (.long q2), .second, .val (.long q3), .second, .val (.int p4), .val (.int 1), .val (.int 0), .val (.int 1), .val (.ref b1171), .val (.long 288), .second, .val (.long ((((288 : Int64) + (((0 : Int64) + q1) <<< ((1 : Int32) &&& 0x3f).toInt64)) + (0 : Int64)) + (0 : Int64))), .second, .val (.long ((((288 : Int64) + ((((0 : Int64) + q1) + q2) <<< ((1 : Int32) &&& 0x3f).toInt64)) + (0 : Int64)) + (0 : Int64))), .second, .val (.long ((((288 : Int64) + (((((0 : Int64) + q1) + q2) + q3) <<< ((1 : Int32) &&& 0x3f).toInt64)) + (0 : Int64)) + (0 : Int64))), .second, .val (.long q1), .second, .val (.long (q1 + q2)), .second, .unset, .unset, .unset, .unset, .unset, .unset, .unset, .unset, .unset, .unset, .unset]) rfl ?_
          refine XS.lloadN X1398.here hx rfl (hb hby at_112) rfl ?_
          refine XS.lloadN X1398.here hx rfl (hb hby at_113) rfl ?_
          refine XS.ladd X1398.here hx rfl (hb hby at_114) rfl ?_
          refine XS.lload X1398.here hx rfl (hb hby at_115) rfl ?_
          refine XS.ladd X1398.here hx rfl (hb hby at_117) rfl ?_
          refine XS.lstore X1398.here hx rfl (hb hby at_118) rfl (l' := #[.val (.long q1), .second, .val (.long q2), .second, .val (.long q3), .second, .val (.int p4), .val (.int 1), .val (.int 0), .val (.int 1), .val (.ref b1171), .val (.long 288), .second, .val (.long ((((288 : Int64) + (((0 : Int64) + q1) <<< ((1 : Int32) &&& 0x3f).toInt64)) + (0 : Int64)) + (0 : Int64))), .second, .val (.long ((((288 : Int64) + ((((0 : Int64) + q1) + q2) <<< ((1 : Int32) &&& 0x3f).toInt64)) + (0 : Int64)) + (0 : Int64))), .second, .val (.long ((((288 : Int64) + (((((0 : Int64) + q1) + q2) + q3) <<< ((1 : Int32) &&& 0x3f).toInt64)) + (0 : Int64)) + (0 : Int64))), .second, .val (.long q1), .second, .val (.long (q1 + q2)), .second, .val (.long ((q1 + q2) + q3)), .second, .unset, .unset, .unset, .unset, .unset, .unset, .unset, .unset, .unset]) rfl ?_
          refine XS.iload X1398.here hx rfl (hb hby at_120) rfl ?_
          refine XS.istore X1398.here hx rfl (hb hby at_122) rfl (l' := #[.val (.long q1), .second, .val (.long q2), .second, .val (.long q3), .second, .val (.int p4), .val (.int 1), .val (.int 0), .val (.int 1), .val (.ref b1171), .val (.long 288), .second, .val (.long ((((288 : Int64) + (((0 : Int64) + q1) <<< ((1 : Int32) &&& 0x3f).toInt64)) + (0 : Int64)) + (0 : Int64))), .second, .val (.long ((((288 : Int64) + ((((0 : Int64) + q1) + q2) <<< ((1 : Int32) &&& 0x3f).toInt64)) + (0 : Int64)) + (0 : Int64))), .second, .val (.long ((((288 : Int64) + (((((0 : Int64) + q1) + q2) + q3) <<< ((1 : Int32) &&& 0x3f).toInt64)) + (0 : Int64)) + (0 : Int64))), .second, .val (.long q1), .second, .val (.long (q1 + q2)), .second, .val (.long ((q1 + q2) + q3)), .second, .val (.int 1), .unset, .unset, .unset, .unset, .unset, .unset, .unset, .unset]) rfl ?_
          refine XS.iload X1398.here hx rfl (hb hby at_124) rfl ?_
          refine XS.ifYes X1398.here hx rfl (pc0 := 126) (pc' := 134) rfl (hb hby at_126) rfl ((if0 _ _).trans (feq (by decide : ¬ ((1 : Int32) = (0 : Int32)))).2) (by decide) (by decide) ?_
          refine XS.iconst X1398.here hx rfl (hb hby at_134) ?_
          refine XS.goto X1398.here hx rfl (pc0 := 135) (pc' := 139) rfl (hb hby at_135) (by decide) (by decide) ?_
          refine XS.istore X1398.here hx rfl (hb hby at_139) rfl (l' := #[.val (.long q1), .second, .val (.long q2), .second, .val (.long q3), .second, .val (.int p4), .val (.int 1), .val (.int 0), .val (.int 1), .val (.ref b1171), .val (.long 288), .second, .val (.long ((((288 : Int64) + (((0 : Int64) + q1) <<< ((1 : Int32) &&& 0x3f).toInt64)) + (0 : Int64)) + (0 : Int64))), .second, .val (.long ((((288 : Int64) + ((((0 : Int64) + q1) + q2) <<< ((1 : Int32) &&& 0x3f).toInt64)) + (0 : Int64)) + (0 : Int64))), .second, .val (.long ((((288 : Int64) + (((((0 : Int64) + q1) + q2) + q3) <<< ((1 : Int32) &&& 0x3f).toInt64)) + (0 : Int64)) + (0 : Int64))), .second, .val (.long q1), .second, .val (.long (q1 + q2)), .second, .val (.long ((q1 + q2) + q3)), .second, .val (.int 1), .val (.int 1), .unset, .unset, .unset, .unset, .unset, .unset, .unset]) rfl ?_
          refine XS.iload X1398.here hx rfl (hb hby at_141) rfl ?_
          refine XS.ifYes X1398.here hx rfl (pc0 := 143) (pc' := 156) rfl (hb hby at_143) rfl ((if0 _ _).trans (feq (by decide : ¬ ((1 : Int32) = (0 : Int32)))).2) (by decide) (by decide) ?_
          refine XS.iconst X1398.here hx rfl (hb hby at_156) ?_
          refine XS.goto X1398.here hx rfl (pc0 := 157) (pc' := 161) rfl (hb hby at_157) (by decide) (by decide) ?_
          refine XS.istore X1398.here hx rfl (hb hby at_161) rfl (l' := #[.val (.long q1), .second, .val (.long q2), .second, .val (.long q3), .second, .val (.int p4), .val (.int 1), .val (.int 0), .val (.int 1), .val (.ref b1171), .val (.long 288), .second, .val (.long ((((288 : Int64) + (((0 : Int64) + q1) <<< ((1 : Int32) &&& 0x3f).toInt64)) + (0 : Int64)) + (0 : Int64))), .second, .val (.long ((((288 : Int64) + ((((0 : Int64) + q1) + q2) <<< ((1 : Int32) &&& 0x3f).toInt64)) + (0 : Int64)) + (0 : Int64))), .second, .val (.long ((((288 : Int64) + (((((0 : Int64) + q1) + q2) + q3) <<< ((1 : Int32) &&& 0x3f).toInt64)) + (0 : Int64)) + (0 : Int64))), .second, .val (.long q1), .second, .val (.long (q1 + q2)), .second, .val (.long ((q1 + q2) + q3)), .second, .val (.int 1), .val (.int 1), .val (.int 1), .unset, .unset, .unset, .unset, .unset, .unset]) rfl ?_
          refine XS.iload X1398.here hx rfl (hb hby at_163) rfl ?_
          refine XS.ifNo X1398.here hx rfl (hb hby at_165) rfl ((if0 _ _).trans (feq (by decide : ¬ ((1 : Int32) = (0 : Int32)))).1) ?_
          refine XS.lload X1398.here hx rfl (hb hby at_168) rfl ?_
          refine XS.iconst X1398.here hx rfl (hb hby at_170) ?_
          refine XS.lshl X1398.here hx rfl (hb hby at_171) rfl ?_
          refine XS.goto X1398.here hx rfl (pc0 := 172) (pc' := 177) rfl (hb hby at_172) (by decide) (by decide) ?_
          refine XS.lstore X1398.here hx rfl (hb hby at_177) rfl (l' := #[.val (.long q1), .second, .val (.long q2), .second, .val (.long q3), .second, .val (.int p4), .val (.int 1), .val (.int 0), .val (.int 1), .val (.ref b1171), .val (.long 288), .second, .val (.long ((((288 : Int64) + (((0 : Int64) + q1) <<< ((1 : Int32) &&& 0x3f).toInt64)) + (0 : Int64)) + (0 : Int64))), .second, .val (.long ((((288 : Int64) + ((((0 : Int64) + q1) + q2) <<< ((1 : Int32) &&& 0x3f).toInt64)) + (0 : Int64)) + (0 : Int64))), .second, .val (.long ((((288 : Int64) + (((((0 : Int64) + q1) + q2) + q3) <<< ((1 : Int32) &&& 0x3f).toInt64)) + (0 : Int64)) + (0 : Int64))), .second, .val (.long q1), .second, .val (.long (q1 + q2)), .second, .val (.long ((q1 + q2) + q3)), .second, .val (.int 1), .val (.int 1), .val (.int 1), .val (.long (q1 <<< ((1 : Int32) &&& 0x3f).toInt64)), .second, .unset, .unset, .unset, .unset]) rfl ?_
          refine XS.iload X1398.here hx rfl (hb hby at_179) rfl ?_
          show Steps p.tables e below (T1398.setTop (mkF m 181 #[.val (.long q1), .second, .val (.long q2), .second, .val (.long q3), .second, .val (.int p4), .val (.int 1), .val (.int 0), .val (.int 1), .val (.ref b1171), .val (.long 288), .second, .val (.long ((((288 : Int64) + (((0 : Int64) + q1) <<< ((1 : Int32) &&& 0x3f).toInt64)) + (0 : Int64)) + (0 : Int64))), .second, .val (.long ((((288 : Int64) + ((((0 : Int64) + q1) + q2) <<< ((1 : Int32) &&& 0x3f).toInt64)) + (0 : Int64)) + (0 : Int64))), .second, .val (.long ((((288 : Int64) + (((((0 : Int64) + q1) + q2) + q3) <<< ((1 : Int32) &&& 0x3f).toInt64)) + (0 : Int64)) + (0 : Int64))), .second, .val (.long q1), .second, .val (.long (q1 + q2)), .second, .val (.long ((q1 + q2) + q3)), .second, .val (.int 1), .val (.int 1), .val (.int 1), .val (.long (q1 <<< ((1 : Int32) &&& 0x3f).toInt64)), .second, .unset, .unset, .unset, .unset] [(.int 1)])) _
          refine XS.ifNo X1398.here hx rfl (hb hby at_181) rfl ((if0 _ _).trans (feq (by decide : ¬ ((1 : Int32) = (0 : Int32)))).1) ?_
          refine XS.lload X1398.here hx rfl (hb hby at_184) rfl ?_
          refine XS.iconst X1398.here hx rfl (hb hby at_186) ?_
          refine XS.lshl X1398.here hx rfl (hb hby at_187) rfl ?_
          refine XS.goto X1398.here hx rfl (pc0 := 188) (pc' := 193) rfl (hb hby at_188) (by decide) (by decide) ?_
          refine XS.lstore X1398.here hx rfl (hb hby at_193) rfl (l' := #[.val (.long q1), .second, .val (.long q2), .second, .val (.long q3), .second, .val (.int p4), .val (.int 1), .val (.int 0), .val (.int 1), .val (.ref b1171), .val (.long 288), .second, .val (.long ((((288 : Int64) + (((0 : Int64) + q1) <<< ((1 : Int32) &&& 0x3f).toInt64)) + (0 : Int64)) + (0 : Int64))), .second, .val (.long ((((288 : Int64) + ((((0 : Int64) + q1) + q2) <<< ((1 : Int32) &&& 0x3f).toInt64)) + (0 : Int64)) + (0 : Int64))), .second, .val (.long ((((288 : Int64) + (((((0 : Int64) + q1) + q2) + q3) <<< ((1 : Int32) &&& 0x3f).toInt64)) + (0 : Int64)) + (0 : Int64))), .second, .val (.long q1), .second, .val (.long (q1 + q2)), .second, .val (.long ((q1 + q2) + q3)), .second, .val (.int 1), .val (.int 1), .val (.int 1), .val (.long (q1 <<< ((1 : Int32) &&& 0x3f).toInt64)), .second, .val (.long ((q1 + q2) <<< ((1 : Int32) &&& 0x3f).toInt64)), .second, .unset, .unset]) rfl ?_
          refine XS.iload X1398.here hx rfl (hb hby at_195) rfl ?_
          refine XS.ifNo X1398.here hx rfl (hb hby at_197) rfl ((if0 _ _).trans (feq (by decide : ¬ ((1 : Int32) = (0 : Int32)))).1) ?_
          refine XS.lload X1398.here hx rfl (hb hby at_200) rfl ?_
          refine XS.iconst X1398.here hx rfl (hb hby at_202) ?_
          refine XS.lshl X1398.here hx rfl (hb hby at_203) rfl ?_
          refine XS.goto X1398.here hx rfl (pc0 := 204) (pc' := 209) rfl (hb hby at_204) (by decide) (by decide) ?_
          refine XS.lstore X1398.here hx rfl (hb hby at_209) rfl (l' := #[.val (.long q1), .second, .val (.long q2), .second, .val (.long q3), .second, .val (.int p4), .val (.int 1), .val (.int 0), .val (.int 1), .val (.ref b1171), .val (.long 288), .second, .val (.long ((((288 : Int64) + (((0 : Int64) + q1) <<< ((1 : Int32) &&& 0x3f).toInt64)) + (0 : Int64)) + (0 : Int64))), .second, .val (.long ((((288 : Int64) + ((((0 : Int64) + q1) + q2) <<< ((1 : Int32) &&& 0x3f).toInt64)) + (0 : Int64)) + (0 : Int64))), .second, .val (.long ((((288 : Int64) + (((((0 : Int64) + q1) + q2) + q3) <<< ((1 : Int32) &&& 0x3f).toInt64)) + (0 : Int64)) + (0 : Int64))), .second, .val (.long q1), .second, .val (.long (q1 + q2)), .second, .val (.long ((q1 + q2) + q3)), .second, .val (.int 1), .val (.int 1), .val (.int 1), .val (.long (q1 <<< ((1 : Int32) &&& 0x3f).toInt64)), .second, .val (.long ((q1 + q2) <<< ((1 : Int32) &&& 0x3f).toInt64)), .second, .val (.long (((q1 + q2) + q3) <<< ((1 : Int32) &&& 0x3f).toInt64)), .second]) rfl ?_
          refine XS.lload X1398.here hx rfl (hb hby at_211) rfl ?_
          refine XS.lload X1398.here hx rfl (hb hby at_213) rfl ?_
          refine XS.lsub X1398.here hx rfl (hb hby at_215) rfl ?_
          refine XS.lload X1398.here hx rfl (hb hby at_216) rfl ?_
          refine XS.lcmp X1398.here hx rfl (hb hby at_218) rfl ?_
          refine XS.ifNo X1398.here hx rfl (hb hby at_219) rfl ((if0 _ _).trans (teq ((lw_eq _ _).mpr (by rw [own_h]; simp only [Int64.zero_add, own_s0] : (((((288 : Int64) + (((0 : Int64) + q1) <<< ((1 : Int32) &&& 0x3f).toInt64)) + (0 : Int64)) + (0 : Int64)) - (288 : Int64)) = (q1 <<< ((1 : Int32) &&& 0x3f).toInt64)))).2) ?_
          refine XS.lload X1398.here hx rfl (hb hby at_222) rfl ?_
          refine XS.lload X1398.here hx rfl (hb hby at_224) rfl ?_
          refine XS.lsub X1398.here hx rfl (hb hby at_226) rfl ?_
          refine XS.lload X1398.here hx rfl (hb hby at_227) rfl ?_
          refine XS.lcmp X1398.here hx rfl (hb hby at_229) rfl ?_
          refine XS.ifNo X1398.here hx rfl (hb hby at_230) rfl ((if0 _ _).trans (teq ((lw_eq _ _).mpr (by rw [own_h]; simp only [Int64.zero_add, own_s0] : (((((288 : Int64) + ((((0 : Int64) + q1) + q2) <<< ((1 : Int32) &&& 0x3f).toInt64)) + (0 : Int64)) + (0 : Int64)) - (288 : Int64)) = ((q1 + q2) <<< ((1 : Int32) &&& 0x3f).toInt64)))).2) ?_
          refine XS.lload X1398.here hx rfl (hb hby at_233) rfl ?_
          refine XS.lload X1398.here hx rfl (hb hby at_235) rfl ?_
          refine XS.lsub X1398.here hx rfl (hb hby at_237) rfl ?_
          refine XS.lload X1398.here hx rfl (hb hby at_238) rfl ?_
          refine XS.lcmp X1398.here hx rfl (hb hby at_240) rfl ?_
          refine XS.ifNo X1398.here hx rfl (hb hby at_241) rfl ((if0 _ _).trans (teq ((lw_eq _ _).mpr (by rw [own_h]; simp only [Int64.zero_add, own_s0] : (((((288 : Int64) + (((((0 : Int64) + q1) + q2) + q3) <<< ((1 : Int32) &&& 0x3f).toInt64)) + (0 : Int64)) + (0 : Int64)) - (288 : Int64)) = (((q1 + q2) + q3) <<< ((1 : Int32) &&& 0x3f).toInt64)))).2) ?_
          refine XS.iconst X1398.here hx rfl (hb hby at_244) ?_
          refine XS.goto X1398.here hx rfl (pc0 := 245) (pc' := 249) rfl (hb hby at_245) (by decide) (by decide) ?_
          show Steps p.tables e below (T1398.setTop (mkF m 249 #[.val (.long q1), .second, .val (.long q2), .second, .val (.long q3), .second, .val (.int p4), .val (.int 1), .val (.int 0), .val (.int 1), .val (.ref b1171), .val (.long 288), .second, .val (.long ((((288 : Int64) + (((0 : Int64) + q1) <<< ((1 : Int32) &&& 0x3f).toInt64)) + (0 : Int64)) + (0 : Int64))), .second, .val (.long ((((288 : Int64) + ((((0 : Int64) + q1) + q2) <<< ((1 : Int32) &&& 0x3f).toInt64)) + (0 : Int64)) + (0 : Int64))), .second, .val (.long ((((288 : Int64) + (((((0 : Int64) + q1) + q2) + q3) <<< ((1 : Int32) &&& 0x3f).toInt64)) + (0 : Int64)) + (0 : Int64))), .second, .val (.long q1), .second, .val (.long (q1 + q2)), .second, .val (.long ((q1 + q2) + q3)), .second, .val (.int 1), .val (.int 1), .val (.int 1), .val (.long (q1 <<< ((1 : Int32) &&& 0x3f).toInt64)), .second, .val (.long ((q1 + q2) <<< ((1 : Int32) &&& 0x3f).toInt64)), .second, .val (.long (((q1 + q2) + q3) <<< ((1 : Int32) &&& 0x3f).toInt64)), .second] [(.int 1)])) _
          exact retN X1398 hx (t := .boolean) hret (by simp) (hb hby at_249) hr
        ·
          show Q0 n0 _ T1398.heap _
          rw [e1400]
          exact ⟨rfl, N1398⟩
    ·
      have pre1401 : ∀ t, Steps p.tables e below (s₁.setTop (mkF m 32 #[.val (.long q1), .second, .val (.long q2), .second, .val (.long q3), .second, .val (.int p4), .val (.int 1), .val (.int 1), .unset, .unset, .unset, .unset, .unset, .unset, .unset, .unset, .unset, .unset, .unset, .unset, .unset, .unset, .unset, .unset, .unset, .unset, .unset, .unset, .unset, .unset, .unset, .unset, .unset] [(.int (p4 &&& (4 : Int32)))])) t → Steps p.tables e below (s₁.setTop (entryFrame m #[(.long q1), (.long q2), (.long q3), (.int p4)] maxLocals)) t := fun t k => by
        refine pre935 _ ?_
        show Steps p.tables e below (s₁.setTop (mkF m 18 #[.val (.long q1), .second, .val (.long q2), .second, .val (.long q3), .second, .val (.int p4), .val (.int 1), .unset, .unset, .unset, .unset, .unset, .unset, .unset, .unset, .unset, .unset, .unset, .unset, .unset, .unset, .unset, .unset, .unset, .unset, .unset, .unset, .unset, .unset, .unset, .unset, .unset, .unset] [(.int (p4 &&& (2 : Int32)))])) _
        refine XS.ifNo X0.here hx rfl (hb hby at_18) rfl ((if0 _ _).trans (feq hc936).1) ?_
        refine XS.iconst X0.here hx rfl (hb hby at_21) ?_
        refine XS.goto X0.here hx rfl (pc0 := 22) (pc' := 26) rfl (hb hby at_22) (by decide) (by decide) ?_
        refine XS.istore X0.here hx rfl (hb hby at_26) rfl (l' := #[.val (.long q1), .second, .val (.long q2), .second, .val (.long q3), .second, .val (.int p4), .val (.int 1), .val (.int 1), .unset, .unset, .unset, .unset, .unset, .unset, .unset, .unset, .unset, .unset, .unset, .unset, .unset, .unset, .unset, .unset, .unset, .unset, .unset, .unset, .unset, .unset, .unset, .unset, .unset]) rfl ?_
        refine XS.iload X0.here hx rfl (hb hby at_28) rfl ?_
        refine XS.iconst X0.here hx rfl (hb hby at_30) ?_
        refine XS.iand X0.here hx rfl (hb hby at_31) rfl ?_
        exact k
      by_cases hc1402 : (p4 &&& (4 : Int32)) = (0 : Int32)
      ·
        have pre1403 : ∀ t, Steps p.tables e below (s₁.setTop (mkF m 32 #[.val (.long q1), .second, .val (.long q2), .second, .val (.long q3), .second, .val (.int p4), .val (.int 1), .val (.int 1), .unset, .unset, .unset, .unset, .unset, .unset, .unset, .unset, .unset, .unset, .unset, .unset, .unset, .unset, .unset, .unset, .unset, .unset, .unset, .unset, .unset, .unset, .unset, .unset, .unset] [(.int 0)])) t → Steps p.tables e below (s₁.setTop (entryFrame m #[(.long q1), (.long q2), (.long q3), (.int p4)] maxLocals)) t := fun t k => pre1401 t (by rw [hc1402]; exact k)
        obtain ⟨T1404, h1404, X1404, e1404, E1404, A1404, D1404, -, st1404⟩ := newO X0 hx hZ hown (own_w hw 0 rfl) (own_w hw 1 rfl) (own_w hw 2 rfl) e0 (g := (mkF m 42 #[.val (.long q1), .second, .val (.long q2), .second, .val (.long q3), .second, .val (.int p4), .val (.int 1), .val (.int 1), .val (.int 0), .unset, .unset, .unset, .unset, .unset, .unset, .unset, .unset, .unset, .unset, .unset, .unset, .unset, .unset, .unset, .unset, .unset, .unset, .unset, .unset, .unset, .unset, .unset, .unset] [])) rfl (hb hby at_42) (by decide) (by decide)
        obtain ⟨b1404, g1404⟩ : ∃ z, z = h0.size := ⟨_, rfl⟩
        rw [← g1404] at A1404 D1404 st1404
        have M1404 : h0.size ≤ h1404.size := Nat.le_trans (Nat.le_refl _) E1404.1
        have O1404 := Old.ext O0 E1404
        have sz_b1404 : h0.size ≤ b1404 := Nat.le_of_eq g1404.symm
        have g_b1404 : n0 ≤ b1404 := Nat.le_trans (own_oz O0) (Nat.le_trans (Nat.le_refl _) sz_b1404)
        have F1404_21 : Fld Z h1404 b1404 "com/example/mycelia/mycelia/wire/MessageTree" "elements" "Lcom/example/mycelia/mycelia/wire/MessageTree$IntRecords;" .null := D1404 (Or.inr (own_w hw 21 rfl)) (ty := (.object "com/example/mycelia/mycelia/wire/MessageTree$IntRecords")) (by decide)
        have F1404_23 : Fld Z h1404 b1404 "com/example/mycelia/mycelia/wire/MessageTree" "attributes" "Lcom/example/mycelia/mycelia/wire/MessageTree$IntRecords;" .null := D1404 (Or.inr (own_w hw 23 rfl)) (ty := (.object "com/example/mycelia/mycelia/wire/MessageTree$IntRecords")) (by decide)
        have F1404_45 : Fld Z h1404 b1404 "com/example/mycelia/mycelia/wire/MessageTree" "text" "Ljava/lang/StringBuilder;" .null := D1404 (Or.inr (own_w hw 45 rfl)) (ty := (.object "java/lang/StringBuilder")) (by decide)
        have F1404_47 : Fld Z h1404 b1404 "com/example/mycelia/mycelia/wire/MessageTree" "values" "Ljava/lang/StringBuilder;" .null := D1404 (Or.inr (own_w hw 47 rfl)) (ty := (.object "java/lang/StringBuilder")) (by decide)
        have F1404_73 : Fld Z h1404 b1404 "com/example/mycelia/mycelia/wire/MessageTree" "names" "Ljava/util/List;" .null := D1404 (Or.inr (own_w hw 73 rfl)) (ty := (.object "java/util/List")) (by decide)
        have F1404_91 : Fld Z h1404 b1404 "com/example/mycelia/mycelia/wire/MessageTree" "codes" "Ljava/util/Map;" .null := D1404 (Or.inr (own_w hw 91 rfl)) (ty := (.object "java/util/Map")) (by decide)
        have F1404_105 : Fld Z h1404 b1404 "com/example/mycelia/mycelia/wire/MessageTree" "open" "I" (.int 0) := D1404 (Or.inl (own_w hw 105 rfl)) (ty := .int) (by decide)
        have F1404_127 : Fld Z h1404 b1404 "com/example/mycelia/mycelia/wire/MessageTree" "wideText" "Z" (.int 0) := D1404 (Or.inl (own_w hw 127 rfl)) (ty := .boolean) (by decide)
        have F1404_129 : Fld Z h1404 b1404 "com/example/mycelia/mycelia/wire/MessageTree" "wideValues" "Z" (.int 0) := D1404 (Or.inl (own_w hw 129 rfl)) (ty := .boolean) (by decide)
        have F1404_131 : Fld Z h1404 b1404 "com/example/mycelia/mycelia/wire/MessageTree" "passed" "J" (.long 0) := D1404 (Or.inl (own_w hw 131 rfl)) (ty := .long) (by decide)
        have F1404_133 : Fld Z h1404 b1404 "com/example/mycelia/mycelia/wire/MessageTree" "widePassed" "Z" (.int 0) := D1404 (Or.inl (own_w hw 133 rfl)) (ty := .boolean) (by decide)
        have F1404_148 : Fld Z h1404 b1404 "com/example/mycelia/mycelia/wire/MessageTree" "deepest" "I" (.int 0) := D1404 (Or.inl (own_w hw 148 rfl)) (ty := .int) (by decide)
        obtain ⟨_, T1405, L1405, X1405, hQ1405, st1405⟩ := own_sb X1404 hx hZ hown (y := yn9) (own_w hw 3 rfl) (own_w hw 4 rfl) (own_w hw 5 rfl) (own_w hw 2 rfl) e1404 (a := b1404) (argsL := []) (rest := [(.ref b1404)]) (rm10 l Z a0 hw w1 w2 kw1 kw2 gi1 G [] b1404 h1404 n0 O1404 g_b1404 A1404 F1404_23 F1404_91 F1404_148 F1404_21 F1404_73 F1404_105 F1404_131 F1404_45 F1404_47 F1404_133 F1404_127 F1404_129) (g := (mkF m 46 #[.val (.long q1), .second, .val (.long q2), .second, .val (.long q3), .second, .val (.int p4), .val (.int 1), .val (.int 1), .val (.int 0), .unset, .unset, .unset, .unset, .unset, .unset, .unset, .unset, .unset, .unset, .unset, .unset, .unset, .unset, .unset, .unset, .unset, .unset, .unset, .unset, .unset, .unset, .unset, .unset] [(.ref b1404), (.ref b1404)])) rfl (by rw [hml]; rfl) rfl (hb hby at_46) (lenOf pd0 rfl) (W := 1) (c1 := 12) (s1 := 136)
        obtain ⟨b1406, b1407, b1408, b1409, b1410, b1411, b1412, b1413, b1414, b1415, b1416, k1417, k1418, k1419, k1420, k1421, rfl, Nq1422, K1423, sz_b1406, sz_b1407, sz_b1408, sz_b1409, sz_b1410, sz_b1411, sz_b1412, sz_b1413, sz_b1414, sz_b1415, sz_b1416, ne1424, ne1425, ne1426, ne1427, ne1428, ne1429, ne1430, ne1431, ne1432, ne1433, ne1434, ne1435, ne1436, ne1437, ne1438, ne1439, ne1440, ne1441, ne1442, ne1443, ne1444, ne1445, ne1446, ne1447, ne1448, ne1449, ne1450, ne1451, ne1452, ne1453, ne1454, ne1455, ne1456, ne1457, ne1458, ne1459, ne1460, ne1461, ne1462, ne1463, ne1464, ne1465, ne1466, ne1467, ne1468, ne1469, ne1470, ne1471, ne1472, ne1473, ne1474, ne1475, ne1476, ne1477, ne1478, OV1479, OV1480, f1481, f1482, f1483, f1484, f1485, f1486, f1487, f1488, f1489, f1490, f1491, f1492, f1493, f1494, f1495, f1496, f1497, f1498, f1499, f1500, f1501, f1502, f1503, f1504, f1505, f1506, f1507, f1508, f1509, f1510, f1511, f1512, f1513, f1514, f1515, f1516, f1517, f1518, f1519, f1520, f1521, f1522, f1523⟩ := hQ1405
        have N1405 := Fr.app N0 Nq1422
        have g_b1406 : n0 ≤ b1406 := Nat.le_trans (own_oz O1404) sz_b1406
        have g_b1407 : n0 ≤ b1407 := Nat.le_trans (own_oz O1404) sz_b1407
        have g_b1408 : n0 ≤ b1408 := Nat.le_trans (own_oz O1404) sz_b1408
        have g_b1409 : n0 ≤ b1409 := Nat.le_trans (own_oz O1404) sz_b1409
        have g_b1410 : n0 ≤ b1410 := Nat.le_trans (own_oz O1404) sz_b1410
        have g_b1411 : n0 ≤ b1411 := Nat.le_trans (own_oz O1404) sz_b1411
        have g_b1412 : n0 ≤ b1412 := Nat.le_trans (own_oz O1404) sz_b1412
        have g_b1413 : n0 ≤ b1413 := Nat.le_trans (own_oz O1404) sz_b1413
        have g_b1414 : n0 ≤ b1414 := Nat.le_trans (own_oz O1404) sz_b1414
        have g_b1415 : n0 ≤ b1415 := Nat.le_trans (own_oz O1404) sz_b1415
        have g_b1416 : n0 ≤ b1416 := Nat.le_trans (own_oz O1404) sz_b1416
        have M1405 : h0.size ≤ T1405.heap.size := Nat.le_trans M1404 K1423.1
        have O1405 := Old.keep O1404 K1423 (allS g_b1404 all0)
        obtain ⟨_, T1524, L1524, X1524, hQ1524, st1524⟩ := own_vb X1405 hx hZ hown (y := yn15) (own_w hw 106 rfl) (own_w hw 107 rfl) (own_w hw 109 rfl) (own_w hw 108 rfl) (own_w hw 110 rfl) (own_w hw 2 rfl) rfl f1481 (argsL := []) (rest := []) (rm16 l Z a0 hw [] b1404 b1406 b1407 b1408 b1409 b1410 b1411 b1412 b1413 b1414 b1415 b1416 k1417 k1418 k1419 k1420 T1405.heap n0 O1405 g_b1404 g_b1406 g_b1407 g_b1408 g_b1409 g_b1410 g_b1411 g_b1412 g_b1413 g_b1414 g_b1415 g_b1416 OV1479 OV1480 f1482 f1484 f1485 f1486 f1488 f1489 f1490 f1491 f1492 f1493 f1494 f1496 f1500 f1502 f1504 f1507 f1508 f1509 f1510 f1511 f1512 f1513 f1518 f1520) (g := (mkF m 53 #[.val (.long q1), .second, .val (.long q2), .second, .val (.long q3), .second, .val (.int p4), .val (.int 1), .val (.int 1), .val (.int 0), .val (.ref b1404), .unset, .unset, .unset, .unset, .unset, .unset, .unset, .unset, .unset, .unset, .unset, .unset, .unset, .unset, .unset, .unset, .unset, .unset, .unset, .unset, .unset, .unset, .unset] [(.ref b1404)])) rfl (by rw [hml]; rfl) rfl (hb hby at_53) (lenOf pd3 rfl) (W := 0) (c1 := 12) (s1 := 136)
        obtain ⟨rfl, Nq1525, e1526⟩ := hQ1524
        have N1524 := Fr.app N1405 Nq1525
        obtain ⟨_, T1527, L1527, X1527, hQ1527, st1527⟩ := own_vb X1524 hx hZ hown (y := yn16) (own_w hw 149 rfl) (own_w hw 150 rfl) (own_w hw 152 rfl) (own_w hw 151 rfl) (own_w hw 153 rfl) (own_w hw 2 rfl) e1526 f1481 (argsL := [(.long q1), (.int 1)]) (rest := []) (rm24 l Z a0 hw [] b1404 b1406 b1407 b1408 b1409 b1410 b1411 b1412 b1413 b1414 b1415 b1416 k1417 k1418 q1 T1405.heap n0 O1405 g_b1404 g_b1406 g_b1407 g_b1408 g_b1409 g_b1410 g_b1411 g_b1412 g_b1413 g_b1414 g_b1415 g_b1416 OV1479 OV1480 f1481 f1482 f1483 f1484 f1485 f1486 f1487 f1488 f1489 f1490 f1491 f1492 f1493) (g := (mkF m 63 #[.val (.long q1), .second, .val (.long q2), .second, .val (.long q3), .second, .val (.int p4), .val (.int 1), .val (.int 1), .val (.int 0), .val (.ref b1404), .val (.long 288), .second, .unset, .unset, .unset, .unset, .unset, .unset, .unset, .unset, .unset, .unset, .unset, .unset, .unset, .unset, .unset, .unset, .unset, .unset, .unset, .unset, .unset] [(.int 1), (.long q1), (.ref b1404)])) rfl (by rw [hml]; rfl) rfl (hb hby at_63) (lenOf pd5 rfl) (W := 0) (c1 := 12) (s1 := 136)
        obtain ⟨rfl, Nq1528, K1529, f1530, f1531, f1532, f1533, f1534, f1535, f1536, f1537, f1538, f1539, f1540, f1541, f1542⟩ := hQ1527
        have N1527 := Fr.app N1524 Nq1528
        have M1527 : h0.size ≤ T1527.heap.size := Nat.le_trans M1405 K1529.1
        have O1527 := Old.keep O1405 K1529 (allS g_b1404 all0)
        have f1543 := (f1494.keep K1529)
        have lt1544 : b1404 < h1404.size := A1404.lt
        have ne1545 : b1404 ≠ b1406 := Nat.ne_of_lt (Nat.lt_of_lt_of_le lt1544 sz_b1406)
        have f1546 := (f1496.keep K1529 (ninS (Ne.symm ne1545) nin0))
        have f1547 := (f1500.keep K1529)
        have ne1548 : b1404 ≠ b1408 := Nat.ne_of_lt (Nat.lt_of_lt_of_le lt1544 sz_b1408)
        have f1549 := (f1502.keep K1529 (ninS (Ne.symm ne1548) nin0))
        have f1550 := (f1504.keep K1529)
        have ne1551 : b1404 ≠ b1409 := Nat.ne_of_lt (Nat.lt_of_lt_of_le lt1544 sz_b1409)
        have f1552 := (f1507.keep K1529 (ninS (Ne.symm ne1551) nin0))
        have f1553 := (f1508.keep K1529)
        have ne1554 : b1404 ≠ b1410 := Nat.ne_of_lt (Nat.lt_of_lt_of_le lt1544 sz_b1410)
        have f1555 := (f1509.keep K1529 (ninS (Ne.symm ne1554) nin0))
        have f1556 := (f1510.keep K1529 (ninS (Ne.symm ne1554) nin0))
        have f1557 := (f1511.keep K1529)
        have ne1558 : b1404 ≠ b1411 := Nat.ne_of_lt (Nat.lt_of_lt_of_le lt1544 sz_b1411)
        have f1559 := (f1512.keep K1529 (ninS (Ne.symm ne1558) nin0))
        have f1560 := (f1513.keep K1529 (ninS (Ne.symm ne1558) nin0))
        have ne1561 : b1404 ≠ b1414 := Nat.ne_of_lt (Nat.lt_of_lt_of_le lt1544 sz_b1414)
        have f1562 := (f1518.keep K1529 (ninS (Ne.symm ne1561) nin0))
        have ne1563 : b1404 ≠ b1415 := Nat.ne_of_lt (Nat.lt_of_lt_of_le lt1544 sz_b1415)
        have f1564 := (f1520.keep K1529 (ninS (Ne.symm ne1563) nin0))
        obtain ⟨_, T1565, L1565, X1565, hQ1565, st1565⟩ := own_vb X1527 hx hZ hown (y := yn15) (own_w hw 106 rfl) (own_w hw 107 rfl) (own_w hw 109 rfl) (own_w hw 108 rfl) (own_w hw 110 rfl) (own_w hw 2 rfl) rfl f1530 (argsL := []) (rest := []) (rm21 l Z a0 hw [] b1404 b1406 b1407 b1408 b1409 b1410 b1411 b1412 b1413 b1414 b1415 b1416 k1417 k1418 (((0 : Int64) + q1)) k1419 k1420 T1527.heap n0 O1527 g_b1404 g_b1406 g_b1407 g_b1408 g_b1409 g_b1410 g_b1411 g_b1412 g_b1413 g_b1414 g_b1415 g_b1416 OV1479 OV1480 f1531 f1533 f1534 f1535 f1537 f1538 f1539 f1540 f1541 f1542 f1543 f1546 f1547 f1549 f1550 f1552 f1553 f1555 f1556 f1557 f1559 f1560 f1562 f1564) (g := (mkF m 68 #[.val (.long q1), .second, .val (.long q2), .second, .val (.long q3), .second, .val (.int p4), .val (.int 1), .val (.int 1), .val (.int 0), .val (.ref b1404), .val (.long 288), .second, .unset, .unset, .unset, .unset, .unset, .unset, .unset, .unset, .unset, .unset, .unset, .unset, .unset, .unset, .unset, .unset, .unset, .unset, .unset, .unset, .unset] [(.ref b1404)])) rfl (by rw [hml]; rfl) rfl (hb hby at_68) (lenOf pd3 rfl) (W := 0) (c1 := 12) (s1 := 136)
        obtain ⟨rfl, Nq1566, e1567⟩ := hQ1565
        have N1565 := Fr.app N1527 Nq1566
        obtain ⟨_, T1568, L1568, X1568, hQ1568, st1568⟩ := own_vb X1565 hx hZ hown (y := yn16) (own_w hw 149 rfl) (own_w hw 150 rfl) (own_w hw 152 rfl) (own_w hw 151 rfl) (own_w hw 153 rfl) (own_w hw 2 rfl) e1567 f1530 (argsL := [(.long q2), (.int 1)]) (rest := []) (rm23 l Z a0 hw [] b1404 b1406 b1407 b1408 b1409 b1410 b1411 b1412 b1413 b1414 b1415 b1416 k1417 k1418 (((0 : Int64) + q1)) q2 T1527.heap n0 O1527 g_b1404 g_b1406 g_b1407 g_b1408 g_b1409 g_b1410 g_b1411 g_b1412 g_b1413 g_b1414 g_b1415 g_b1416 OV1479 OV1480 f1530 f1531 f1532 f1533 f1534 f1535 f1536 f1537 f1538 f1539 f1540 f1541 f1542) (g := (mkF m 78 #[.val (.long q1), .second, .val (.long q2), .second, .val (.long q3), .second, .val (.int p4), .val (.int 1), .val (.int 1), .val (.int 0), .val (.ref b1404), .val (.long 288), .second, .val (.long ((((288 : Int64) + (((0 : Int64) + q1) <<< ((1 : Int32) &&& 0x3f).toInt64)) + (0 : Int64)) + (0 : Int64))), .second, .unset, .unset, .unset, .unset, .unset, .unset, .unset, .unset, .unset, .unset, .unset, .unset, .unset, .unset, .unset, .unset, .unset, .unset, .unset] [(.int 1), (.long q2), (.ref b1404)])) rfl (by rw [hml]; rfl) rfl (hb hby at_78) (lenOf pd5 rfl) (W := 0) (c1 := 12) (s1 := 136)
        obtain ⟨rfl, Nq1569, K1570, f1571, f1572, f1573, f1574, f1575, f1576, f1577, f1578, f1579, f1580, f1581, f1582, f1583⟩ := hQ1568
        have N1568 := Fr.app N1565 Nq1569
        have M1568 : h0.size ≤ T1568.heap.size := Nat.le_trans M1527 K1570.1
        have O1568 := Old.keep O1527 K1570 (allS g_b1404 all0)
        have f1584 := (f1543.keep K1570)
        have f1585 := (f1546.keep K1570 (ninS (Ne.symm ne1545) nin0))
        have f1586 := (f1547.keep K1570)
        have f1587 := (f1549.keep K1570 (ninS (Ne.symm ne1548) nin0))
        have f1588 := (f1550.keep K1570)
        have f1589 := (f1552.keep K1570 (ninS (Ne.symm ne1551) nin0))
        have f1590 := (f1553.keep K1570)
        have f1591 := (f1555.keep K1570 (ninS (Ne.symm ne1554) nin0))
        have f1592 := (f1556.keep K1570 (ninS (Ne.symm ne1554) nin0))
        have f1593 := (f1557.keep K1570)
        have f1594 := (f1559.keep K1570 (ninS (Ne.symm ne1558) nin0))
        have f1595 := (f1560.keep K1570 (ninS (Ne.symm ne1558) nin0))
        have f1596 := (f1562.keep K1570 (ninS (Ne.symm ne1561) nin0))
        have f1597 := (f1564.keep K1570 (ninS (Ne.symm ne1563) nin0))
        obtain ⟨_, T1598, L1598, X1598, hQ1598, st1598⟩ := own_vb X1568 hx hZ hown (y := yn15) (own_w hw 106 rfl) (own_w hw 107 rfl) (own_w hw 109 rfl) (own_w hw 108 rfl) (own_w hw 110 rfl) (own_w hw 2 rfl) rfl f1571 (argsL := []) (rest := []) (rm21 l Z a0 hw [] b1404 b1406 b1407 b1408 b1409 b1410 b1411 b1412 b1413 b1414 b1415 b1416 k1417 k1418 ((((0 : Int64) + q1) + q2)) k1419 k1420 T1568.heap n0 O1568 g_b1404 g_b1406 g_b1407 g_b1408 g_b1409 g_b1410 g_b1411 g_b1412 g_b1413 g_b1414 g_b1415 g_b1416 OV1479 OV1480 f1572 f1574 f1575 f1576 f1578 f1579 f1580 f1581 f1582 f1583 f1584 f1585 f1586 f1587 f1588 f1589 f1590 f1591 f1592 f1593 f1594 f1595 f1596 f1597) (g := (mkF m 83 #[.val (.long q1), .second, .val (.long q2), .second, .val (.long q3), .second, .val (.int p4), .val (.int 1), .val (.int 1), .val (.int 0), .val (.ref b1404), .val (.long 288), .second, .val (.long ((((288 : Int64) + (((0 : Int64) + q1) <<< ((1 : Int32) &&& 0x3f).toInt64)) + (0 : Int64)) + (0 : Int64))), .second, .unset, .unset, .unset, .unset, .unset, .unset, .unset, .unset, .unset, .unset, .unset, .unset, .unset, .unset, .unset, .unset, .unset, .unset, .unset] [(.ref b1404)])) rfl (by rw [hml]; rfl) rfl (hb hby at_83) (lenOf pd3 rfl) (W := 0) (c1 := 12) (s1 := 136)
        obtain ⟨rfl, Nq1599, e1600⟩ := hQ1598
        have N1598 := Fr.app N1568 Nq1599
        obtain ⟨_, T1601, L1601, X1601, hQ1601, st1601⟩ := own_vb X1598 hx hZ hown (y := yn16) (own_w hw 149 rfl) (own_w hw 150 rfl) (own_w hw 152 rfl) (own_w hw 151 rfl) (own_w hw 153 rfl) (own_w hw 2 rfl) e1600 f1571 (argsL := [(.long q3), (.int 0)]) (rest := []) (rm22 l Z a0 hw [] b1404 b1406 b1407 b1408 b1409 b1410 b1411 b1412 b1413 b1414 b1415 b1416 k1417 k1418 ((((0 : Int64) + q1) + q2)) q3 T1568.heap n0 O1568 g_b1404 g_b1406 g_b1407 g_b1408 g_b1409 g_b1410 g_b1411 g_b1412 g_b1413 g_b1414 g_b1415 g_b1416 OV1479 OV1480 f1571 f1572 f1573 f1574 f1575 f1576 f1577 f1578 f1579 f1580 f1581 f1582 f1583) (g := (mkF m 94 #[.val (.long q1), .second, .val (.long q2), .second, .val (.long q3), .second, .val (.int p4), .val (.int 1), .val (.int 1), .val (.int 0), .val (.ref b1404), .val (.long 288), .second, .val (.long ((((288 : Int64) + (((0 : Int64) + q1) <<< ((1 : Int32) &&& 0x3f).toInt64)) + (0 : Int64)) + (0 : Int64))), .second, .val (.long ((((288 : Int64) + ((((0 : Int64) + q1) + q2) <<< ((1 : Int32) &&& 0x3f).toInt64)) + (0 : Int64)) + (0 : Int64))), .second, .unset, .unset, .unset, .unset, .unset, .unset, .unset, .unset, .unset, .unset, .unset, .unset, .unset, .unset, .unset, .unset, .unset] [(.int 0), (.long q3), (.ref b1404)])) rfl (by rw [hml]; rfl) rfl (hb hby at_94) (lenOf pd5 rfl) (W := 0) (c1 := 12) (s1 := 136)
        obtain ⟨rfl, Nq1602, K1603, f1604, f1605, f1606, f1607, f1608, f1609, f1610, f1611, f1612, f1613, f1614, f1615, f1616⟩ := hQ1601
        have N1601 := Fr.app N1598 Nq1602
        have M1601 : h0.size ≤ T1601.heap.size := Nat.le_trans M1568 K1603.1
        have O1601 := Old.keep O1568 K1603 (allS g_b1404 all0)
        have f1617 := (f1584.keep K1603)
        have f1618 := (f1585.keep K1603 (ninS (Ne.symm ne1545) nin0))
        have f1619 := (f1586.keep K1603)
        have f1620 := (f1587.keep K1603 (ninS (Ne.symm ne1548) nin0))
        have f1621 := (f1588.keep K1603)
        have f1622 := (f1589.keep K1603 (ninS (Ne.symm ne1551) nin0))
        have f1623 := (f1590.keep K1603)
        have f1624 := (f1591.keep K1603 (ninS (Ne.symm ne1554) nin0))
        have f1625 := (f1592.keep K1603 (ninS (Ne.symm ne1554) nin0))
        have f1626 := (f1593.keep K1603)
        have f1627 := (f1594.keep K1603 (ninS (Ne.symm ne1558) nin0))
        have f1628 := (f1595.keep K1603 (ninS (Ne.symm ne1558) nin0))
        have f1629 := (f1596.keep K1603 (ninS (Ne.symm ne1561) nin0))
        have f1630 := (f1597.keep K1603 (ninS (Ne.symm ne1563) nin0))
        obtain ⟨_, T1631, L1631, X1631, hQ1631, st1631⟩ := own_vb X1601 hx hZ hown (y := yn15) (own_w hw 106 rfl) (own_w hw 107 rfl) (own_w hw 109 rfl) (own_w hw 108 rfl) (own_w hw 110 rfl) (own_w hw 2 rfl) rfl f1604 (argsL := []) (rest := []) (rm21 l Z a0 hw [] b1404 b1406 b1407 b1408 b1409 b1410 b1411 b1412 b1413 b1414 b1415 b1416 k1417 k1418 (((((0 : Int64) + q1) + q2) + q3)) k1419 k1420 T1601.heap n0 O1601 g_b1404 g_b1406 g_b1407 g_b1408 g_b1409 g_b1410 g_b1411 g_b1412 g_b1413 g_b1414 g_b1415 g_b1416 OV1479 OV1480 f1605 f1607 f1608 f1609 f1611 f1612 f1613 f1614 f1615 f1616 f1617 f1618 f1619 f1620 f1621 f1622 f1623 f1624 f1625 f1626 f1627 f1628 f1629 f1630) (g := (mkF m 99 #[.val (.long q1), .second, .val (.long q2), .second, .val (.long q3), .second, .val (.int p4), .val (.int 1), .val (.int 1), .val (.int 0), .val (.ref b1404), .val (.long 288), .second, .val (.long ((((288 : Int64) + (((0 : Int64) + q1) <<< ((1 : Int32) &&& 0x3f).toInt64)) + (0 : Int64)) + (0 : Int64))), .second, .val (.long ((((288 : Int64) + ((((0 : Int64) + q1) + q2) <<< ((1 : Int32) &&& 0x3f).toInt64)) + (0 : Int64)) + (0 : Int64))), .second, .unset, .unset, .unset, .unset, .unset, .unset, .unset, .unset, .unset, .unset, .unset, .unset, .unset, .unset, .unset, .unset, .unset] [(.ref b1404)])) rfl (by rw [hml]; rfl) rfl (hb hby at_99) (lenOf pd3 rfl) (W := 0) (c1 := 12) (s1 := 136)
        obtain ⟨rfl, Nq1632, e1633⟩ := hQ1631
        have N1631 := Fr.app N1601 Nq1632
        obtain ⟨fs, hr, hrun, hended, hW, hsame⟩ := X1631.leave (v := some (.int 1)) (fun h => by rw [hret] at h; cases h)
        refine ⟨_, _, pre1403 _ ?_, hrun, hended, _, _, rfl, ?_, ⟨_, rfl⟩, hW, hsame.mono (by decide) (by decide)⟩
        ·
          show Steps p.tables e below (s₁.setTop (mkF m 32 #[.val (.long q1), .second, .val (.long q2), .second, .val (.long q3), .second, .val (.int p4), .val (.int 1), .val (.int 1), .unset, .unset, .unset, .unset, .unset, .unset, .unset, .unset, .unset, .unset, .unset, .unset, .unset, .unset, .unset, .unset, .unset, .unset, .unset, .unset, .unset, .unset, .unset, .unset, .unset] [(.int 0)])) _
          refine XS.ifYes X0.here hx rfl (pc0 := 32) (pc' := 39) rfl (hb hby at_32) rfl ((if0 _ _).trans (teq (by decide : (0 : Int32) = (0 : Int32))).1) (by decide) (by decide) ?_
          refine XS.iconst X0.here hx rfl (hb hby at_39) ?_
          refine XS.istore X0.here hx rfl (hb hby at_40) rfl (l' := #[.val (.long q1), .second, .val (.long q2), .second, .val (.long q3), .second, .val (.int p4), .val (.int 1), .val (.int 1), .val (.int 0), .unset, .unset, .unset, .unset, .unset, .unset, .unset, .unset, .unset, .unset, .unset, .unset, .unset, .unset, .unset, .unset, .unset, .unset, .unset, .unset, .unset, .unset, .unset, .unset]) rfl ?_
          refine st1404 _ ?_
          refine XS.dup X1404.here hx rfl (hb hby at_45) rfl rfl ?_
          refine st1405 _ ?_
          refine XS.astore X1405.here hx rfl (hb hby at_49) rfl rfl (l' := #[.val (.long q1), .second, .val (.long q2), .second, .val (.long q3), .second, .val (.int p4), .val (.int 1), .val (.int 1), .val (.int 0), .val (.ref b1404), .unset, .unset, .unset, .unset, .unset, .unset, .unset, .unset, .unset, .unset, .unset, .unset, .unset, .unset, .unset, .unset, .unset, .unset, .unset, .unset, .unset, .unset, .unset]) rfl ?_
          refine XS.aload X1405.here hx rfl (hb hby at_51) rfl rfl ?_
          refine st1524 _ ?_
          refine XS.lstore X1524.here hx rfl (hb hby at_56) rfl (l' := #[.val (.long q1), .second, .val (.long q2), .second, .val (.long q3), .second, .val (.int p4), .val (.int 1), .val (.int 1), .val (.int 0), .val (.ref b1404), .val (.long 288), .second, .unset, .unset, .unset, .unset, .unset, .unset, .unset, .unset, .unset, .unset, .unset, .unset, .unset, .unset, .unset, .unset, .unset, .unset, .unset, .unset, .unset]) rfl ?_
          refine XS.aload X1524.here hx rfl (hb hby at_58) rfl rfl ?_
          refine XS.lloadN X1524.here hx rfl (hb hby at_60) rfl ?_
          refine XS.iload X1524.here hx rfl (hb hby at_61) rfl ?_
          refine st1527 _ ?_
          refine XS.aload X1527.here hx rfl (hb hby at_66) rfl rfl ?_
          refine st1565 _ ?_
          refine XS.lstore X1565.here hx rfl (hb hby at_71) rfl (l' := #[.val (.long q1), .second, .val (.long q2), .second, .val (.long q3), .second, .val (.int p4), .val (.int 1), .val (.int 1), .val (.int 0), .val (.ref b1404), .val (.long 288), .second, .val (.long ((((288 : Int64) + (((0 : Int64) + q1) <<< ((1 : Int32) &&& 0x3f).toInt64)) + (0 : Int64)) + (0 : Int64))), .second, .unset, .unset, .unset, .unset, .unset, .unset, .unset, .unset, .unset, .unset, .unset, .unset, .unset, .unset, .unset, .unset, .unset, .unset, .unset]) rfl ?_
          refine XS.aload X1565.here hx rfl (hb hby at_73) rfl rfl ?_
          refine XS.lloadN X1565.here hx rfl (hb hby at_75) rfl ?_
          refine XS.iload X1565.here hx rfl (hb hby at_76) rfl ?_
          refine st1568 _ ?_
          refine XS.aload X1568.here hx rfl (hb hby at_81) rfl rfl ?_
          refine st1598 _ ?_
          show Steps p.tables e below (T1598.setTop (mkF m 86 #[.val (.long q1), .second, .val (.long q2), .second, .val (.long q3), .second, .val (.int p4), .val (.int 1), .val (.int 1), .val (.int 0), .val (.ref b1404), .val (.long 288), .second, .val (.long ((((288 : Int64) + (((0 : Int64) + q1) <<< ((1 : Int32) &&& 0x3f).toInt64)) + (0 : Int64)) + (0 : Int64))), .second, .unset, .unset, .unset, .unset, .unset, .unset, .unset, .unset, .unset, .unset, .unset, .unset, .unset, .unset, .unset, .unset, .unset, .unset, .unset] [(.long ((((288 : Int64) + ((((0 : Int64) + q1) + q2) <<< ((1 : Int32) &&& 0x3f).toInt64)) + (0 : Int64)) + (0 : Int64)))])) _
          refine XS.lstore X1598.here hx rfl (hb hby at_86) rfl (l' := #[.val (.long q1), .second, .val (.long q2), .second, .val (.long q3), .second, .val (.int p4), .val (.int 1), .val (.int 1), .val (.int 0), .val (.ref b1404), .val (.long 288), .second, .val (.long ((((288 : Int64) + (((0 : Int64) + q1) <<< ((1 : Int32) &&& 0x3f).toInt64)) + (0 : Int64)) + (0 : Int64))), .second, .val (.long ((((288 : Int64) + ((((0 : Int64) + q1) + q2) <<< ((1 : Int32) &&& 0x3f).toInt64)) + (0 : Int64)) + (0 : Int64))), .second, .unset, .unset, .unset, .unset, .unset, .unset, .unset, .unset, .unset, .unset, .unset, .unset, .unset, .unset, .unset, .unset, .unset]) rfl ?_
          refine XS.aload X1598.here hx rfl (hb hby at_88) rfl rfl ?_
          refine XS.lload X1598.here hx rfl (hb hby at_90) rfl ?_
          refine XS.iload X1598.here hx rfl (hb hby at_92) rfl ?_
          refine st1601 _ ?_
          refine XS.aload X1601.here hx rfl (hb hby at_97) rfl rfl ?_
          refine st1631 _ ?_
          refine XS.lstore X1631.here hx rfl (hb hby at_102) rfl (l' := #[.val (.long q1), .second, .val (.long q2), .second, .val (.long q3), .second, .val (.int p4), .val (.int 1), .val (.int 1), .val (.int 0), .val (.ref b1404), .val (.long 288), .second, .val (.long ((((288 : Int64) + (((0 : Int64) + q1) <<< ((1 : Int32) &&& 0x3f).toInt64)) + (0 : Int64)) + (0 : Int64))), .second, .val (.long ((((288 : Int64) + ((((0 : Int64) + q1) + q2) <<< ((1 : Int32) &&& 0x3f).toInt64)) + (0 : Int64)) + (0 : Int64))), .second, .val (.long ((((288 : Int64) + (((((0 : Int64) + q1) + q2) + q3) <<< ((1 : Int32) &&& 0x3f).toInt64)) + (0 : Int64)) + (0 : Int64))), .second, .unset, .unset, .unset, .unset, .unset, .unset, .unset, .unset, .unset, .unset, .unset, .unset, .unset, .unset, .unset]) rfl ?_
          refine XS.lloadN X1631.here hx rfl (hb hby at_104) rfl ?_
          refine XS.lstore X1631.here hx rfl (hb hby at_105) rfl (l' := #[.val (.long q1), .second, .val (.long q2), .second, .val (.long q3), .second, .val (.int p4), .val (.int 1), .val (.int 1), .val (.int 0), .val (.ref b1404), .val (.long 288), .second, .val (.long ((((288 : Int64) + (((0 : Int64) + q1) <<< ((1 : Int32) &&& 0x3f).toInt64)) + (0 : Int64)) + (0 : Int64))), .second, .val (.long ((((288 : Int64) + ((((0 : Int64) + q1) + q2) <<< ((1 : Int32) &&& 0x3f).toInt64)) + (0 : Int64)) + (0 : Int64))), .second, .val (.long ((((288 : Int64) + (((((0 : Int64) + q1) + q2) + q3) <<< ((1 : Int32) &&& 0x3f).toInt64)) + (0 : Int64)) + (0 : Int64))), .second, .val (.long q1), .second, .unset, .unset, .unset, .unset, .unset, .unset, .unset, .unset, .unset, .unset, .unset, .unset, .unset]) rfl ?_
          refine XS.lloadN X1631.here hx rfl (hb hby at_107) rfl ?_
          refine XS.lloadN X1631.here hx rfl (hb hby at_108) rfl ?_
          refine XS.ladd X1631.here hx rfl (hb hby at_109) rfl ?_
          refine XS.lstore X1631.here hx rfl (hb hby at_110) rfl (l' := #[.val (.long q1), .second, .val (.long q2), .second, .val (.long q3), .second, .val (.int p4), .val (.int 1), .val (.int 1), .val (.int 0), .val (.ref b1404), .val (.long 288), .second, .val (.long ((((288 : Int64) + (((0 : Int64) + q1) <<< ((1 : Int32) &&& 0x3f).toInt64)) + (0 : Int64)) + (0 : Int64))), .second, .val (.long ((((288 : Int64) + ((((0 : Int64) + q1) + q2) <<< ((1 : Int32) &&& 0x3f).toInt64)) + (0 : Int64)) + (0 : Int64))), .second, .val (.long ((((288 : Int64) + (((((0 : Int64) + q1) + q2) + q3) <<< ((1 : Int32) &&& 0x3f).toInt64)) + (0 : Int64)) + (0 : Int64))), .second, .val (.long q1), .second, .val (.long (q1 + q2)), .second, .unset, .unset, .unset, .unset, .unset, .unset, .unset, .unset, .unset, .unset, .unset]) rfl ?_
          refine XS.lloadN X1631.here hx rfl (hb hby at_112) rfl ?_
          refine XS.lloadN X1631.here hx rfl (hb hby at_113) rfl ?_
          refine XS.ladd X1631.here hx rfl (hb hby at_114) rfl ?_
          refine XS.lload X1631.here hx rfl (hb hby at_115) rfl ?_
          refine XS.ladd X1631.here hx rfl (hb hby at_117) rfl ?_
          refine XS.lstore X1631.here hx rfl (hb hby at_118) rfl (l' := #[.val (.long q1), .second, .val (.long q2), .second, .val (.long q3), .second, .val (.int p4), .val (.int 1), .val (.int 1), .val (.int 0), .val (.ref b1404), .val (.long 288), .second, .val (.long ((((288 : Int64) + (((0 : Int64) + q1) <<< ((1 : Int32) &&& 0x3f).toInt64)) + (0 : Int64)) + (0 : Int64))), .second, .val (.long ((((288 : Int64) + ((((0 : Int64) + q1) + q2) <<< ((1 : Int32) &&& 0x3f).toInt64)) + (0 : Int64)) + (0 : Int64))), .second, .val (.long ((((288 : Int64) + (((((0 : Int64) + q1) + q2) + q3) <<< ((1 : Int32) &&& 0x3f).toInt64)) + (0 : Int64)) + (0 : Int64))), .second, .val (.long q1), .second, .val (.long (q1 + q2)), .second, .val (.long ((q1 + q2) + q3)), .second, .unset, .unset, .unset, .unset, .unset, .unset, .unset, .unset, .unset]) rfl ?_
          refine XS.iload X1631.here hx rfl (hb hby at_120) rfl ?_
          refine XS.istore X1631.here hx rfl (hb hby at_122) rfl (l' := #[.val (.long q1), .second, .val (.long q2), .second, .val (.long q3), .second, .val (.int p4), .val (.int 1), .val (.int 1), .val (.int 0), .val (.ref b1404), .val (.long 288), .second, .val (.long ((((288 : Int64) + (((0 : Int64) + q1) <<< ((1 : Int32) &&& 0x3f).toInt64)) + (0 : Int64)) + (0 : Int64))), .second, .val (.long ((((288 : Int64) + ((((0 : Int64) + q1) + q2) <<< ((1 : Int32) &&& 0x3f).toInt64)) + (0 : Int64)) + (0 : Int64))), .second, .val (.long ((((288 : Int64) + (((((0 : Int64) + q1) + q2) + q3) <<< ((1 : Int32) &&& 0x3f).toInt64)) + (0 : Int64)) + (0 : Int64))), .second, .val (.long q1), .second, .val (.long (q1 + q2)), .second, .val (.long ((q1 + q2) + q3)), .second, .val (.int 1), .unset, .unset, .unset, .unset, .unset, .unset, .unset, .unset]) rfl ?_
          refine XS.iload X1631.here hx rfl (hb hby at_124) rfl ?_
          refine XS.ifYes X1631.here hx rfl (pc0 := 126) (pc' := 134) rfl (hb hby at_126) rfl ((if0 _ _).trans (feq (by decide : ¬ ((1 : Int32) = (0 : Int32)))).2) (by decide) (by decide) ?_
          refine XS.iconst X1631.here hx rfl (hb hby at_134) ?_
          refine XS.goto X1631.here hx rfl (pc0 := 135) (pc' := 139) rfl (hb hby at_135) (by decide) (by decide) ?_
          refine XS.istore X1631.here hx rfl (hb hby at_139) rfl (l' := #[.val (.long q1), .second, .val (.long q2), .second, .val (.long q3), .second, .val (.int p4), .val (.int 1), .val (.int 1), .val (.int 0), .val (.ref b1404), .val (.long 288), .second, .val (.long ((((288 : Int64) + (((0 : Int64) + q1) <<< ((1 : Int32) &&& 0x3f).toInt64)) + (0 : Int64)) + (0 : Int64))), .second, .val (.long ((((288 : Int64) + ((((0 : Int64) + q1) + q2) <<< ((1 : Int32) &&& 0x3f).toInt64)) + (0 : Int64)) + (0 : Int64))), .second, .val (.long ((((288 : Int64) + (((((0 : Int64) + q1) + q2) + q3) <<< ((1 : Int32) &&& 0x3f).toInt64)) + (0 : Int64)) + (0 : Int64))), .second, .val (.long q1), .second, .val (.long (q1 + q2)), .second, .val (.long ((q1 + q2) + q3)), .second, .val (.int 1), .val (.int 1), .unset, .unset, .unset, .unset, .unset, .unset, .unset]) rfl ?_
          refine XS.iload X1631.here hx rfl (hb hby at_141) rfl ?_
          refine XS.ifYes X1631.here hx rfl (pc0 := 143) (pc' := 156) rfl (hb hby at_143) rfl ((if0 _ _).trans (feq (by decide : ¬ ((1 : Int32) = (0 : Int32)))).2) (by decide) (by decide) ?_
          refine XS.iconst X1631.here hx rfl (hb hby at_156) ?_
          refine XS.goto X1631.here hx rfl (pc0 := 157) (pc' := 161) rfl (hb hby at_157) (by decide) (by decide) ?_
          refine XS.istore X1631.here hx rfl (hb hby at_161) rfl (l' := #[.val (.long q1), .second, .val (.long q2), .second, .val (.long q3), .second, .val (.int p4), .val (.int 1), .val (.int 1), .val (.int 0), .val (.ref b1404), .val (.long 288), .second, .val (.long ((((288 : Int64) + (((0 : Int64) + q1) <<< ((1 : Int32) &&& 0x3f).toInt64)) + (0 : Int64)) + (0 : Int64))), .second, .val (.long ((((288 : Int64) + ((((0 : Int64) + q1) + q2) <<< ((1 : Int32) &&& 0x3f).toInt64)) + (0 : Int64)) + (0 : Int64))), .second, .val (.long ((((288 : Int64) + (((((0 : Int64) + q1) + q2) + q3) <<< ((1 : Int32) &&& 0x3f).toInt64)) + (0 : Int64)) + (0 : Int64))), .second, .val (.long q1), .second, .val (.long (q1 + q2)), .second, .val (.long ((q1 + q2) + q3)), .second, .val (.int 1), .val (.int 1), .val (.int 1), .unset, .unset, .unset, .unset, .unset, .unset]) rfl ?_
          refine XS.iload X1631.here hx rfl (hb hby at_163) rfl ?_
          refine XS.ifNo X1631.here hx rfl (hb hby at_165) rfl ((if0 _ _).trans (feq (by decide : ¬ ((1 : Int32) = (0 : Int32)))).1) ?_
          refine XS.lload X1631.here hx rfl (hb hby at_168) rfl ?_
          refine XS.iconst X1631.here hx rfl (hb hby at_170) ?_
          refine XS.lshl X1631.here hx rfl (hb hby at_171) rfl ?_
          refine XS.goto X1631.here hx rfl (pc0 := 172) (pc' := 177) rfl (hb hby at_172) (by decide) (by decide) ?_
          refine XS.lstore X1631.here hx rfl (hb hby at_177) rfl (l' := #[.val (.long q1), .second, .val (.long q2), .second, .val (.long q3), .second, .val (.int p4), .val (.int 1), .val (.int 1), .val (.int 0), .val (.ref b1404), .val (.long 288), .second, .val (.long ((((288 : Int64) + (((0 : Int64) + q1) <<< ((1 : Int32) &&& 0x3f).toInt64)) + (0 : Int64)) + (0 : Int64))), .second, .val (.long ((((288 : Int64) + ((((0 : Int64) + q1) + q2) <<< ((1 : Int32) &&& 0x3f).toInt64)) + (0 : Int64)) + (0 : Int64))), .second, .val (.long ((((288 : Int64) + (((((0 : Int64) + q1) + q2) + q3) <<< ((1 : Int32) &&& 0x3f).toInt64)) + (0 : Int64)) + (0 : Int64))), .second, .val (.long q1), .second, .val (.long (q1 + q2)), .second, .val (.long ((q1 + q2) + q3)), .second, .val (.int 1), .val (.int 1), .val (.int 1), .val (.long (q1 <<< ((1 : Int32) &&& 0x3f).toInt64)), .second, .unset, .unset, .unset, .unset]) rfl ?_
          refine XS.iload X1631.here hx rfl (hb hby at_179) rfl ?_
          show Steps p.tables e below (T1631.setTop (mkF m 181 #[.val (.long q1), .second, .val (.long q2), .second, .val (.long q3), .second, .val (.int p4), .val (.int 1), .val (.int 1), .val (.int 0), .val (.ref b1404), .val (.long 288), .second, .val (.long ((((288 : Int64) + (((0 : Int64) + q1) <<< ((1 : Int32) &&& 0x3f).toInt64)) + (0 : Int64)) + (0 : Int64))), .second, .val (.long ((((288 : Int64) + ((((0 : Int64) + q1) + q2) <<< ((1 : Int32) &&& 0x3f).toInt64)) + (0 : Int64)) + (0 : Int64))), .second, .val (.long ((((288 : Int64) + (((((0 : Int64) + q1) + q2) + q3) <<< ((1 : Int32) &&& 0x3f).toInt64)) + (0 : Int64)) + (0 : Int64))), .second, .val (.long q1), .second, .val (.long (q1 + q2)), .second, .val (.long ((q1 + q2) + q3)), .second, .val (.int 1), .val (.int 1), .val (.int 1), .val (.long (q1 <<< ((1 : Int32) &&& 0x3f).toInt64)), .second, .unset, .unset, .unset, .unset] [(.int 1)])) _
          refine XS.ifNo X1631.here hx rfl (hb hby at_181) rfl ((if0 _ _).trans (feq (by decide : ¬ ((1 : Int32) = (0 : Int32)))).1) ?_
          refine XS.lload X1631.here hx rfl (hb hby at_184) rfl ?_
          refine XS.iconst X1631.here hx rfl (hb hby at_186) ?_
          refine XS.lshl X1631.here hx rfl (hb hby at_187) rfl ?_
          refine XS.goto X1631.here hx rfl (pc0 := 188) (pc' := 193) rfl (hb hby at_188) (by decide) (by decide) ?_
          refine XS.lstore X1631.here hx rfl (hb hby at_193) rfl (l' := #[.val (.long q1), .second, .val (.long q2), .second, .val (.long q3), .second, .val (.int p4), .val (.int 1), .val (.int 1), .val (.int 0), .val (.ref b1404), .val (.long 288), .second, .val (.long ((((288 : Int64) + (((0 : Int64) + q1) <<< ((1 : Int32) &&& 0x3f).toInt64)) + (0 : Int64)) + (0 : Int64))), .second, .val (.long ((((288 : Int64) + ((((0 : Int64) + q1) + q2) <<< ((1 : Int32) &&& 0x3f).toInt64)) + (0 : Int64)) + (0 : Int64))), .second, .val (.long ((((288 : Int64) + (((((0 : Int64) + q1) + q2) + q3) <<< ((1 : Int32) &&& 0x3f).toInt64)) + (0 : Int64)) + (0 : Int64))), .second, .val (.long q1), .second, .val (.long (q1 + q2)), .second, .val (.long ((q1 + q2) + q3)), .second, .val (.int 1), .val (.int 1), .val (.int 1), .val (.long (q1 <<< ((1 : Int32) &&& 0x3f).toInt64)), .second, .val (.long ((q1 + q2) <<< ((1 : Int32) &&& 0x3f).toInt64)), .second, .unset, .unset]) rfl ?_
          refine XS.iload X1631.here hx rfl (hb hby at_195) rfl ?_
          refine XS.ifNo X1631.here hx rfl (hb hby at_197) rfl ((if0 _ _).trans (feq (by decide : ¬ ((1 : Int32) = (0 : Int32)))).1) ?_
          refine XS.lload X1631.here hx rfl (hb hby at_200) rfl ?_
          refine XS.iconst X1631.here hx rfl (hb hby at_202) ?_
          refine XS.lshl X1631.here hx rfl (hb hby at_203) rfl ?_
          refine XS.goto X1631.here hx rfl (pc0 := 204) (pc' := 209) rfl (hb hby at_204) (by decide) (by decide) ?_
          refine XS.lstore X1631.here hx rfl (hb hby at_209) rfl (l' := #[.val (.long q1), .second, .val (.long q2), .second, .val (.long q3), .second, .val (.int p4), .val (.int 1), .val (.int 1), .val (.int 0), .val (.ref b1404), .val (.long 288), .second, .val (.long ((((288 : Int64) + (((0 : Int64) + q1) <<< ((1 : Int32) &&& 0x3f).toInt64)) + (0 : Int64)) + (0 : Int64))), .second, .val (.long ((((288 : Int64) + ((((0 : Int64) + q1) + q2) <<< ((1 : Int32) &&& 0x3f).toInt64)) + (0 : Int64)) + (0 : Int64))), .second, .val (.long ((((288 : Int64) + (((((0 : Int64) + q1) + q2) + q3) <<< ((1 : Int32) &&& 0x3f).toInt64)) + (0 : Int64)) + (0 : Int64))), .second, .val (.long q1), .second, .val (.long (q1 + q2)), .second, .val (.long ((q1 + q2) + q3)), .second, .val (.int 1), .val (.int 1), .val (.int 1), .val (.long (q1 <<< ((1 : Int32) &&& 0x3f).toInt64)), .second, .val (.long ((q1 + q2) <<< ((1 : Int32) &&& 0x3f).toInt64)), .second, .val (.long (((q1 + q2) + q3) <<< ((1 : Int32) &&& 0x3f).toInt64)), .second]) rfl ?_
          refine XS.lload X1631.here hx rfl (hb hby at_211) rfl ?_
          refine XS.lload X1631.here hx rfl (hb hby at_213) rfl ?_
          refine XS.lsub X1631.here hx rfl (hb hby at_215) rfl ?_
          refine XS.lload X1631.here hx rfl (hb hby at_216) rfl ?_
          refine XS.lcmp X1631.here hx rfl (hb hby at_218) rfl ?_
          refine XS.ifNo X1631.here hx rfl (hb hby at_219) rfl ((if0 _ _).trans (teq ((lw_eq _ _).mpr (by rw [own_h]; simp only [Int64.zero_add, own_s0] : (((((288 : Int64) + (((0 : Int64) + q1) <<< ((1 : Int32) &&& 0x3f).toInt64)) + (0 : Int64)) + (0 : Int64)) - (288 : Int64)) = (q1 <<< ((1 : Int32) &&& 0x3f).toInt64)))).2) ?_
          refine XS.lload X1631.here hx rfl (hb hby at_222) rfl ?_
          refine XS.lload X1631.here hx rfl (hb hby at_224) rfl ?_
          refine XS.lsub X1631.here hx rfl (hb hby at_226) rfl ?_
          refine XS.lload X1631.here hx rfl (hb hby at_227) rfl ?_
          refine XS.lcmp X1631.here hx rfl (hb hby at_229) rfl ?_
          refine XS.ifNo X1631.here hx rfl (hb hby at_230) rfl ((if0 _ _).trans (teq ((lw_eq _ _).mpr (by rw [own_h]; simp only [Int64.zero_add, own_s0] : (((((288 : Int64) + ((((0 : Int64) + q1) + q2) <<< ((1 : Int32) &&& 0x3f).toInt64)) + (0 : Int64)) + (0 : Int64)) - (288 : Int64)) = ((q1 + q2) <<< ((1 : Int32) &&& 0x3f).toInt64)))).2) ?_
          refine XS.lload X1631.here hx rfl (hb hby at_233) rfl ?_
          refine XS.lload X1631.here hx rfl (hb hby at_235) rfl ?_
          refine XS.lsub X1631.here hx rfl (hb hby at_237) rfl ?_
          refine XS.lload X1631.here hx rfl (hb hby at_238) rfl ?_
          refine XS.lcmp X1631.here hx rfl (hb hby at_240) rfl ?_
          refine XS.ifNo X1631.here hx rfl (hb hby at_241) rfl ((if0 _ _).trans (teq ((lw_eq _ _).mpr (by rw [own_h]; simp only [Int64.zero_add, own_s0] : (((((288 : Int64) + (((((0 : Int64) + q1) + q2) + q3) <<< ((1 : Int32) &&& 0x3f).toInt64)) + (0 : Int64)) + (0 : Int64)) - (288 : Int64)) = (((q1 + q2) + q3) <<< ((1 : Int32) &&& 0x3f).toInt64)))).2) ?_
          refine XS.iconst X1631.here hx rfl (hb hby at_244) ?_
          refine XS.goto X1631.here hx rfl (pc0 := 245) (pc' := 249) rfl (hb hby at_245) (by decide) (by decide) ?_
          show Steps p.tables e below (T1631.setTop (mkF m 249 #[.val (.long q1), .second, .val (.long q2), .second, .val (.long q3), .second, .val (.int p4), .val (.int 1), .val (.int 1), .val (.int 0), .val (.ref b1404), .val (.long 288), .second, .val (.long ((((288 : Int64) + (((0 : Int64) + q1) <<< ((1 : Int32) &&& 0x3f).toInt64)) + (0 : Int64)) + (0 : Int64))), .second, .val (.long ((((288 : Int64) + ((((0 : Int64) + q1) + q2) <<< ((1 : Int32) &&& 0x3f).toInt64)) + (0 : Int64)) + (0 : Int64))), .second, .val (.long ((((288 : Int64) + (((((0 : Int64) + q1) + q2) + q3) <<< ((1 : Int32) &&& 0x3f).toInt64)) + (0 : Int64)) + (0 : Int64))), .second, .val (.long q1), .second, .val (.long (q1 + q2)), .second, .val (.long ((q1 + q2) + q3)), .second, .val (.int 1), .val (.int 1), .val (.int 1), .val (.long (q1 <<< ((1 : Int32) &&& 0x3f).toInt64)), .second, .val (.long ((q1 + q2) <<< ((1 : Int32) &&& 0x3f).toInt64)), .second, .val (.long (((q1 + q2) + q3) <<< ((1 : Int32) &&& 0x3f).toInt64)), .second] [(.int 1)])) _
          exact retN X1631 hx (t := .boolean) hret (by simp) (hb hby at_249) hr
        ·
          show Q0 n0 _ T1631.heap _
          rw [e1633]
          exact ⟨rfl, N1631⟩
      ·
        obtain ⟨T1634, h1634, X1634, e1634, E1634, A1634, D1634, -, st1634⟩ := newO X0 hx hZ hown (own_w hw 0 rfl) (own_w hw 1 rfl) (own_w hw 2 rfl) e0 (g := (mkF m 42 #[.val (.long q1), .second, .val (.long q2), .second, .val (.long q3), .second, .val (.int p4), .val (.int 1), .val (.int 1), .val (.int 1), .unset, .unset, .unset, .unset, .unset, .unset, .unset, .unset, .unset, .unset, .unset, .unset, .unset, .unset, .unset, .unset, .unset, .unset, .unset, .unset, .unset, .unset, .unset, .unset] [])) rfl (hb hby at_42) (by decide) (by decide)
        obtain ⟨b1634, g1634⟩ : ∃ z, z = h0.size := ⟨_, rfl⟩
        rw [← g1634] at A1634 D1634 st1634
        have M1634 : h0.size ≤ h1634.size := Nat.le_trans (Nat.le_refl _) E1634.1
        have O1634 := Old.ext O0 E1634
        have sz_b1634 : h0.size ≤ b1634 := Nat.le_of_eq g1634.symm
        have g_b1634 : n0 ≤ b1634 := Nat.le_trans (own_oz O0) (Nat.le_trans (Nat.le_refl _) sz_b1634)
        have F1634_21 : Fld Z h1634 b1634 "com/example/mycelia/mycelia/wire/MessageTree" "elements" "Lcom/example/mycelia/mycelia/wire/MessageTree$IntRecords;" .null := D1634 (Or.inr (own_w hw 21 rfl)) (ty := (.object "com/example/mycelia/mycelia/wire/MessageTree$IntRecords")) (by decide)
        have F1634_23 : Fld Z h1634 b1634 "com/example/mycelia/mycelia/wire/MessageTree" "attributes" "Lcom/example/mycelia/mycelia/wire/MessageTree$IntRecords;" .null := D1634 (Or.inr (own_w hw 23 rfl)) (ty := (.object "com/example/mycelia/mycelia/wire/MessageTree$IntRecords")) (by decide)
        have F1634_45 : Fld Z h1634 b1634 "com/example/mycelia/mycelia/wire/MessageTree" "text" "Ljava/lang/StringBuilder;" .null := D1634 (Or.inr (own_w hw 45 rfl)) (ty := (.object "java/lang/StringBuilder")) (by decide)
        have F1634_47 : Fld Z h1634 b1634 "com/example/mycelia/mycelia/wire/MessageTree" "values" "Ljava/lang/StringBuilder;" .null := D1634 (Or.inr (own_w hw 47 rfl)) (ty := (.object "java/lang/StringBuilder")) (by decide)
        have F1634_73 : Fld Z h1634 b1634 "com/example/mycelia/mycelia/wire/MessageTree" "names" "Ljava/util/List;" .null := D1634 (Or.inr (own_w hw 73 rfl)) (ty := (.object "java/util/List")) (by decide)
        have F1634_91 : Fld Z h1634 b1634 "com/example/mycelia/mycelia/wire/MessageTree" "codes" "Ljava/util/Map;" .null := D1634 (Or.inr (own_w hw 91 rfl)) (ty := (.object "java/util/Map")) (by decide)
        have F1634_105 : Fld Z h1634 b1634 "com/example/mycelia/mycelia/wire/MessageTree" "open" "I" (.int 0) := D1634 (Or.inl (own_w hw 105 rfl)) (ty := .int) (by decide)
        have F1634_127 : Fld Z h1634 b1634 "com/example/mycelia/mycelia/wire/MessageTree" "wideText" "Z" (.int 0) := D1634 (Or.inl (own_w hw 127 rfl)) (ty := .boolean) (by decide)
        have F1634_129 : Fld Z h1634 b1634 "com/example/mycelia/mycelia/wire/MessageTree" "wideValues" "Z" (.int 0) := D1634 (Or.inl (own_w hw 129 rfl)) (ty := .boolean) (by decide)
        have F1634_131 : Fld Z h1634 b1634 "com/example/mycelia/mycelia/wire/MessageTree" "passed" "J" (.long 0) := D1634 (Or.inl (own_w hw 131 rfl)) (ty := .long) (by decide)
        have F1634_133 : Fld Z h1634 b1634 "com/example/mycelia/mycelia/wire/MessageTree" "widePassed" "Z" (.int 0) := D1634 (Or.inl (own_w hw 133 rfl)) (ty := .boolean) (by decide)
        have F1634_148 : Fld Z h1634 b1634 "com/example/mycelia/mycelia/wire/MessageTree" "deepest" "I" (.int 0) := D1634 (Or.inl (own_w hw 148 rfl)) (ty := .int) (by decide)
        obtain ⟨_, T1635, L1635, X1635, hQ1635, st1635⟩ := own_sb X1634 hx hZ hown (y := yn9) (own_w hw 3 rfl) (own_w hw 4 rfl) (own_w hw 5 rfl) (own_w hw 2 rfl) e1634 (a := b1634) (argsL := []) (rest := [(.ref b1634)]) (rm10 l Z a0 hw w1 w2 kw1 kw2 gi1 G [] b1634 h1634 n0 O1634 g_b1634 A1634 F1634_23 F1634_91 F1634_148 F1634_21 F1634_73 F1634_105 F1634_131 F1634_45 F1634_47 F1634_133 F1634_127 F1634_129) (g := (mkF m 46 #[.val (.long q1), .second, .val (.long q2), .second, .val (.long q3), .second, .val (.int p4), .val (.int 1), .val (.int 1), .val (.int 1), .unset, .unset, .unset, .unset, .unset, .unset, .unset, .unset, .unset, .unset, .unset, .unset, .unset, .unset, .unset, .unset, .unset, .unset, .unset, .unset, .unset, .unset, .unset, .unset] [(.ref b1634), (.ref b1634)])) rfl (by rw [hml]; rfl) rfl (hb hby at_46) (lenOf pd0 rfl) (W := 1) (c1 := 12) (s1 := 136)
        obtain ⟨b1636, b1637, b1638, b1639, b1640, b1641, b1642, b1643, b1644, b1645, b1646, k1647, k1648, k1649, k1650, k1651, rfl, Nq1652, K1653, sz_b1636, sz_b1637, sz_b1638, sz_b1639, sz_b1640, sz_b1641, sz_b1642, sz_b1643, sz_b1644, sz_b1645, sz_b1646, ne1654, ne1655, ne1656, ne1657, ne1658, ne1659, ne1660, ne1661, ne1662, ne1663, ne1664, ne1665, ne1666, ne1667, ne1668, ne1669, ne1670, ne1671, ne1672, ne1673, ne1674, ne1675, ne1676, ne1677, ne1678, ne1679, ne1680, ne1681, ne1682, ne1683, ne1684, ne1685, ne1686, ne1687, ne1688, ne1689, ne1690, ne1691, ne1692, ne1693, ne1694, ne1695, ne1696, ne1697, ne1698, ne1699, ne1700, ne1701, ne1702, ne1703, ne1704, ne1705, ne1706, ne1707, ne1708, OV1709, OV1710, f1711, f1712, f1713, f1714, f1715, f1716, f1717, f1718, f1719, f1720, f1721, f1722, f1723, f1724, f1725, f1726, f1727, f1728, f1729, f1730, f1731, f1732, f1733, f1734, f1735, f1736, f1737, f1738, f1739, f1740, f1741, f1742, f1743, f1744, f1745, f1746, f1747, f1748, f1749, f1750, f1751, f1752, f1753⟩ := hQ1635
        have N1635 := Fr.app N0 Nq1652
        have g_b1636 : n0 ≤ b1636 := Nat.le_trans (own_oz O1634) sz_b1636
        have g_b1637 : n0 ≤ b1637 := Nat.le_trans (own_oz O1634) sz_b1637
        have g_b1638 : n0 ≤ b1638 := Nat.le_trans (own_oz O1634) sz_b1638
        have g_b1639 : n0 ≤ b1639 := Nat.le_trans (own_oz O1634) sz_b1639
        have g_b1640 : n0 ≤ b1640 := Nat.le_trans (own_oz O1634) sz_b1640
        have g_b1641 : n0 ≤ b1641 := Nat.le_trans (own_oz O1634) sz_b1641
        have g_b1642 : n0 ≤ b1642 := Nat.le_trans (own_oz O1634) sz_b1642
        have g_b1643 : n0 ≤ b1643 := Nat.le_trans (own_oz O1634) sz_b1643
        have g_b1644 : n0 ≤ b1644 := Nat.le_trans (own_oz O1634) sz_b1644
        have g_b1645 : n0 ≤ b1645 := Nat.le_trans (own_oz O1634) sz_b1645
        have g_b1646 : n0 ≤ b1646 := Nat.le_trans (own_oz O1634) sz_b1646
        have M1635 : h0.size ≤ T1635.heap.size := Nat.le_trans M1634 K1653.1
        have O1635 := Old.keep O1634 K1653 (allS g_b1634 all0)
        obtain ⟨_, T1754, L1754, X1754, hQ1754, st1754⟩ := own_vb X1635 hx hZ hown (y := yn15) (own_w hw 106 rfl) (own_w hw 107 rfl) (own_w hw 109 rfl) (own_w hw 108 rfl) (own_w hw 110 rfl) (own_w hw 2 rfl) rfl f1711 (argsL := []) (rest := []) (rm16 l Z a0 hw [] b1634 b1636 b1637 b1638 b1639 b1640 b1641 b1642 b1643 b1644 b1645 b1646 k1647 k1648 k1649 k1650 T1635.heap n0 O1635 g_b1634 g_b1636 g_b1637 g_b1638 g_b1639 g_b1640 g_b1641 g_b1642 g_b1643 g_b1644 g_b1645 g_b1646 OV1709 OV1710 f1712 f1714 f1715 f1716 f1718 f1719 f1720 f1721 f1722 f1723 f1724 f1726 f1730 f1732 f1734 f1737 f1738 f1739 f1740 f1741 f1742 f1743 f1748 f1750) (g := (mkF m 53 #[.val (.long q1), .second, .val (.long q2), .second, .val (.long q3), .second, .val (.int p4), .val (.int 1), .val (.int 1), .val (.int 1), .val (.ref b1634), .unset, .unset, .unset, .unset, .unset, .unset, .unset, .unset, .unset, .unset, .unset, .unset, .unset, .unset, .unset, .unset, .unset, .unset, .unset, .unset, .unset, .unset, .unset] [(.ref b1634)])) rfl (by rw [hml]; rfl) rfl (hb hby at_53) (lenOf pd3 rfl) (W := 0) (c1 := 12) (s1 := 136)
        obtain ⟨rfl, Nq1755, e1756⟩ := hQ1754
        have N1754 := Fr.app N1635 Nq1755
        obtain ⟨_, T1757, L1757, X1757, hQ1757, st1757⟩ := own_vb X1754 hx hZ hown (y := yn16) (own_w hw 149 rfl) (own_w hw 150 rfl) (own_w hw 152 rfl) (own_w hw 151 rfl) (own_w hw 153 rfl) (own_w hw 2 rfl) e1756 f1711 (argsL := [(.long q1), (.int 1)]) (rest := []) (rm24 l Z a0 hw [] b1634 b1636 b1637 b1638 b1639 b1640 b1641 b1642 b1643 b1644 b1645 b1646 k1647 k1648 q1 T1635.heap n0 O1635 g_b1634 g_b1636 g_b1637 g_b1638 g_b1639 g_b1640 g_b1641 g_b1642 g_b1643 g_b1644 g_b1645 g_b1646 OV1709 OV1710 f1711 f1712 f1713 f1714 f1715 f1716 f1717 f1718 f1719 f1720 f1721 f1722 f1723) (g := (mkF m 63 #[.val (.long q1), .second, .val (.long q2), .second, .val (.long q3), .second, .val (.int p4), .val (.int 1), .val (.int 1), .val (.int 1), .val (.ref b1634), .val (.long 288), .second, .unset, .unset, .unset, .unset, .unset, .unset, .unset, .unset, .unset, .unset, .unset, .unset, .unset, .unset, .unset, .unset, .unset, .unset, .unset, .unset, .unset] [(.int 1), (.long q1), (.ref b1634)])) rfl (by rw [hml]; rfl) rfl (hb hby at_63) (lenOf pd5 rfl) (W := 0) (c1 := 12) (s1 := 136)
        obtain ⟨rfl, Nq1758, K1759, f1760, f1761, f1762, f1763, f1764, f1765, f1766, f1767, f1768, f1769, f1770, f1771, f1772⟩ := hQ1757
        have N1757 := Fr.app N1754 Nq1758
        have M1757 : h0.size ≤ T1757.heap.size := Nat.le_trans M1635 K1759.1
        have O1757 := Old.keep O1635 K1759 (allS g_b1634 all0)
        have f1773 := (f1724.keep K1759)
        have lt1774 : b1634 < h1634.size := A1634.lt
        have ne1775 : b1634 ≠ b1636 := Nat.ne_of_lt (Nat.lt_of_lt_of_le lt1774 sz_b1636)
        have f1776 := (f1726.keep K1759 (ninS (Ne.symm ne1775) nin0))
        have f1777 := (f1730.keep K1759)
        have ne1778 : b1634 ≠ b1638 := Nat.ne_of_lt (Nat.lt_of_lt_of_le lt1774 sz_b1638)
        have f1779 := (f1732.keep K1759 (ninS (Ne.symm ne1778) nin0))
        have f1780 := (f1734.keep K1759)
        have ne1781 : b1634 ≠ b1639 := Nat.ne_of_lt (Nat.lt_of_lt_of_le lt1774 sz_b1639)
        have f1782 := (f1737.keep K1759 (ninS (Ne.symm ne1781) nin0))
        have f1783 := (f1738.keep K1759)
        have ne1784 : b1634 ≠ b1640 := Nat.ne_of_lt (Nat.lt_of_lt_of_le lt1774 sz_b1640)
        have f1785 := (f1739.keep K1759 (ninS (Ne.symm ne1784) nin0))
        have f1786 := (f1740.keep K1759 (ninS (Ne.symm ne1784) nin0))
        have f1787 := (f1741.keep K1759)
        have ne1788 : b1634 ≠ b1641 := Nat.ne_of_lt (Nat.lt_of_lt_of_le lt1774 sz_b1641)
        have f1789 := (f1742.keep K1759 (ninS (Ne.symm ne1788) nin0))
        have f1790 := (f1743.keep K1759 (ninS (Ne.symm ne1788) nin0))
        have ne1791 : b1634 ≠ b1644 := Nat.ne_of_lt (Nat.lt_of_lt_of_le lt1774 sz_b1644)
        have f1792 := (f1748.keep K1759 (ninS (Ne.symm ne1791) nin0))
        have ne1793 : b1634 ≠ b1645 := Nat.ne_of_lt (Nat.lt_of_lt_of_le lt1774 sz_b1645)
        have f1794 := (f1750.keep K1759 (ninS (Ne.symm ne1793) nin0))
        obtain ⟨_, T1795, L1795, X1795, hQ1795, st1795⟩ := own_vb X1757 hx hZ hown (y := yn15) (own_w hw 106 rfl) (own_w hw 107 rfl) (own_w hw 109 rfl) (own_w hw 108 rfl) (own_w hw 110 rfl) (own_w hw 2 rfl) rfl f1760 (argsL := []) (rest := []) (rm21 l Z a0 hw [] b1634 b1636 b1637 b1638 b1639 b1640 b1641 b1642 b1643 b1644 b1645 b1646 k1647 k1648 (((0 : Int64) + q1)) k1649 k1650 T1757.heap n0 O1757 g_b1634 g_b1636 g_b1637 g_b1638 g_b1639 g_b1640 g_b1641 g_b1642 g_b1643 g_b1644 g_b1645 g_b1646 OV1709 OV1710 f1761 f1763 f1764 f1765 f1767 f1768 f1769 f1770 f1771 f1772 f1773 f1776 f1777 f1779 f1780 f1782 f1783 f1785 f1786 f1787 f1789 f1790 f1792 f1794) (g := (mkF m 68 #[.val (.long q1), .second, .val (.long q2), .second, .val (.long q3), .second, .val (.int p4), .val (.int 1), .val (.int 1), .val (.int 1), .val (.ref b1634), .val (.long 288), .second, .unset, .unset, .unset, .unset, .unset, .unset, .unset, .unset, .unset, .unset, .unset, .unset, .unset, .unset, .unset, .unset, .unset, .unset, .unset, .unset, .unset] [(.ref b1634)])) rfl (by rw [hml]; rfl) rfl (hb hby at_68) (lenOf pd3 rfl) (W := 0) (c1 := 12) (s1 := 136)
        obtain ⟨rfl, Nq1796, e1797⟩ := hQ1795
        have N1795 := Fr.app N1757 Nq1796
        obtain ⟨_, T1798, L1798, X1798, hQ1798, st1798⟩ := own_vb X1795 hx hZ hown (y := yn16) (own_w hw 149 rfl) (own_w hw 150 rfl) (own_w hw 152 rfl) (own_w hw 151 rfl) (own_w hw 153 rfl) (own_w hw 2 rfl) e1797 f1760 (argsL := [(.long q2), (.int 1)]) (rest := []) (rm23 l Z a0 hw [] b1634 b1636 b1637 b1638 b1639 b1640 b1641 b1642 b1643 b1644 b1645 b1646 k1647 k1648 (((0 : Int64) + q1)) q2 T1757.heap n0 O1757 g_b1634 g_b1636 g_b1637 g_b1638 g_b1639 g_b1640 g_b1641 g_b1642 g_b1643 g_b1644 g_b1645 g_b1646 OV1709 OV1710 f1760 f1761 f1762 f1763 f1764 f1765 f1766 f1767 f1768 f1769 f1770 f1771 f1772) (g := (mkF m 78 #[.val (.long q1), .second, .val (.long q2), .second, .val (.long q3), .second, .val (.int p4), .val (.int 1), .val (.int 1), .val (.int 1), .val (.ref b1634), .val (.long 288), .second, .val (.long ((((288 : Int64) + (((0 : Int64) + q1) <<< ((1 : Int32) &&& 0x3f).toInt64)) + (0 : Int64)) + (0 : Int64))), .second, .unset, .unset, .unset, .unset, .unset, .unset, .unset, .unset, .unset, .unset, .unset, .unset, .unset, .unset, .unset, .unset, .unset, .unset, .unset] [(.int 1), (.long q2), (.ref b1634)])) rfl (by rw [hml]; rfl) rfl (hb hby at_78) (lenOf pd5 rfl) (W := 0) (c1 := 12) (s1 := 136)
        obtain ⟨rfl, Nq1799, K1800, f1801, f1802, f1803, f1804, f1805, f1806, f1807, f1808, f1809, f1810, f1811, f1812, f1813⟩ := hQ1798
        have N1798 := Fr.app N1795 Nq1799
        have M1798 : h0.size ≤ T1798.heap.size := Nat.le_trans M1757 K1800.1
        have O1798 := Old.keep O1757 K1800 (allS g_b1634 all0)
        have f1814 := (f1773.keep K1800)
        have f1815 := (f1776.keep K1800 (ninS (Ne.symm ne1775) nin0))
        have f1816 := (f1777.keep K1800)
        have f1817 := (f1779.keep K1800 (ninS (Ne.symm ne1778) nin0))
        have f1818 := (f1780.keep K1800)
        have f1819 := (f1782.keep K1800 (ninS (Ne.symm ne1781) nin0))
        have f1820 := (f1783.keep K1800)
        have f1821 := (f1785.keep K1800 (ninS (Ne.symm ne1784) nin0))
        have f1822 := (f1786.keep K1800 (ninS (Ne.symm ne1784) nin0))
        have f1823 := (f1787.keep K1800)
        have f1824 := (f1789.keep K1800 (ninS (Ne.symm ne1788) nin0))
        have f1825 := (f1790.keep K1800 (ninS (Ne.symm ne1788) nin0))
        have f1826 := (f1792.keep K1800 (ninS (Ne.symm ne1791) nin0))
        have f1827 := (f1794.keep K1800 (ninS (Ne.symm ne1793) nin0))
        obtain ⟨_, T1828, L1828, X1828, hQ1828, st1828⟩ := own_vb X1798 hx hZ hown (y := yn15) (own_w hw 106 rfl) (own_w hw 107 rfl) (own_w hw 109 rfl) (own_w hw 108 rfl) (own_w hw 110 rfl) (own_w hw 2 rfl) rfl f1801 (argsL := []) (rest := []) (rm21 l Z a0 hw [] b1634 b1636 b1637 b1638 b1639 b1640 b1641 b1642 b1643 b1644 b1645 b1646 k1647 k1648 ((((0 : Int64) + q1) + q2)) k1649 k1650 T1798.heap n0 O1798 g_b1634 g_b1636 g_b1637 g_b1638 g_b1639 g_b1640 g_b1641 g_b1642 g_b1643 g_b1644 g_b1645 g_b1646 OV1709 OV1710 f1802 f1804 f1805 f1806 f1808 f1809 f1810 f1811 f1812 f1813 f1814 f1815 f1816 f1817 f1818 f1819 f1820 f1821 f1822 f1823 f1824 f1825 f1826 f1827) (g := (mkF m 83 #[.val (.long q1), .second, .val (.long q2), .second, .val (.long q3), .second, .val (.int p4), .val (.int 1), .val (.int 1), .val (.int 1), .val (.ref b1634), .val (.long 288), .second, .val (.long ((((288 : Int64) + (((0 : Int64) + q1) <<< ((1 : Int32) &&& 0x3f).toInt64)) + (0 : Int64)) + (0 : Int64))), .second, .unset, .unset, .unset, .unset, .unset, .unset, .unset, .unset, .unset, .unset, .unset, .unset, .unset, .unset, .unset, .unset, .unset, .unset, .unset] [(.ref b1634)])) rfl (by rw [hml]; rfl) rfl (hb hby at_83) (lenOf pd3 rfl) (W := 0) (c1 := 12) (s1 := 136)
        obtain ⟨rfl, Nq1829, e1830⟩ := hQ1828
        have N1828 := Fr.app N1798 Nq1829
        obtain ⟨_, T1831, L1831, X1831, hQ1831, st1831⟩ := own_vb X1828 hx hZ hown (y := yn16) (own_w hw 149 rfl) (own_w hw 150 rfl) (own_w hw 152 rfl) (own_w hw 151 rfl) (own_w hw 153 rfl) (own_w hw 2 rfl) e1830 f1801 (argsL := [(.long q3), (.int 1)]) (rest := []) (rm23 l Z a0 hw [] b1634 b1636 b1637 b1638 b1639 b1640 b1641 b1642 b1643 b1644 b1645 b1646 k1647 k1648 ((((0 : Int64) + q1) + q2)) q3 T1798.heap n0 O1798 g_b1634 g_b1636 g_b1637 g_b1638 g_b1639 g_b1640 g_b1641 g_b1642 g_b1643 g_b1644 g_b1645 g_b1646 OV1709 OV1710 f1801 f1802 f1803 f1804 f1805 f1806 f1807 f1808 f1809 f1810 f1811 f1812 f1813) (g := (mkF m 94 #[.val (.long q1), .second, .val (.long q2), .second, .val (.long q3), .second, .val (.int p4), .val (.int 1), .val (.int 1), .val (.int 1), .val (.ref b1634), .val (.long 288), .second, .val (.long ((((288 : Int64) + (((0 : Int64) + q1) <<< ((1 : Int32) &&& 0x3f).toInt64)) + (0 : Int64)) + (0 : Int64))), .second, .val (.long ((((288 : Int64) + ((((0 : Int64) + q1) + q2) <<< ((1 : Int32) &&& 0x3f).toInt64)) + (0 : Int64)) + (0 : Int64))), .second, .unset, .unset, .unset, .unset, .unset, .unset, .unset, .unset, .unset, .unset, .unset, .unset, .unset, .unset, .unset, .unset, .unset] [(.int 1), (.long q3), (.ref b1634)])) rfl (by rw [hml]; rfl) rfl (hb hby at_94) (lenOf pd5 rfl) (W := 0) (c1 := 12) (s1 := 136)
        obtain ⟨rfl, Nq1832, K1833, f1834, f1835, f1836, f1837, f1838, f1839, f1840, f1841, f1842, f1843, f1844, f1845, f1846⟩ := hQ1831
        have N1831 := Fr.app N1828 Nq1832
        have M1831 : h0.size ≤ T1831.heap.size := Nat.le_trans M1798 K1833.1
        have O1831 := Old.keep O1798 K1833 (allS g_b1634 all0)
        have f1847 := (f1814.keep K1833)
        have f1848 := (f1815.keep K1833 (ninS (Ne.symm ne1775) nin0))
        have f1849 := (f1816.keep K1833)
        have f1850 := (f1817.keep K1833 (ninS (Ne.symm ne1778) nin0))
        have f1851 := (f1818.keep K1833)
        have f1852 := (f1819.keep K1833 (ninS (Ne.symm ne1781) nin0))
        have f1853 := (f1820.keep K1833)
        have f1854 := (f1821.keep K1833 (ninS (Ne.symm ne1784) nin0))
        have f1855 := (f1822.keep K1833 (ninS (Ne.symm ne1784) nin0))
        have f1856 := (f1823.keep K1833)
        have f1857 := (f1824.keep K1833 (ninS (Ne.symm ne1788) nin0))
        have f1858 := (f1825.keep K1833 (ninS (Ne.symm ne1788) nin0))
        have f1859 := (f1826.keep K1833 (ninS (Ne.symm ne1791) nin0))
        have f1860 := (f1827.keep K1833 (ninS (Ne.symm ne1793) nin0))
        obtain ⟨_, T1861, L1861, X1861, hQ1861, st1861⟩ := own_vb X1831 hx hZ hown (y := yn15) (own_w hw 106 rfl) (own_w hw 107 rfl) (own_w hw 109 rfl) (own_w hw 108 rfl) (own_w hw 110 rfl) (own_w hw 2 rfl) rfl f1834 (argsL := []) (rest := []) (rm21 l Z a0 hw [] b1634 b1636 b1637 b1638 b1639 b1640 b1641 b1642 b1643 b1644 b1645 b1646 k1647 k1648 (((((0 : Int64) + q1) + q2) + q3)) k1649 k1650 T1831.heap n0 O1831 g_b1634 g_b1636 g_b1637 g_b1638 g_b1639 g_b1640 g_b1641 g_b1642 g_b1643 g_b1644 g_b1645 g_b1646 OV1709 OV1710 f1835 f1837 f1838 f1839 f1841 f1842 f1843 f1844 f1845 f1846 f1847 f1848 f1849 f1850 f1851 f1852 f1853 f1854 f1855 f1856 f1857 f1858 f1859 f1860) (g := (mkF m 99 #[.val (.long q1), .second, .val (.long q2), .second, .val (.long q3), .second, .val (.int p4), .val (.int 1), .val (.int 1), .val (.int 1), .val (.ref b1634), .val (.long 288), .second, .val (.long ((((288 : Int64) + (((0 : Int64) + q1) <<< ((1 : Int32) &&& 0x3f).toInt64)) + (0 : Int64)) + (0 : Int64))), .second, .val (.long ((((288 : Int64) + ((((0 : Int64) + q1) + q2) <<< ((1 : Int32) &&& 0x3f).toInt64)) + (0 : Int64)) + (0 : Int64))), .second, .unset, .unset, .unset, .unset, .unset, .unset, .unset, .unset, .unset, .unset, .unset, .unset, .unset, .unset, .unset, .unset, .unset] [(.ref b1634)])) rfl (by rw [hml]; rfl) rfl (hb hby at_99) (lenOf pd3 rfl) (W := 0) (c1 := 12) (s1 := 136)
        obtain ⟨rfl, Nq1862, e1863⟩ := hQ1861
        have N1861 := Fr.app N1831 Nq1862
        obtain ⟨fs, hr, hrun, hended, hW, hsame⟩ := X1861.leave (v := some (.int 1)) (fun h => by rw [hret] at h; cases h)
        refine ⟨_, _, pre1401 _ ?_, hrun, hended, _, _, rfl, ?_, ⟨_, rfl⟩, hW, hsame.mono (by decide) (by decide)⟩
        ·
          show Steps p.tables e below (s₁.setTop (mkF m 32 #[.val (.long q1), .second, .val (.long q2), .second, .val (.long q3), .second, .val (.int p4), .val (.int 1), .val (.int 1), .unset, .unset, .unset, .unset, .unset, .unset, .unset, .unset, .unset, .unset, .unset, .unset, .unset, .unset, .unset, .unset, .unset, .unset, .unset, .unset, .unset, .unset, .unset, .unset, .unset] [(.int (p4 &&& (4 : Int32)))])) _
          refine XS.ifNo X0.here hx rfl (hb hby at_32) rfl ((if0 _ _).trans (feq hc1402).1) ?_
          refine XS.iconst X0.here hx rfl (hb hby at_35) ?_
          refine XS.goto X0.here hx rfl (pc0 := 36) (pc' := 40) rfl (hb hby at_36) (by decide) (by decide) ?_
          refine XS.istore X0.here hx rfl (hb hby at_40) rfl (l' := #[.val (.long q1), .second, .val (.long q2), .second, .val (.long q3), .second, .val (.int p4), .val (.int 1), .val (.int 1), .val (.int 1), .unset, .unset, .unset, .unset, .unset, .unset, .unset, .unset, .unset, .unset, .unset, .unset, .unset, .unset, .unset, .unset, .unset, .unset, .unset, .unset, .unset, .unset, .unset, .unset]) rfl ?_
          refine st1634 _ ?_
          refine XS.dup X1634.here hx rfl (hb hby at_45) rfl rfl ?_
          refine st1635 _ ?_
          refine XS.astore X1635.here hx rfl (hb hby at_49) rfl rfl (l' := #[.val (.long q1), .second, .val (.long q2), .second, .val (.long q3), .second, .val (.int p4), .val (.int 1), .val (.int 1), .val (.int 1), .val (.ref b1634), .unset, .unset, .unset, .unset, .unset, .unset, .unset, .unset, .unset, .unset, .unset, .unset, .unset, .unset, .unset, .unset, .unset, .unset, .unset, .unset, .unset, .unset, .unset]) rfl ?_
          refine XS.aload X1635.here hx rfl (hb hby at_51) rfl rfl ?_
          refine st1754 _ ?_
          refine XS.lstore X1754.here hx rfl (hb hby at_56) rfl (l' := #[.val (.long q1), .second, .val (.long q2), .second, .val (.long q3), .second, .val (.int p4), .val (.int 1), .val (.int 1), .val (.int 1), .val (.ref b1634), .val (.long 288), .second, .unset, .unset, .unset, .unset, .unset, .unset, .unset, .unset, .unset, .unset, .unset, .unset, .unset, .unset, .unset, .unset, .unset, .unset, .unset, .unset, .unset]) rfl ?_
          refine XS.aload X1754.here hx rfl (hb hby at_58) rfl rfl ?_
          refine XS.lloadN X1754.here hx rfl (hb hby at_60) rfl ?_
          refine XS.iload X1754.here hx rfl (hb hby at_61) rfl ?_
          refine st1757 _ ?_
          refine XS.aload X1757.here hx rfl (hb hby at_66) rfl rfl ?_
          refine st1795 _ ?_
          refine XS.lstore X1795.here hx rfl (hb hby at_71) rfl (l' := #[.val (.long q1), .second, .val (.long q2), .second, .val (.long q3), .second, .val (.int p4), .val (.int 1), .val (.int 1), .val (.int 1), .val (.ref b1634), .val (.long 288), .second, .val (.long ((((288 : Int64) + (((0 : Int64) + q1) <<< ((1 : Int32) &&& 0x3f).toInt64)) + (0 : Int64)) + (0 : Int64))), .second, .unset, .unset, .unset, .unset, .unset, .unset, .unset, .unset, .unset, .unset, .unset, .unset, .unset, .unset, .unset, .unset, .unset, .unset, .unset]) rfl ?_
          refine XS.aload X1795.here hx rfl (hb hby at_73) rfl rfl ?_
          refine XS.lloadN X1795.here hx rfl (hb hby at_75) rfl ?_
          refine XS.iload X1795.here hx rfl (hb hby at_76) rfl ?_
          refine st1798 _ ?_
          refine XS.aload X1798.here hx rfl (hb hby at_81) rfl rfl ?_
          show Steps p.tables e below (T1798.setTop (mkF m 83 #[.val (.long q1), .second, .val (.long q2), .second, .val (.long q3), .second, .val (.int p4), .val (.int 1), .val (.int 1), .val (.int 1), .val (.ref b1634), .val (.long 288), .second, .val (.long ((((288 : Int64) + (((0 : Int64) + q1) <<< ((1 : Int32) &&& 0x3f).toInt64)) + (0 : Int64)) + (0 : Int64))), .second, .unset, .unset, .unset, .unset, .unset, .unset, .unset, .unset, .unset, .unset, .unset, .unset, .unset, .unset, .unset, .unset, .unset, .unset, .unset] [(.ref b1634)])) _
          refine st1828 _ ?_
          refine XS.lstore X1828.here hx rfl (hb hby at_86) rfl (l' := #[.val (.long q1), .second, .val (.long q2), .second, .val (.long q3), .second, .val (.int p4), .val (.int 1), .val (.int 1), .val (.int 1), .val (.ref b1634), .val (.long 288), .second, .val (.long ((((288 : Int64) + (((0 : Int64) + q1) <<< ((1 : Int32) &&& 0x3f).toInt64)) + (0 : Int64)) + (0 : Int64))), .second, .val (.long ((((288 : Int64) + ((((0 : Int64) + q1) + q2) <<< ((1 : Int32) &&& 0x3f).toInt64)) + (0 : Int64)) + (0 : Int64))), .second, .unset, .unset, .unset, .unset, .unset, .unset, .unset, .unset, .unset, .unset, .unset, .unset, .unset, .unset, .unset, .unset, .unset]) rfl ?_
          refine XS.aload X1828.here hx rfl (hb hby at_88) rfl rfl ?_
          refine XS.lload X1828.here hx rfl (hb hby at_90) rfl ?_
          refine XS.iload X1828.here hx rfl (hb hby at_92) rfl ?_
          refine st1831 _ ?_
          refine XS.aload X1831.here hx rfl (hb hby at_97) rfl rfl ?_
          refine st1861 _ ?_
          refine XS.lstore X1861.here hx rfl (hb hby at_102) rfl (l' := #[.val (.long q1), .second, .val (.long q2), .second, .val (.long q3), .second, .val (.int p4), .val (.int 1), .val (.int 1), .val (.int 1), .val (.ref b1634), .val (.long 288), .second, .val (.long ((((288 : Int64) + (((0 : Int64) + q1) <<< ((1 : Int32) &&& 0x3f).toInt64)) + (0 : Int64)) + (0 : Int64))), .second, .val (.long ((((288 : Int64) + ((((0 : Int64) + q1) + q2) <<< ((1 : Int32) &&& 0x3f).toInt64)) + (0 : Int64)) + (0 : Int64))), .second, .val (.long ((((288 : Int64) + (((((0 : Int64) + q1) + q2) + q3) <<< ((1 : Int32) &&& 0x3f).toInt64)) + (0 : Int64)) + (0 : Int64))), .second, .unset, .unset, .unset, .unset, .unset, .unset, .unset, .unset, .unset, .unset, .unset, .unset, .unset, .unset, .unset]) rfl ?_
          refine XS.lloadN X1861.here hx rfl (hb hby at_104) rfl ?_
          refine XS.lstore X1861.here hx rfl (hb hby at_105) rfl (l' := #[.val (.long q1), .second, .val (.long q2), .second, .val (.long q3), .second, .val (.int p4), .val (.int 1), .val (.int 1), .val (.int 1), .val (.ref b1634), .val (.long 288), .second, .val (.long ((((288 : Int64) + (((0 : Int64) + q1) <<< ((1 : Int32) &&& 0x3f).toInt64)) + (0 : Int64)) + (0 : Int64))), .second, .val (.long ((((288 : Int64) + ((((0 : Int64) + q1) + q2) <<< ((1 : Int32) &&& 0x3f).toInt64)) + (0 : Int64)) + (0 : Int64))), .second, .val (.long ((((288 : Int64) + (((((0 : Int64) + q1) + q2) + q3) <<< ((1 : Int32) &&& 0x3f).toInt64)) + (0 : Int64)) + (0 : Int64))), .second, .val (.long q1), .second, .unset, .unset, .unset, .unset, .unset, .unset, .unset, .unset, .unset, .unset, .unset, .unset, .unset]) rfl ?_
          refine XS.lloadN X1861.here hx rfl (hb hby at_107) rfl ?_
          refine XS.lloadN X1861.here hx rfl (hb hby at_108) rfl ?_
          refine XS.ladd X1861.here hx rfl (hb hby at_109) rfl ?_
          refine XS.lstore X1861.here hx rfl (hb hby at_110) rfl (l' := #[.val (.long q1), .second, .val (.long q2), .second, .val (.long q3), .second, .val (.int p4), .val (.int 1), .val (.int 1), .val (.int 1), .val (.ref b1634), .val (.long 288), .second, .val (.long ((((288 : Int64) + (((0 : Int64) + q1) <<< ((1 : Int32) &&& 0x3f).toInt64)) + (0 : Int64)) + (0 : Int64))), .second, .val (.long ((((288 : Int64) + ((((0 : Int64) + q1) + q2) <<< ((1 : Int32) &&& 0x3f).toInt64)) + (0 : Int64)) + (0 : Int64))), .second, .val (.long ((((288 : Int64) + (((((0 : Int64) + q1) + q2) + q3) <<< ((1 : Int32) &&& 0x3f).toInt64)) + (0 : Int64)) + (0 : Int64))), .second, .val (.long q1), .second, .val (.long (q1 + q2)), .second, .unset, .unset, .unset, .unset, .unset, .unset, .unset, .unset, .unset, .unset, .unset]) rfl ?_
          refine XS.lloadN X1861.here hx rfl (hb hby at_112) rfl ?_
          refine XS.lloadN X1861.here hx rfl (hb hby at_113) rfl ?_
          refine XS.ladd X1861.here hx rfl (hb hby at_114) rfl ?_
          refine XS.lload X1861.here hx rfl (hb hby at_115) rfl ?_
          refine XS.ladd X1861.here hx rfl (hb hby at_117) rfl ?_
          refine XS.lstore X1861.here hx rfl (hb hby at_118) rfl (l' := #[.val (.long q1), .second, .val (.long q2), .second, .val (.long q3), .second, .val (.int p4), .val (.int 1), .val (.int 1), .val (.int 1), .val (.ref b1634), .val (.long 288), .second, .val (.long ((((288 : Int64) + (((0 : Int64) + q1) <<< ((1 : Int32) &&& 0x3f).toInt64)) + (0 : Int64)) + (0 : Int64))), .second, .val (.long ((((288 : Int64) + ((((0 : Int64) + q1) + q2) <<< ((1 : Int32) &&& 0x3f).toInt64)) + (0 : Int64)) + (0 : Int64))), .second, .val (.long ((((288 : Int64) + (((((0 : Int64) + q1) + q2) + q3) <<< ((1 : Int32) &&& 0x3f).toInt64)) + (0 : Int64)) + (0 : Int64))), .second, .val (.long q1), .second, .val (.long (q1 + q2)), .second, .val (.long ((q1 + q2) + q3)), .second, .unset, .unset, .unset, .unset, .unset, .unset, .unset, .unset, .unset]) rfl ?_
          refine XS.iload X1861.here hx rfl (hb hby at_120) rfl ?_
          refine XS.istore X1861.here hx rfl (hb hby at_122) rfl (l' := #[.val (.long q1), .second, .val (.long q2), .second, .val (.long q3), .second, .val (.int p4), .val (.int 1), .val (.int 1), .val (.int 1), .val (.ref b1634), .val (.long 288), .second, .val (.long ((((288 : Int64) + (((0 : Int64) + q1) <<< ((1 : Int32) &&& 0x3f).toInt64)) + (0 : Int64)) + (0 : Int64))), .second, .val (.long ((((288 : Int64) + ((((0 : Int64) + q1) + q2) <<< ((1 : Int32) &&& 0x3f).toInt64)) + (0 : Int64)) + (0 : Int64))), .second, .val (.long ((((288 : Int64) + (((((0 : Int64) + q1) + q2) + q3) <<< ((1 : Int32) &&& 0x3f).toInt64)) + (0 : Int64)) + (0 : Int64))), .second, .val (.long q1), .second, .val (.long (q1 + q2)), .second, .val (.long ((q1 + q2) + q3)), .second, .val (.int 1), .unset, .unset, .unset, .unset, .unset, .unset, .unset, .unset]) rfl ?_
          refine XS.iload X1861.here hx rfl (hb hby at_124) rfl ?_
          refine XS.ifYes X1861.here hx rfl (pc0 := 126) (pc' := 134) rfl (hb hby at_126) rfl ((if0 _ _).trans (feq (by decide : ¬ ((1 : Int32) = (0 : Int32)))).2) (by decide) (by decide) ?_
          refine XS.iconst X1861.here hx rfl (hb hby at_134) ?_
          refine XS.goto X1861.here hx rfl (pc0 := 135) (pc' := 139) rfl (hb hby at_135) (by decide) (by decide) ?_
          refine XS.istore X1861.here hx rfl (hb hby at_139) rfl (l' := #[.val (.long q1), .second, .val (.long q2), .second, .val (.long q3), .second, .val (.int p4), .val (.int 1), .val (.int 1), .val (.int 1), .val (.ref b1634), .val (.long 288), .second, .val (.long ((((288 : Int64) + (((0 : Int64) + q1) <<< ((1 : Int32) &&& 0x3f).toInt64)) + (0 : Int64)) + (0 : Int64))), .second, .val (.long ((((288 : Int64) + ((((0 : Int64) + q1) + q2) <<< ((1 : Int32) &&& 0x3f).toInt64)) + (0 : Int64)) + (0 : Int64))), .second, .val (.long ((((288 : Int64) + (((((0 : Int64) + q1) + q2) + q3) <<< ((1 : Int32) &&& 0x3f).toInt64)) + (0 : Int64)) + (0 : Int64))), .second, .val (.long q1), .second, .val (.long (q1 + q2)), .second, .val (.long ((q1 + q2) + q3)), .second, .val (.int 1), .val (.int 1), .unset, .unset, .unset, .unset, .unset, .unset, .unset]) rfl ?_
          refine XS.iload X1861.here hx rfl (hb hby at_141) rfl ?_
          refine XS.ifYes X1861.here hx rfl (pc0 := 143) (pc' := 156) rfl (hb hby at_143) rfl ((if0 _ _).trans (feq (by decide : ¬ ((1 : Int32) = (0 : Int32)))).2) (by decide) (by decide) ?_
          refine XS.iconst X1861.here hx rfl (hb hby at_156) ?_
          refine XS.goto X1861.here hx rfl (pc0 := 157) (pc' := 161) rfl (hb hby at_157) (by decide) (by decide) ?_
          refine XS.istore X1861.here hx rfl (hb hby at_161) rfl (l' := #[.val (.long q1), .second, .val (.long q2), .second, .val (.long q3), .second, .val (.int p4), .val (.int 1), .val (.int 1), .val (.int 1), .val (.ref b1634), .val (.long 288), .second, .val (.long ((((288 : Int64) + (((0 : Int64) + q1) <<< ((1 : Int32) &&& 0x3f).toInt64)) + (0 : Int64)) + (0 : Int64))), .second, .val (.long ((((288 : Int64) + ((((0 : Int64) + q1) + q2) <<< ((1 : Int32) &&& 0x3f).toInt64)) + (0 : Int64)) + (0 : Int64))), .second, .val (.long ((((288 : Int64) + (((((0 : Int64) + q1) + q2) + q3) <<< ((1 : Int32) &&& 0x3f).toInt64)) + (0 : Int64)) + (0 : Int64))), .second, .val (.long q1), .second, .val (.long (q1 + q2)), .second, .val (.long ((q1 + q2) + q3)), .second, .val (.int 1), .val (.int 1), .val (.int 1), .unset, .unset, .unset, .unset, .unset, .unset]) rfl ?_
          refine XS.iload X1861.here hx rfl (hb hby at_163) rfl ?_
          refine XS.ifNo X1861.here hx rfl (hb hby at_165) rfl ((if0 _ _).trans (feq (by decide : ¬ ((1 : Int32) = (0 : Int32)))).1) ?_
          refine XS.lload X1861.here hx rfl (hb hby at_168) rfl ?_
          refine XS.iconst X1861.here hx rfl (hb hby at_170) ?_
          refine XS.lshl X1861.here hx rfl (hb hby at_171) rfl ?_
          refine XS.goto X1861.here hx rfl (pc0 := 172) (pc' := 177) rfl (hb hby at_172) (by decide) (by decide) ?_
          refine XS.lstore X1861.here hx rfl (hb hby at_177) rfl (l' := #[.val (.long q1), .second, .val (.long q2), .second, .val (.long q3), .second, .val (.int p4), .val (.int 1), .val (.int 1), .val (.int 1), .val (.ref b1634), .val (.long 288), .second, .val (.long ((((288 : Int64) + (((0 : Int64) + q1) <<< ((1 : Int32) &&& 0x3f).toInt64)) + (0 : Int64)) + (0 : Int64))), .second, .val (.long ((((288 : Int64) + ((((0 : Int64) + q1) + q2) <<< ((1 : Int32) &&& 0x3f).toInt64)) + (0 : Int64)) + (0 : Int64))), .second, .val (.long ((((288 : Int64) + (((((0 : Int64) + q1) + q2) + q3) <<< ((1 : Int32) &&& 0x3f).toInt64)) + (0 : Int64)) + (0 : Int64))), .second, .val (.long q1), .second, .val (.long (q1 + q2)), .second, .val (.long ((q1 + q2) + q3)), .second, .val (.int 1), .val (.int 1), .val (.int 1), .val (.long (q1 <<< ((1 : Int32) &&& 0x3f).toInt64)), .second, .unset, .unset, .unset, .unset]) rfl ?_
          show Steps p.tables e below (T1861.setTop (mkF m 179 #[.val (.long q1), .second, .val (.long q2), .second, .val (.long q3), .second, .val (.int p4), .val (.int 1), .val (.int 1), .val (.int 1), .val (.ref b1634), .val (.long 288), .second, .val (.long ((((288 : Int64) + (((0 : Int64) + q1) <<< ((1 : Int32) &&& 0x3f).toInt64)) + (0 : Int64)) + (0 : Int64))), .second, .val (.long ((((288 : Int64) + ((((0 : Int64) + q1) + q2) <<< ((1 : Int32) &&& 0x3f).toInt64)) + (0 : Int64)) + (0 : Int64))), .second, .val (.long ((((288 : Int64) + (((((0 : Int64) + q1) + q2) + q3) <<< ((1 : Int32) &&& 0x3f).toInt64)) + (0 : Int64)) + (0 : Int64))), .second, .val (.long q1), .second, .val (.long (q1 + q2)), .second, .val (.long ((q1 + q2) + q3)), .second, .val (.int 1), .val (.int 1), .val (.int 1), .val (.long (q1 <<< ((1 : Int32) &&& 0x3f).toInt64)), .second, .unset, .unset, .unset, .unset] [])) _
          refine XS.iload X1861.here hx rfl (hb hby at_179) rfl ?_
          refine XS.ifNo X1861.here hx rfl (hb hby at_181) rfl ((if0 _ _).trans (feq (by decide : ¬ ((1 : Int32) = (0 : Int32)))).1) ?_
          refine XS.lload X1861.here hx rfl (hb hby at_184) rfl ?_
          refine XS.iconst X1861.here hx rfl (hb hby at_186) ?_
          refine XS.lshl X1861.here hx rfl (hb hby at_187) rfl ?_
          refine XS.goto X1861.here hx rfl (pc0 := 188) (pc' := 193) rfl (hb hby at_188) (by decide) (by decide) ?_
          refine XS.lstore X1861.here hx rfl (hb hby at_193) rfl (l' := #[.val (.long q1), .second, .val (.long q2), .second, .val (.long q3), .second, .val (.int p4), .val (.int 1), .val (.int 1), .val (.int 1), .val (.ref b1634), .val (.long 288), .second, .val (.long ((((288 : Int64) + (((0 : Int64) + q1) <<< ((1 : Int32) &&& 0x3f).toInt64)) + (0 : Int64)) + (0 : Int64))), .second, .val (.long ((((288 : Int64) + ((((0 : Int64) + q1) + q2) <<< ((1 : Int32) &&& 0x3f).toInt64)) + (0 : Int64)) + (0 : Int64))), .second, .val (.long ((((288 : Int64) + (((((0 : Int64) + q1) + q2) + q3) <<< ((1 : Int32) &&& 0x3f).toInt64)) + (0 : Int64)) + (0 : Int64))), .second, .val (.long q1), .second, .val (.long (q1 + q2)), .second, .val (.long ((q1 + q2) + q3)), .second, .val (.int 1), .val (.int 1), .val (.int 1), .val (.long (q1 <<< ((1 : Int32) &&& 0x3f).toInt64)), .second, .val (.long ((q1 + q2) <<< ((1 : Int32) &&& 0x3f).toInt64)), .second, .unset, .unset]) rfl ?_
          refine XS.iload X1861.here hx rfl (hb hby at_195) rfl ?_
          refine XS.ifNo X1861.here hx rfl (hb hby at_197) rfl ((if0 _ _).trans (feq (by decide : ¬ ((1 : Int32) = (0 : Int32)))).1) ?_
          refine XS.lload X1861.here hx rfl (hb hby at_200) rfl ?_
          refine XS.iconst X1861.here hx rfl (hb hby at_202) ?_
          refine XS.lshl X1861.here hx rfl (hb hby at_203) rfl ?_
          refine XS.goto X1861.here hx rfl (pc0 := 204) (pc' := 209) rfl (hb hby at_204) (by decide) (by decide) ?_
          refine XS.lstore X1861.here hx rfl (hb hby at_209) rfl (l' := #[.val (.long q1), .second, .val (.long q2), .second, .val (.long q3), .second, .val (.int p4), .val (.int 1), .val (.int 1), .val (.int 1), .val (.ref b1634), .val (.long 288), .second, .val (.long ((((288 : Int64) + (((0 : Int64) + q1) <<< ((1 : Int32) &&& 0x3f).toInt64)) + (0 : Int64)) + (0 : Int64))), .second, .val (.long ((((288 : Int64) + ((((0 : Int64) + q1) + q2) <<< ((1 : Int32) &&& 0x3f).toInt64)) + (0 : Int64)) + (0 : Int64))), .second, .val (.long ((((288 : Int64) + (((((0 : Int64) + q1) + q2) + q3) <<< ((1 : Int32) &&& 0x3f).toInt64)) + (0 : Int64)) + (0 : Int64))), .second, .val (.long q1), .second, .val (.long (q1 + q2)), .second, .val (.long ((q1 + q2) + q3)), .second, .val (.int 1), .val (.int 1), .val (.int 1), .val (.long (q1 <<< ((1 : Int32) &&& 0x3f).toInt64)), .second, .val (.long ((q1 + q2) <<< ((1 : Int32) &&& 0x3f).toInt64)), .second, .val (.long (((q1 + q2) + q3) <<< ((1 : Int32) &&& 0x3f).toInt64)), .second]) rfl ?_
          refine XS.lload X1861.here hx rfl (hb hby at_211) rfl ?_
          refine XS.lload X1861.here hx rfl (hb hby at_213) rfl ?_
          refine XS.lsub X1861.here hx rfl (hb hby at_215) rfl ?_
          refine XS.lload X1861.here hx rfl (hb hby at_216) rfl ?_
          refine XS.lcmp X1861.here hx rfl (hb hby at_218) rfl ?_
          refine XS.ifNo X1861.here hx rfl (hb hby at_219) rfl ((if0 _ _).trans (teq ((lw_eq _ _).mpr (by rw [own_h]; simp only [Int64.zero_add, own_s0] : (((((288 : Int64) + (((0 : Int64) + q1) <<< ((1 : Int32) &&& 0x3f).toInt64)) + (0 : Int64)) + (0 : Int64)) - (288 : Int64)) = (q1 <<< ((1 : Int32) &&& 0x3f).toInt64)))).2) ?_
          refine XS.lload X1861.here hx rfl (hb hby at_222) rfl ?_
          refine XS.lload X1861.here hx rfl (hb hby at_224) rfl ?_
          refine XS.lsub X1861.here hx rfl (hb hby at_226) rfl ?_
          refine XS.lload X1861.here hx rfl (hb hby at_227) rfl ?_
          refine XS.lcmp X1861.here hx rfl (hb hby at_229) rfl ?_
          refine XS.ifNo X1861.here hx rfl (hb hby at_230) rfl ((if0 _ _).trans (teq ((lw_eq _ _).mpr (by rw [own_h]; simp only [Int64.zero_add, own_s0] : (((((288 : Int64) + ((((0 : Int64) + q1) + q2) <<< ((1 : Int32) &&& 0x3f).toInt64)) + (0 : Int64)) + (0 : Int64)) - (288 : Int64)) = ((q1 + q2) <<< ((1 : Int32) &&& 0x3f).toInt64)))).2) ?_
          refine XS.lload X1861.here hx rfl (hb hby at_233) rfl ?_
          refine XS.lload X1861.here hx rfl (hb hby at_235) rfl ?_
          refine XS.lsub X1861.here hx rfl (hb hby at_237) rfl ?_
          refine XS.lload X1861.here hx rfl (hb hby at_238) rfl ?_
          refine XS.lcmp X1861.here hx rfl (hb hby at_240) rfl ?_
          refine XS.ifNo X1861.here hx rfl (hb hby at_241) rfl ((if0 _ _).trans (teq ((lw_eq _ _).mpr (by rw [own_h]; simp only [Int64.zero_add, own_s0] : (((((288 : Int64) + (((((0 : Int64) + q1) + q2) + q3) <<< ((1 : Int32) &&& 0x3f).toInt64)) + (0 : Int64)) + (0 : Int64)) - (288 : Int64)) = (((q1 + q2) + q3) <<< ((1 : Int32) &&& 0x3f).toInt64)))).2) ?_
          refine XS.iconst X1861.here hx rfl (hb hby at_244) ?_
          refine XS.goto X1861.here hx rfl (pc0 := 245) (pc' := 249) rfl (hb hby at_245) (by decide) (by decide) ?_
          show Steps p.tables e below (T1861.setTop (mkF m 249 #[.val (.long q1), .second, .val (.long q2), .second, .val (.long q3), .second, .val (.int p4), .val (.int 1), .val (.int 1), .val (.int 1), .val (.ref b1634), .val (.long 288), .second, .val (.long ((((288 : Int64) + (((0 : Int64) + q1) <<< ((1 : Int32) &&& 0x3f).toInt64)) + (0 : Int64)) + (0 : Int64))), .second, .val (.long ((((288 : Int64) + ((((0 : Int64) + q1) + q2) <<< ((1 : Int32) &&& 0x3f).toInt64)) + (0 : Int64)) + (0 : Int64))), .second, .val (.long ((((288 : Int64) + (((((0 : Int64) + q1) + q2) + q3) <<< ((1 : Int32) &&& 0x3f).toInt64)) + (0 : Int64)) + (0 : Int64))), .second, .val (.long q1), .second, .val (.long (q1 + q2)), .second, .val (.long ((q1 + q2) + q3)), .second, .val (.int 1), .val (.int 1), .val (.int 1), .val (.long (q1 <<< ((1 : Int32) &&& 0x3f).toInt64)), .second, .val (.long ((q1 + q2) <<< ((1 : Int32) &&& 0x3f).toInt64)), .second, .val (.long (((q1 + q2) + q3) <<< ((1 : Int32) &&& 0x3f).toInt64)), .second] [(.int 1)])) _
          exact retN X1861 hx (t := .boolean) hret (by simp) (hb hby at_249) hr
        ·
          show Q0 n0 _ T1861.heap _
          rw [e1863]
          exact ⟨rfl, N1861⟩
set_option maxRecDepth 65536 in
set_option maxHeartbeats 40000000 in
theorem comes_1 {Post : Tables → Env → Array Value → State → Outcome → State → Prop} (hpost : ∀ tb e args s v u, (limb_1_1.after args s (.returned v) u = true ∧ limb_1_2.after args s (.returned v) u = true ∧ True) → FrameEnd s (.returned v) u (Jvm.fieldLocs frame_1_writes args s ++ Jvm.arrayLocs frame_1_arrays args s ++ Jvm.staticLocs frame_1_statics s) 32 384 → Post tb e args s (.returned v) u) :
    ArmFor flags0 classFile x code maxLocals ret World_1 tables_1 room_1 Calls_1 rest_1 Pre_1 Post := by
  intro l hfl _ _ p e ha hc hk s m args below hf hA hF happ hP
  obtain ⟨hcalls, hrest, hpre⟩ := hP
  obtain ⟨-, -, -, hnamed, -, -, -, hat⟩ := (Spec.applies_iff hf).mp happ
  obtain ⟨hg, hn⟩ := and_e (Cond.before_iff.mp (show (Jvm.Cond.and given_1 narrow_1).before args s = true from hpre))
  obtain ⟨hcount, hk0⟩ := and_e hg
  obtain ⟨hi0, hk1⟩ := and_e hk0
  obtain ⟨hi1, hk2⟩ := and_e hk1
  obtain ⟨hi2, hk3⟩ := and_e hk2
  have hi3 := hk3
  obtain ⟨w_a0, w_a1, w_a2, w_a3, rfl⟩ : ∃ w_a0 w_a1 w_a2 w_a3 : Value, args = #[w_a0, w_a1, w_a2, w_a3] := by
    have hs : args.size = 4 := by simpa [Cond.value, given_1] using hcount
    obtain ⟨L⟩ := args
    match L, hs with
    | [w_a0, w_a1, w_a2, w_a3], _ => exact ⟨w_a0, w_a1, w_a2, w_a3, rfl⟩
  have hw := fun d (hd : d ∈ tables_1) => atoms_spec (ws := Jvm.Cond.code x code maxLocals ret :: tables_1) hat d (List.mem_cons_of_mem _ hd)
  have hfit : Fit s := fun {y c} hc i hi => by
    obtain ⟨ha, rfl⟩ := Array.getElem?_eq_some_iff.mp hc
    have q := List.all_eq_true.mp ((Array.all_eq_true_iff_forall_mem.mp hF) _ (Array.getElem_mem ha)) i (List.mem_range.mpr hi)
    simpa [Array.getElem?_eq_getElem hi] using q
  obtain ⟨hsets, hown0⟩ := atoms_of _ (rest_1_c_eq ▸ (show rest_1_c.before _ s = true from hrest))
  obtain ⟨i0, ei0⟩ := isL_v hi0
  obtain rfl : w_a0 = (.long i0) := Option.some.inj ei0
  obtain ⟨i1, ei1⟩ := isL_v hi1
  obtain rfl : w_a1 = (.long i1) := Option.some.inj ei1
  obtain ⟨i2, ei2⟩ := isL_v hi2
  obtain rfl : w_a2 = (.long i2) := Option.some.inj ei2
  obtain ⟨i3, ei3⟩ := is_v hi3
  obtain rfl : w_a3 = (.int i3) := Option.some.inj ei3
  obtain ⟨w1, ev_w1⟩ := exa_v (Cond.before_iff.mp (hsets _ (List.mem_of_getElem? (i := 13) rfl)))
  have S_w1 : Sta s s.heap "java/util/ArrayList" "EMPTY_ELEMENTDATA" "[Ljava/lang/Object;" (.ref w1) := Sta.start ev_w1 (Or.inl (hsets _ (List.mem_of_getElem? (i := 10) rfl)))
  have E_w1 : Exa s s.heap w1 "[Ljava/lang/Object;" := Exa.start ev_w1 (Cond.before_iff.mp (hsets _ (List.mem_of_getElem? (i := 13) rfl)))
  obtain ⟨w2, ev_w2⟩ := exa_v (Cond.before_iff.mp (hsets _ (List.mem_of_getElem? (i := 16) rfl)))
  have S_w2 : Sta s s.heap "java/util/ArrayList" "DEFAULTCAPACITY_EMPTY_ELEMENTDATA" "[Ljava/lang/Object;" (.ref w2) := Sta.start ev_w2 (Or.inr ⟨(own_w hw 50 rfl), (hsets _ (List.mem_of_getElem? (i := 11) rfl))⟩)
  have E_w2 : Exa s s.heap w2 "[Ljava/lang/Object;" := Exa.start ev_w2 (Cond.before_iff.mp (hsets _ (List.mem_of_getElem? (i := 16) rfl)))
  obtain ⟨gi1, ev_gi1⟩ := is_v (Cond.before_iff.mp (hsets _ (List.mem_of_getElem? (i := 1) rfl)))
  have S_gi1 : Sta s s.heap "java/lang/String" "COMPACT_STRINGS" "Z" (.int gi1) := Sta.start ev_gi1 (Or.inl (hsets _ (List.mem_of_getElem? (i := 0) rfl)))
  have NZ_gi1 : ¬ (gi1 = (0 : Int32)) := gotF (Cond.eq_ints ev_gi1 (Term.int_eval _)) (not_v (Cond.before_iff.mp (hsets _ (List.mem_of_getElem? (i := 2) rfl))))
  obtain ⟨cl_w1, Ar_w1⟩ := Arr.start ev_w1 (Cond.before_iff.mp (hsets _ (List.mem_of_getElem? (i := 12) rfl)))
  obtain ⟨lz_w1, ln_w1⟩ := own_len Ar_w1 ev_w1 (eqv_i rfl (Cond.before_iff.mp (hsets _ (List.mem_of_getElem? (i := 14) rfl))))
  obtain ⟨kw1, hk_w1⟩ : ∃ k, k = cl_w1.cls := ⟨_, rfl⟩
  have A_w1 : Arv s s.heap w1 kw1 (.object "java/lang/Object") (0 : Int32) [] .null := hk_w1 ▸ Arv.start hfit Ar_w1 lz_w1 ln_w1 (by decide) rfl trivial
  obtain ⟨cl_w2, Ar_w2⟩ := Arr.start ev_w2 (Cond.before_iff.mp (hsets _ (List.mem_of_getElem? (i := 15) rfl)))
  obtain ⟨lz_w2, ln_w2⟩ := own_len Ar_w2 ev_w2 (eqv_i rfl (Cond.before_iff.mp (hsets _ (List.mem_of_getElem? (i := 17) rfl))))
  obtain ⟨kw2, hk_w2⟩ : ∃ k, k = cl_w2.cls := ⟨_, rfl⟩
  have A_w2 : Arv s s.heap w2 kw2 (.object "java/lang/Object") (0 : Int32) [] .null := hk_w2 ▸ Arv.start hfit Ar_w2 lz_w2 ln_w2 (by decide) rfl trivial
  have G : GW s w1 w2 kw1 kw2 gi1 := ⟨S_w1, E_w1, S_w2, E_w2, S_gi1, NZ_gi1, A_w1, A_w2⟩
  obtain ⟨n, o, h1, h2, h3, _, L, rfl, ⟨rfl, N⟩, hq⟩ := rm0 l s _ hw w1 w2 kw1 kw2 gi1 G tables_1 i0 i1 i2 i3 s.heap s.heap.size (Old.start s) p e ha hc hk s m _ below hf ((Spec.applies_iff_loose hf).mp happ).1 ⟨rfl, State.Warmed39.refl s, rfl⟩ trivial
  refine ⟨n, _, h1, h2, h3, hpost _ _ _ _ _ _ ⟨Cond.after_iff.mpr rfl, Cond.after_iff.mpr (eq_i res_at (Term.int_eval (1)) rfl), trivial⟩ ⟨hq.1, hq.2.1, (hq.2.2.sift fun y hy => Or.inr (N y hy)).mono (by decide) (by decide)⟩⟩
theorem main_1_1 : Claimed_1_1 := comes_1 fun _ _ _ _ _ _ h hF => ⟨h.1, hF⟩
theorem main_1_2 : Claimed_1_2 := comes_1 fun _ _ _ _ _ _ h hF => ⟨h.2.1, hF⟩
end Jvm.Pilot.@@N@@
namespace Jvm.Pilot.@@N@@
open Jvm Jvm.ClassFile Sem Op Lib Jvm.Free Jvm.Stand Jvm.Pilot.@@N@@.Jvm.D
/-! MADE BY PROGRAM (witnessworld.py) out of the Statement's table words and the real class files: 33 classes; the members and pool entries that the words name. The judged class is class 1, her method 1. -/
namespace start1
open Jvm.ClassFile
def u (s : String) : CpInfo := .utf8 (stringToUtf16 s)
/-- a pool by its gaps: so many unusable entries, then the entry; so many at the end -/
def gap : Nat → List CpInfo → List CpInfo
  | 0, r => r
  | n + 1, r => .unusable :: gap n r
def poolList (es : List (Nat × CpInfo)) (last : Nat) : List CpInfo := es.foldr (fun e r => gap e.1 (e.2 :: r)) (gap last [])
def pool (es : List (Nat × CpInfo)) (last : Nat) : Array CpInfo := ⟨poolList es last⟩
def fileOf (pool : Array CpInfo) (this : Nat) (attrs : Array Attribute := #[]) (ms : Array MethodInfo := #[]) (fl : Nat := 33) (sup : Nat := 0) (ifs : Array Nat := #[]) (fds : Array FieldInfo := #[]) : ClassFile where
  minorVersion := 0
  majorVersion := 65
  constantPool := pool
  accessFlags := fl
  thisClass := this
  superClass := sup
  interfaces := ifs
  fields := fds
  methods := ms
  attributes := attrs
def plain (name : String) (sup : Option ClassId) : Class where
  name := name
  kind := .ordinary
  loader := none
  accessFlags := 33
  super := sup
  interfaces := #[]
  cf := none
  fields := #[]
  methods := #[]
  instanceTypes := #[]
  staticTypes := #[]
  resolved := #[]
  callSites := []
  init := .initialized
  statics := none
  mirror := none

def pool0 : Array CpInfo := pool [(5, u "<init>"), (0, u "()V"), (1, .class_ 10), (1, u "java/lang/Object")] 113

def k0c0 : Code := { maxStack := 0, maxLocals := 1, code := object_method_1_code, exceptionTable := #[], attributes := #[] }
def k0m0 : Method := { name := "<init>", desc := "()V", sig := { parameters := [], returnType := none }, accessFlags := 1, code := some k0c0 }
/-- java/lang/Object -/
def k0 : Class := { plain "java/lang/Object" none with
  accessFlags := 33
  interfaces := #[]
  cf := some (fileOf pool0 8 #[] #[{ accessFlags := 1, nameIndex := 5, descriptorIndex := 6, attributes := #[] }] 33 0 #[] #[])
  fields := #[]
  methods := #[k0m0]
  instanceTypes := #[]
  staticTypes := #[]
  resolved := Array.replicate 124 none
  statics := none }

def pool1 : Array CpInfo := pool [(2, .class_ 4), (0, .nameAndType 5 6), (0, u "java/lang/Object"), (0, u "<init>"), (0, u "()V"), (0, .class_ 8), (0, u "com/example/mycelia/mycelia/wire/MessageTree"), (0, .methodref 7 3), (0, .methodref 7 11), (0, .nameAndType 12 13), (0, u "heap"), (0, u "()J"), (0, .methodref 7 15), (0, .nameAndType 16 17), (0, u "passed"), (0, u "(JZ)V"), (0, .class_ 19), (0, u "com/example/mycelia/mycelia/wire/MessageTreePassedPinLaw"), (2, u "law"), (0, u "(JJJI)Z")] 3

def k1m0 : Method := { name := "<init>", desc := "()V", sig := { parameters := [], returnType := none }, accessFlags := 1, code := none }
def k1c1 : Code := { maxStack := 4, maxLocals := 34, code := code, exceptionTable := #[], attributes := #[] }
def k1m1 : Method := { name := "law", desc := "(JJJI)Z", sig := { parameters := [.long, .long, .long, .int], returnType := some .boolean }, accessFlags := 9, code := some k1c1 }
/-- com/example/mycelia/mycelia/wire/MessageTreePassedPinLaw -/
def k1 : Class := { plain "com/example/mycelia/mycelia/wire/MessageTreePassedPinLaw" (some 0) with
  accessFlags := 49
  interfaces := #[]
  cf := some (fileOf pool1 18 #[] #[{ accessFlags := 1, nameIndex := 5, descriptorIndex := 6, attributes := #[] }, { accessFlags := 9, nameIndex := 22, descriptorIndex := 23, attributes := #[] }] 49 2 #[] #[])
  fields := #[]
  methods := #[k1m0, k1m1]
  instanceTypes := #[]
  staticTypes := #[]
  resolved := Array.replicate 27 none
  statics := none }

def pool2 : Array CpInfo := pool [(1, .methodref 2 3), (0, .class_ 4), (0, .nameAndType 5 6), (0, u "java/lang/Object"), (0, u "<init>"), (0, u "()V"), (0, .class_ 8), (0, u "com/example/mycelia/mycelia/wire/MessageTree$IntRecords"), (0, .methodref 7 3), (0, .fieldref 11 12), (0, .class_ 13), (0, .nameAndType 14 15), (0, u "com/example/mycelia/mycelia/wire/MessageTree"), (0, u "elements"), (0, u "Lcom/example/mycelia/mycelia/wire/MessageTree$IntRecords;"), (0, .fieldref 11 17), (0, .nameAndType 18 15), (0, u "attributes"), (0, .class_ 20), (0, u "java/lang/StringBuilder"), (0, .methodref 19 3), (0, .fieldref 11 23), (0, .nameAndType 24 25), (0, u "text"), (0, u "Ljava/lang/StringBuilder;"), (0, .fieldref 11 27), (0, .nameAndType 28 25), (0, u "values"), (0, .class_ 30), (0, u "java/util/ArrayList"), (0, .methodref 29 3), (0, .fieldref 11 33), (0, .nameAndType 34 35), (0, u "names"), (0, u "Ljava/util/List;"), (0, .class_ 37), (0, u "java/util/HashMap"), (0, .methodref 36 3), (0, .fieldref 11 40), (0, .nameAndType 41 42), (0, u "codes"), (0, u "Ljava/util/Map;"), (0, .methodref 7 44), (0, .nameAndType 45 46), (0, u "add"), (0, u "(IIII)I"), (0, .fieldref 11 48), (0, .nameAndType 49 50), (0, u "open"), (0, u "I"), (7, u "()I"), (2, u "depth"), (0, .fieldref 11 63), (0, .nameAndType 64 50), (0, u "deepest"), (13, .fieldref 11 79), (0, .nameAndType 80 81), (0, u "wideValues"), (0, u "Z"), (7, .fieldref 11 90), (0, .nameAndType 91 81), (0, u "wideText"), (8, u "passed"), (0, u "(JZ)V"), (3, .fieldref 11 106), (0, .nameAndType 100 107), (0, u "J"), (0, .fieldref 11 109), (0, .nameAndType 110 81), (0, u "widePassed"), (8, .nameAndType 120 58), (0, u "size"), (4, .methodref 7 126), (0, .nameAndType 127 128), (0, u "heap"), (0, u "()J"), (0, .methodref 19 130), (0, .nameAndType 131 58), (0, u "capacity"), (0, .long 240), (1, .interfaceMethodref 135 119), (0, .class_ 136), (0, u "java/util/List"), (0, .long 56), (23, .class_ 162), (0, u "com/example/mycelia/mycelia/wire/MessageTree$Name"), (40, u "NONE"), (2, u "DOCUMENT"), (1, u "NAME_HEAP"), (0, u "LEVEL_HEAP"), (0, u "LATIN_1_LAST"), (0, u "C"), (1, u "NAME"), (0, u "END"), (1, u "TEXT_START"), (1, u "TEXT_END"), (1, u "OWNER"), (0, u "ATTRIBUTE_NAME"), (0, u "VALUE_START"), (0, u "VALUE_END")] 50

def k2c0 : Code := { maxStack := 6, maxLocals := 1, code := prog_21_method_1_code, exceptionTable := #[], attributes := #[] }
def k2m0 : Method := { name := "<init>", desc := "()V", sig := { parameters := [], returnType := none }, accessFlags := 0, code := some k2c0 }
def k2c1 : Code := { maxStack := 5, maxLocals := 4, code := prog_21_method_8_code, exceptionTable := #[], attributes := #[] }
def k2m1 : Method := { name := "passed", desc := "(JZ)V", sig := { parameters := [.long, .boolean], returnType := none }, accessFlags := 0, code := some k2c1 }
def k2c2 : Code := { maxStack := 6, maxLocals := 1, code := prog_21_method_14_code, exceptionTable := #[], attributes := #[] }
def k2m2 : Method := { name := "heap", desc := "()J", sig := { parameters := [], returnType := some .long }, accessFlags := 0, code := some k2c2 }
/-- com/example/mycelia/mycelia/wire/MessageTree -/
def k2 : Class := { plain "com/example/mycelia/mycelia/wire/MessageTree" (some 0) with
  accessFlags := 48
  interfaces := #[]
  cf := some (fileOf pool2 11 #[.nestMembers #[7, 161]] #[{ accessFlags := 0, nameIndex := 5, descriptorIndex := 6, attributes := #[] }, { accessFlags := 0, nameIndex := 100, descriptorIndex := 101, attributes := #[] }, { accessFlags := 0, nameIndex := 127, descriptorIndex := 128, attributes := #[] }] 48 2 #[] #[{ accessFlags := 24, nameIndex := 203, descriptorIndex := 50, attributes := #[] }, { accessFlags := 24, nameIndex := 206, descriptorIndex := 50, attributes := #[] }, { accessFlags := 26, nameIndex := 208, descriptorIndex := 107, attributes := #[] }, { accessFlags := 26, nameIndex := 209, descriptorIndex := 107, attributes := #[] }, { accessFlags := 26, nameIndex := 210, descriptorIndex := 211, attributes := #[] }, { accessFlags := 26, nameIndex := 213, descriptorIndex := 50, attributes := #[] }, { accessFlags := 26, nameIndex := 214, descriptorIndex := 50, attributes := #[] }, { accessFlags := 26, nameIndex := 216, descriptorIndex := 50, attributes := #[] }, { accessFlags := 26, nameIndex := 218, descriptorIndex := 50, attributes := #[] }, { accessFlags := 26, nameIndex := 220, descriptorIndex := 50, attributes := #[] }, { accessFlags := 26, nameIndex := 221, descriptorIndex := 50, attributes := #[] }, { accessFlags := 26, nameIndex := 222, descriptorIndex := 50, attributes := #[] }, { accessFlags := 26, nameIndex := 223, descriptorIndex := 50, attributes := #[] }, { accessFlags := 18, nameIndex := 14, descriptorIndex := 15, attributes := #[] }, { accessFlags := 18, nameIndex := 18, descriptorIndex := 15, attributes := #[] }, { accessFlags := 18, nameIndex := 24, descriptorIndex := 25, attributes := #[] }, { accessFlags := 18, nameIndex := 28, descriptorIndex := 25, attributes := #[] }, { accessFlags := 18, nameIndex := 34, descriptorIndex := 35, attributes := #[] }, { accessFlags := 18, nameIndex := 41, descriptorIndex := 42, attributes := #[] }, { accessFlags := 2, nameIndex := 49, descriptorIndex := 50, attributes := #[] }, { accessFlags := 2, nameIndex := 61, descriptorIndex := 50, attributes := #[] }, { accessFlags := 2, nameIndex := 64, descriptorIndex := 50, attributes := #[] }, { accessFlags := 2, nameIndex := 91, descriptorIndex := 81, attributes := #[] }, { accessFlags := 2, nameIndex := 80, descriptorIndex := 81, attributes := #[] }, { accessFlags := 2, nameIndex := 100, descriptorIndex := 107, attributes := #[] }, { accessFlags := 2, nameIndex := 110, descriptorIndex := 81, attributes := #[] }])
  fields := #[{ name := "NONE", type := .int, accessFlags := 24, slot := 0, constantValue := 0 }, { name := "DOCUMENT", type := .int, accessFlags := 24, slot := 1, constantValue := 0 }, { name := "NAME_HEAP", type := .long, accessFlags := 26, slot := 2, constantValue := 0 }, { name := "LEVEL_HEAP", type := .long, accessFlags := 26, slot := 3, constantValue := 0 }, { name := "LATIN_1_LAST", type := .char, accessFlags := 26, slot := 4, constantValue := 0 }, { name := "NAME", type := .int, accessFlags := 26, slot := 5, constantValue := 0 }, { name := "END", type := .int, accessFlags := 26, slot := 6, constantValue := 0 }, { name := "TEXT_START", type := .int, accessFlags := 26, slot := 7, constantValue := 0 }, { name := "TEXT_END", type := .int, accessFlags := 26, slot := 8, constantValue := 0 }, { name := "OWNER", type := .int, accessFlags := 26, slot := 9, constantValue := 0 }, { name := "ATTRIBUTE_NAME", type := .int, accessFlags := 26, slot := 10, constantValue := 0 }, { name := "VALUE_START", type := .int, accessFlags := 26, slot := 11, constantValue := 0 }, { name := "VALUE_END", type := .int, accessFlags := 26, slot := 12, constantValue := 0 }, { name := "elements", type := (.object "com/example/mycelia/mycelia/wire/MessageTree$IntRecords"), accessFlags := 18, slot := 0, constantValue := 0 }, { name := "attributes", type := (.object "com/example/mycelia/mycelia/wire/MessageTree$IntRecords"), accessFlags := 18, slot := 1, constantValue := 0 }, { name := "text", type := (.object "java/lang/StringBuilder"), accessFlags := 18, slot := 2, constantValue := 0 }, { name := "values", type := (.object "java/lang/StringBuilder"), accessFlags := 18, slot := 3, constantValue := 0 }, { name := "names", type := (.object "java/util/List"), accessFlags := 18, slot := 4, constantValue := 0 }, { name := "codes", type := (.object "java/util/Map"), accessFlags := 18, slot := 5, constantValue := 0 }, { name := "open", type := .int, accessFlags := 2, slot := 6, constantValue := 0 }, { name := "depth", type := .int, accessFlags := 2, slot := 7, constantValue := 0 }, { name := "deepest", type := .int, accessFlags := 2, slot := 8, constantValue := 0 }, { name := "wideText", type := .boolean, accessFlags := 2, slot := 9, constantValue := 0 }, { name := "wideValues", type := .boolean, accessFlags := 2, slot := 10, constantValue := 0 }, { name := "passed", type := .long, accessFlags := 2, slot := 11, constantValue := 0 }, { name := "widePassed", type := .boolean, accessFlags := 2, slot := 12, constantValue := 0 }]
  methods := #[k2m0, k2m1, k2m2]
  instanceTypes := #[(.object "com/example/mycelia/mycelia/wire/MessageTree$IntRecords"), (.object "com/example/mycelia/mycelia/wire/MessageTree$IntRecords"), (.object "java/lang/StringBuilder"), (.object "java/lang/StringBuilder"), (.object "java/util/List"), (.object "java/util/Map"), .int, .int, .int, .boolean, .boolean, .long, .boolean]
  staticTypes := #[.int, .int, .long, .long, .char, .int, .int, .int, .int, .int, .int, .int, .int]
  resolved := ((Array.replicate 274 none).set! 7 (some (.cls 3))).set! 9 (some (.method ⟨3, 0⟩))
  statics := none }

def pool3 : Array CpInfo := pool [(1, .class_ 2), (0, u "com/example/mycelia/mycelia/wire/MessageTree$IntRecords"), (0, .methodref 4 5), (0, .class_ 6), (0, .nameAndType 7 8), (0, u "java/lang/Object"), (0, u "<init>"), (0, u "()V"), (0, .class_ 10), (0, u "[I"), (0, .fieldref 1 12), (0, .nameAndType 13 14), (0, u "blocks"), (0, u "[[I"), (0, .fieldref 1 16), (0, .nameAndType 17 18), (0, u "size"), (0, u "I"), (7, .fieldref 1 27), (0, .nameAndType 28 29), (0, u "heap"), (0, u "J"), (2, .long 4), (4, u "BLOCK_BITS"), (2, u "BLOCK"), (1, u "FIRST_BLOCK"), (3, u "add"), (0, u "(IIII)I"), (6, u "()J"), (3, .class_ 59), (0, u "com/example/mycelia/mycelia/wire/MessageTree")] 2

def k3c0 : Code := { maxStack := 2, maxLocals := 1, code := prog_22_method_1_code, exceptionTable := #[], attributes := #[] }
def k3m0 : Method := { name := "<init>", desc := "()V", sig := { parameters := [], returnType := none }, accessFlags := 2, code := some k3c0 }
def k3c1 : Code := { maxStack := 7, maxLocals := 9, code := prog_22_method_2_code, exceptionTable := #[], attributes := #[] }
def k3m1 : Method := { name := "add", desc := "(IIII)I", sig := { parameters := [.int, .int, .int, .int], returnType := some .int }, accessFlags := 0, code := some k3c1 }
def k3c2 : Code := { maxStack := 2, maxLocals := 1, code := prog_22_method_6_code, exceptionTable := #[], attributes := #[] }
def k3m2 : Method := { name := "heap", desc := "()J", sig := { parameters := [], returnType := some .long }, accessFlags := 0, code := some k3c2 }
/-- com/example/mycelia/mycelia/wire/MessageTree$IntRecords -/
def k3 : Class := { plain "com/example/mycelia/mycelia/wire/MessageTree$IntRecords" (some 0) with
  accessFlags := 48
  interfaces := #[]
  cf := some (fileOf pool3 1 #[.nestHost 58] #[{ accessFlags := 2, nameIndex := 7, descriptorIndex := 8, attributes := #[] }, { accessFlags := 0, nameIndex := 46, descriptorIndex := 47, attributes := #[] }, { accessFlags := 0, nameIndex := 28, descriptorIndex := 54, attributes := #[] }] 48 4 #[] #[{ accessFlags := 26, nameIndex := 37, descriptorIndex := 18, attributes := #[] }, { accessFlags := 26, nameIndex := 40, descriptorIndex := 18, attributes := #[] }, { accessFlags := 26, nameIndex := 42, descriptorIndex := 18, attributes := #[] }, { accessFlags := 2, nameIndex := 13, descriptorIndex := 14, attributes := #[] }, { accessFlags := 2, nameIndex := 17, descriptorIndex := 18, attributes := #[] }, { accessFlags := 2, nameIndex := 28, descriptorIndex := 29, attributes := #[] }])
  fields := #[{ name := "BLOCK_BITS", type := .int, accessFlags := 26, slot := 0, constantValue := 0 }, { name := "BLOCK", type := .int, accessFlags := 26, slot := 1, constantValue := 0 }, { name := "FIRST_BLOCK", type := .int, accessFlags := 26, slot := 2, constantValue := 0 }, { name := "blocks", type := (.array (.array .int)), accessFlags := 2, slot := 0, constantValue := 0 }, { name := "size", type := .int, accessFlags := 2, slot := 1, constantValue := 0 }, { name := "heap", type := .long, accessFlags := 2, slot := 2, constantValue := 0 }]
  methods := #[k3m0, k3m1, k3m2]
  instanceTypes := #[(.array (.array .int)), .int, .long]
  staticTypes := #[.int, .int, .int]
  resolved := Array.replicate 62 none
  statics := none }

def pool4 : Array CpInfo := pool [(1, .class_ 2), (0, u "java/lang/Appendable"), (0, .class_ 4), (0, u "java/lang/Object")] 9

/-- java/lang/Appendable -/
def k4 : Class := { plain "java/lang/Appendable" (some 0) with
  accessFlags := 1537
  interfaces := #[]
  cf := some (fileOf pool4 1 #[] #[] 1537 3 #[] #[])
  fields := #[]
  methods := #[]
  instanceTypes := #[]
  staticTypes := #[]
  resolved := Array.replicate 14 none
  statics := none }

def pool5 : Array CpInfo := pool [(2, .class_ 4), (1, u "java/lang/CharSequence"), (42, .class_ 48), (0, u "java/lang/CharSequence$1CodePointIterator"), (10, .class_ 60), (0, u "java/lang/CharSequence$1CharIterator"), (5, .class_ 67), (0, u "java/lang/Object")] 63

/-- java/lang/CharSequence -/
def k5 : Class := { plain "java/lang/CharSequence" (some 0) with
  accessFlags := 1537
  interfaces := #[]
  cf := some (fileOf pool5 2 #[.nestMembers #[47, 59]] #[] 1537 66 #[] #[])
  fields := #[]
  methods := #[]
  instanceTypes := #[]
  staticTypes := #[]
  resolved := Array.replicate 131 none
  statics := none }

def pool6 : Array CpInfo := pool [(1, .class_ 2), (0, u "java/lang/String"), (0, .methodref 4 5), (0, .class_ 6), (0, .nameAndType 7 8), (0, u "java/lang/Object"), (0, u "<init>"), (0, u "()V"), (1, .class_ 12), (1, u "java/lang/AbstractStringBuilder"), (0, u "EMPTYVALUE"), (0, u "[B"), (0, .fieldref 10 16), (0, .nameAndType 17 14), (0, u "value"), (0, .fieldref 1 19), (0, .nameAndType 20 21), (0, u "COMPACT_STRINGS"), (0, u "Z"), (0, .fieldref 10 23), (0, .nameAndType 24 25), (0, u "coder"), (0, u "B"), (9, u "()I"), (12, .class_ 49), (0, u "java/lang/CharSequence"), (25, u "maybeLatin1"), (5, u "count"), (0, u "I"), (20, u "(I)V"), (340, .class_ 445), (0, u "java/lang/Appendable"), (5, u "capacity")] 157

def k6m0 : Method := { name := "<init>", desc := "()V", sig := { parameters := [], returnType := none }, accessFlags := 0, code := none }
def k6c1 : Code := { maxStack := 2, maxLocals := 2, code := jdk_68_method_2_code, exceptionTable := #[], attributes := #[] }
def k6m1 : Method := { name := "<init>", desc := "(I)V", sig := { parameters := [.int], returnType := none }, accessFlags := 0, code := some k6c1 }
def k6c2 : Code := { maxStack := 2, maxLocals := 1, code := jdk_68_method_7_code, exceptionTable := #[], attributes := #[] }
def k6m2 : Method := { name := "capacity", desc := "()I", sig := { parameters := [], returnType := some .int }, accessFlags := 1, code := some k6c2 }
/-- java/lang/AbstractStringBuilder -/
def k6 : Class := { plain "java/lang/AbstractStringBuilder" (some 0) with
  accessFlags := 1056
  interfaces := #[4, 5]
  cf := some (fileOf pool6 10 #[] #[{ accessFlags := 0, nameIndex := 7, descriptorIndex := 8, attributes := #[] }, { accessFlags := 0, nameIndex := 7, descriptorIndex := 103, attributes := #[] }, { accessFlags := 1, nameIndex := 451, descriptorIndex := 35, attributes := #[] }] 1056 4 #[444, 48] #[{ accessFlags := 0, nameIndex := 17, descriptorIndex := 14, attributes := #[] }, { accessFlags := 0, nameIndex := 24, descriptorIndex := 25, attributes := #[] }, { accessFlags := 0, nameIndex := 75, descriptorIndex := 21, attributes := #[] }, { accessFlags := 0, nameIndex := 81, descriptorIndex := 82, attributes := #[] }, { accessFlags := 26, nameIndex := 13, descriptorIndex := 14, attributes := #[] }])
  fields := #[{ name := "value", type := (.array .byte), accessFlags := 0, slot := 0, constantValue := 0 }, { name := "coder", type := .byte, accessFlags := 0, slot := 1, constantValue := 0 }, { name := "maybeLatin1", type := .boolean, accessFlags := 0, slot := 2, constantValue := 0 }, { name := "count", type := .int, accessFlags := 0, slot := 3, constantValue := 0 }, { name := "EMPTYVALUE", type := (.array .byte), accessFlags := 26, slot := 0, constantValue := 0 }]
  methods := #[k6m0, k6m1, k6m2]
  instanceTypes := #[(.array .byte), .byte, .boolean, .int]
  staticTypes := #[(.array .byte)]
  resolved := Array.replicate 609 none
  statics := none }

def pool7 : Array CpInfo := pool [(1, .class_ 2), (0, u "java/io/Serializable"), (0, .class_ 4), (0, u "java/lang/Object")] 2

/-- java/io/Serializable -/
def k7 : Class := { plain "java/io/Serializable" (some 0) with
  accessFlags := 1537
  interfaces := #[]
  cf := some (fileOf pool7 1 #[] #[] 1537 3 #[] #[])
  fields := #[]
  methods := #[]
  instanceTypes := #[]
  staticTypes := #[]
  resolved := Array.replicate 7 none
  statics := none }

def pool8 : Array CpInfo := pool [(1, .class_ 2), (0, u "java/lang/Comparable"), (0, .class_ 4), (0, u "java/lang/Object")] 7

/-- java/lang/Comparable -/
def k8 : Class := { plain "java/lang/Comparable" (some 0) with
  accessFlags := 1537
  interfaces := #[]
  cf := some (fileOf pool8 1 #[] #[] 1537 3 #[] #[])
  fields := #[]
  methods := #[]
  instanceTypes := #[]
  staticTypes := #[]
  resolved := Array.replicate 12 none
  statics := none }

def pool9 : Array CpInfo := pool [(1, .methodref 2 3), (0, .class_ 4), (0, .nameAndType 5 6), (0, u "java/lang/AbstractStringBuilder"), (0, u "<init>"), (0, u "(I)V"), (17, .class_ 26), (1, u "java/lang/StringBuilder"), (118, u "()V"), (8, .nameAndType 155 156), (0, u "capacity"), (0, u "()I"), (185, .methodref 2 154), (6, .class_ 350), (0, u "java/lang/Appendable"), (0, .class_ 352), (0, u "java/io/Serializable"), (0, .class_ 354), (0, u "java/lang/Comparable"), (0, .class_ 356), (0, u "java/lang/CharSequence"), (0, u "serialVersionUID"), (0, u "J")] 63

def k9c0 : Code := { maxStack := 2, maxLocals := 1, code := jdk_67_method_1_code, exceptionTable := #[], attributes := #[] }
def k9m0 : Method := { name := "<init>", desc := "()V", sig := { parameters := [], returnType := none }, accessFlags := 1, code := some k9c0 }
def k9c1 : Code := { maxStack := 1, maxLocals := 1, code := jdk_67_method_92_code, exceptionTable := #[], attributes := #[] }
def k9m1 : Method := { name := "capacity", desc := "()I", sig := { parameters := [], returnType := some .int }, accessFlags := 4161, code := some k9c1 }
/-- java/lang/StringBuilder -/
def k9 : Class := { plain "java/lang/StringBuilder" (some 6) with
  accessFlags := 49
  interfaces := #[4, 7, 8, 5]
  cf := some (fileOf pool9 24 #[] #[{ accessFlags := 1, nameIndex := 5, descriptorIndex := 145, attributes := #[] }, { accessFlags := 4161, nameIndex := 155, descriptorIndex := 156, attributes := #[] }] 49 2 #[349, 351, 353, 355] #[{ accessFlags := 24, nameIndex := 357, descriptorIndex := 358, attributes := #[] }])
  fields := #[{ name := "serialVersionUID", type := .long, accessFlags := 24, slot := 0, constantValue := 0 }]
  methods := #[k9m0, k9m1]
  instanceTypes := #[(.array .byte), .byte, .boolean, .int]
  staticTypes := #[.long]
  resolved := Array.replicate 422 none
  statics := none }

def pool10 : Array CpInfo := pool [(1, .class_ 2), (0, u "java/lang/constant/Constable"), (0, .class_ 4), (0, u "java/lang/Object")] 6

/-- java/lang/constant/Constable -/
def k10 : Class := { plain "java/lang/constant/Constable" (some 0) with
  accessFlags := 1537
  interfaces := #[]
  cf := some (fileOf pool10 1 #[] #[] 1537 3 #[] #[])
  fields := #[]
  methods := #[]
  instanceTypes := #[]
  staticTypes := #[]
  resolved := Array.replicate 11 none
  statics := none }

def pool11 : Array CpInfo := pool [(1, .class_ 2), (0, u "java/lang/constant/ConstantDesc"), (0, .class_ 4), (0, u "java/lang/Object")] 32

/-- java/lang/constant/ConstantDesc -/
def k11 : Class := { plain "java/lang/constant/ConstantDesc" (some 0) with
  accessFlags := 1537
  interfaces := #[]
  cf := some (fileOf pool11 1 #[] #[] 1537 3 #[] #[])
  fields := #[]
  methods := #[]
  instanceTypes := #[]
  staticTypes := #[]
  resolved := Array.replicate 37 none
  statics := none }

def pool12 : Array CpInfo := pool [(2, .class_ 4), (1, u "java/lang/Object"), (0, u "<init>"), (0, u "()V"), (3, .class_ 12), (1, u "java/lang/String"), (0, u "value"), (0, u "[B"), (2, u "coder"), (0, u "B"), (2, u "hash"), (0, u "I"), (2, u "hashIsZero"), (0, u "Z"), (13, u "COMPACT_STRINGS"), (534, .class_ 576), (0, u "java/lang/CharSequence"), (22, u "CASE_INSENSITIVE_ORDER"), (0, u "Ljava/util/Comparator;"), (500, u "serialPersistentFields"), (0, u "[Ljava/io/ObjectStreamField;"), (0, .class_ 1104), (0, u "java/lang/String$CaseInsensitiveComparator"), (1, .class_ 1107), (0, u "java/io/Serializable"), (0, .class_ 1109), (0, u "java/lang/Comparable"), (0, .class_ 1111), (0, u "java/lang/constant/Constable"), (0, .class_ 1113), (0, u "java/lang/constant/ConstantDesc"), (2, u "serialVersionUID"), (0, u "J"), (3, u "REPL"), (0, u "C"), (2, u "LATIN1"), (1, u "UTF16")] 323

def k12m0 : Method := { name := "<init>", desc := "()V", sig := { parameters := [], returnType := none }, accessFlags := 1, code := none }
/-- java/lang/String -/
def k12 : Class := { plain "java/lang/String" (some 0) with
  accessFlags := 49
  interfaces := #[7, 8, 5, 10, 11]
  cf := some (fileOf pool12 10 #[.nestMembers #[1103]] #[{ accessFlags := 1, nameIndex := 5, descriptorIndex := 6, attributes := #[] }] 49 2 #[1106, 1108, 575, 1110, 1112] #[{ accessFlags := 18, nameIndex := 13, descriptorIndex := 14, attributes := #[] }, { accessFlags := 18, nameIndex := 17, descriptorIndex := 18, attributes := #[] }, { accessFlags := 2, nameIndex := 21, descriptorIndex := 22, attributes := #[] }, { accessFlags := 2, nameIndex := 25, descriptorIndex := 26, attributes := #[] }, { accessFlags := 26, nameIndex := 1116, descriptorIndex := 1117, attributes := #[] }, { accessFlags := 24, nameIndex := 40, descriptorIndex := 26, attributes := #[] }, { accessFlags := 26, nameIndex := 1101, descriptorIndex := 1102, attributes := #[] }, { accessFlags := 26, nameIndex := 1121, descriptorIndex := 1122, attributes := #[] }, { accessFlags := 25, nameIndex := 599, descriptorIndex := 600, attributes := #[] }, { accessFlags := 24, nameIndex := 1125, descriptorIndex := 18, attributes := #[] }, { accessFlags := 24, nameIndex := 1127, descriptorIndex := 18, attributes := #[] }])
  fields := #[{ name := "value", type := (.array .byte), accessFlags := 18, slot := 0, constantValue := 0 }, { name := "coder", type := .byte, accessFlags := 18, slot := 1, constantValue := 0 }, { name := "hash", type := .int, accessFlags := 2, slot := 2, constantValue := 0 }, { name := "hashIsZero", type := .boolean, accessFlags := 2, slot := 3, constantValue := 0 }, { name := "serialVersionUID", type := .long, accessFlags := 26, slot := 0, constantValue := 0 }, { name := "COMPACT_STRINGS", type := .boolean, accessFlags := 24, slot := 1, constantValue := 0 }, { name := "serialPersistentFields", type := (.array (.object "java/io/ObjectStreamField")), accessFlags := 26, slot := 2, constantValue := 0 }, { name := "REPL", type := .char, accessFlags := 26, slot := 3, constantValue := 0 }, { name := "CASE_INSENSITIVE_ORDER", type := (.object "java/util/Comparator"), accessFlags := 25, slot := 4, constantValue := 0 }, { name := "LATIN1", type := .byte, accessFlags := 24, slot := 5, constantValue := 0 }, { name := "UTF16", type := .byte, accessFlags := 24, slot := 6, constantValue := 0 }]
  methods := #[k12m0]
  instanceTypes := #[(.array .byte), .byte, .int, .boolean]
  staticTypes := #[.long, .boolean, (.array (.object "java/io/ObjectStreamField")), .char, (.object "java/util/Comparator"), .byte, .byte]
  resolved := Array.replicate 1451 none
  statics := some 0 }

def pool13 : Array CpInfo := pool [(8, .class_ 10), (1, u "java/lang/Iterable"), (24, .class_ 36), (0, u "java/lang/Object")] 25

/-- java/lang/Iterable -/
def k13 : Class := { plain "java/lang/Iterable" (some 0) with
  accessFlags := 1537
  interfaces := #[]
  cf := some (fileOf pool13 8 #[] #[] 1537 35 #[] #[])
  fields := #[]
  methods := #[]
  instanceTypes := #[]
  staticTypes := #[]
  resolved := Array.replicate 62 none
  statics := none }

def pool14 : Array CpInfo := pool [(10, .class_ 12), (1, u "java/util/Collection"), (47, .class_ 61), (0, u "java/lang/Object"), (0, .class_ 63), (0, u "java/lang/Iterable")] 51

/-- java/util/Collection -/
def k14 : Class := { plain "java/util/Collection" (some 0) with
  accessFlags := 1537
  interfaces := #[13]
  cf := some (fileOf pool14 10 #[] #[] 1537 60 #[62] #[])
  fields := #[]
  methods := #[]
  instanceTypes := #[]
  staticTypes := #[]
  resolved := Array.replicate 115 none
  statics := none }

def pool15 : Array CpInfo := pool [(1, .methodref 2 3), (0, .class_ 4), (0, .nameAndType 5 6), (0, u "java/lang/Object"), (0, u "<init>"), (0, u "()V"), (1, .class_ 10), (1, u "java/util/AbstractCollection"), (66, .class_ 78), (0, u "java/util/Collection")] 81

def k15c0 : Code := { maxStack := 1, maxLocals := 1, code := jdk_22_method_1_code, exceptionTable := #[], attributes := #[] }
def k15m0 : Method := { name := "<init>", desc := "()V", sig := { parameters := [], returnType := none }, accessFlags := 4, code := some k15c0 }
/-- java/util/AbstractCollection -/
def k15 : Class := { plain "java/util/AbstractCollection" (some 0) with
  accessFlags := 1057
  interfaces := #[14]
  cf := some (fileOf pool15 8 #[] #[{ accessFlags := 4, nameIndex := 5, descriptorIndex := 6, attributes := #[] }] 1057 2 #[77] #[])
  fields := #[]
  methods := #[k15m0]
  instanceTypes := #[]
  staticTypes := #[]
  resolved := Array.replicate 160 none
  statics := none }

def pool16 : Array CpInfo := pool [(8, .class_ 10), (1, u "java/util/SequencedCollection"), (15, .class_ 27), (0, u "java/lang/Object"), (0, .class_ 29), (0, u "java/util/Collection")] 27

/-- java/util/SequencedCollection -/
def k16 : Class := { plain "java/util/SequencedCollection" (some 0) with
  accessFlags := 1537
  interfaces := #[14]
  cf := some (fileOf pool16 8 #[] #[] 1537 26 #[28] #[])
  fields := #[]
  methods := #[]
  instanceTypes := #[]
  staticTypes := #[]
  resolved := Array.replicate 57 none
  statics := none }

def pool17 : Array CpInfo := pool [(8, .class_ 10), (1, u "java/util/List"), (68, u "size"), (0, u "()I"), (22, .class_ 104), (0, u "java/lang/Object"), (15, .class_ 121), (0, u "java/util/SequencedCollection")] 129

def k17m0 : Method := { name := "size", desc := "()I", sig := { parameters := [], returnType := some .int }, accessFlags := 1025, code := none }
/-- java/util/List -/
def k17 : Class := { plain "java/util/List" (some 0) with
  accessFlags := 1537
  interfaces := #[16]
  cf := some (fileOf pool17 8 #[] #[{ accessFlags := 1025, nameIndex := 79, descriptorIndex := 80, attributes := #[] }] 1537 103 #[120] #[])
  fields := #[]
  methods := #[k17m0]
  instanceTypes := #[]
  staticTypes := #[]
  resolved := Array.replicate 251 none
  statics := none }

def pool18 : Array CpInfo := pool [(1, .methodref 2 3), (0, .class_ 4), (0, .nameAndType 5 6), (0, u "java/util/AbstractCollection"), (0, u "<init>"), (0, u "()V"), (0, .fieldref 8 9), (0, .class_ 10), (0, .nameAndType 11 12), (0, u "java/util/AbstractList"), (0, u "modCount"), (0, u "I"), (64, .class_ 78), (0, u "java/util/AbstractList$Itr"), (3, .class_ 83), (0, u "java/util/AbstractList$ListItr"), (9, .class_ 94), (0, u "java/util/AbstractList$RandomAccessSubList"), (3, .class_ 99), (0, u "java/util/AbstractList$SubList"), (33, .class_ 134), (0, u "java/util/List"), (73, .class_ 209), (0, u "java/util/AbstractList$SubList$1"), (0, .class_ 211), (0, u "java/util/AbstractList$RandomAccessSpliterator")] 6

def k18c0 : Code := { maxStack := 2, maxLocals := 1, code := jdk_39_method_1_code, exceptionTable := #[], attributes := #[] }
def k18m0 : Method := { name := "<init>", desc := "()V", sig := { parameters := [], returnType := none }, accessFlags := 4, code := some k18c0 }
/-- java/util/AbstractList -/
def k18 : Class := { plain "java/util/AbstractList" (some 15) with
  accessFlags := 1057
  interfaces := #[17]
  cf := some (fileOf pool18 8 #[.nestMembers #[93, 98, 208, 210, 82, 77]] #[{ accessFlags := 4, nameIndex := 5, descriptorIndex := 6, attributes := #[] }] 1057 2 #[133] #[{ accessFlags := 132, nameIndex := 11, descriptorIndex := 12, attributes := #[] }])
  fields := #[{ name := "modCount", type := .int, accessFlags := 132, slot := 0, constantValue := 0 }]
  methods := #[k18m0]
  instanceTypes := #[.int]
  staticTypes := #[]
  resolved := Array.replicate 218 none
  statics := none }

def pool19 : Array CpInfo := pool [(1, .class_ 2), (0, u "java/util/RandomAccess"), (0, .class_ 4), (0, u "java/lang/Object")] 2

/-- java/util/RandomAccess -/
def k19 : Class := { plain "java/util/RandomAccess" (some 0) with
  accessFlags := 1537
  interfaces := #[]
  cf := some (fileOf pool19 1 #[] #[] 1537 3 #[] #[])
  fields := #[]
  methods := #[]
  instanceTypes := #[]
  staticTypes := #[]
  resolved := Array.replicate 7 none
  statics := none }

def pool20 : Array CpInfo := pool [(1, .class_ 2), (0, u "java/lang/Cloneable"), (0, .class_ 4), (0, u "java/lang/Object")] 2

/-- java/lang/Cloneable -/
def k20 : Class := { plain "java/lang/Cloneable" (some 0) with
  accessFlags := 1537
  interfaces := #[]
  cf := some (fileOf pool20 1 #[] #[] 1537 3 #[] #[])
  fields := #[]
  methods := #[]
  instanceTypes := #[]
  staticTypes := #[]
  resolved := Array.replicate 7 none
  statics := none }

def pool21 : Array CpInfo := pool [(1, .methodref 2 3), (0, .class_ 4), (0, .nameAndType 5 6), (0, u "java/util/AbstractList"), (0, u "<init>"), (0, u "()V"), (2, .fieldref 10 11), (0, .class_ 12), (0, .nameAndType 13 14), (0, u "java/util/ArrayList"), (0, u "elementData"), (0, u "[Ljava/lang/Object;"), (2, u "EMPTY_ELEMENTDATA"), (21, .fieldref 10 40), (0, .nameAndType 41 14), (0, u "DEFAULTCAPACITY_EMPTY_ELEMENTDATA"), (6, .fieldref 10 49), (0, .nameAndType 50 51), (0, u "size"), (0, u "I"), (96, .class_ 149), (0, u "java/util/List"), (36, u "()I"), (75, .class_ 263), (0, u "java/util/ArrayList$ListItr"), (3, .class_ 268), (0, u "java/util/ArrayList$Itr"), (7, .class_ 277), (0, u "java/util/ArrayList$SubList"), (12, .class_ 291), (0, u "java/util/ArrayList$ArrayListSpliterator"), (37, .class_ 330), (0, u "java/util/RandomAccess"), (0, .class_ 332), (0, u "java/lang/Cloneable"), (0, .class_ 334), (0, u "java/io/Serializable"), (0, u "serialVersionUID"), (0, u "J"), (3, u "DEFAULT_CAPACITY"), (159, .class_ 501), (0, u "java/util/ArrayList$SubList$2"), (0, .class_ 503), (0, u "java/util/ArrayList$SubList$1")] 5

def k21c0 : Code := { maxStack := 2, maxLocals := 1, code := jdk_38_method_2_code, exceptionTable := #[], attributes := #[] }
def k21m0 : Method := { name := "<init>", desc := "()V", sig := { parameters := [], returnType := none }, accessFlags := 1, code := some k21c0 }
def k21c1 : Code := { maxStack := 1, maxLocals := 1, code := jdk_38_method_8_code, exceptionTable := #[], attributes := #[] }
def k21m1 : Method := { name := "size", desc := "()I", sig := { parameters := [], returnType := some .int }, accessFlags := 1, code := some k21c1 }
/-- java/util/ArrayList -/
def k21 : Class := { plain "java/util/ArrayList" (some 18) with
  accessFlags := 33
  interfaces := #[17, 19, 20, 7]
  cf := some (fileOf pool21 10 #[.nestMembers #[290, 276, 500, 502, 262, 267]] #[{ accessFlags := 1, nameIndex := 5, descriptorIndex := 6, attributes := #[] }, { accessFlags := 1, nameIndex := 50, descriptorIndex := 186, attributes := #[] }] 33 2 #[148, 329, 331, 333] #[{ accessFlags := 26, nameIndex := 335, descriptorIndex := 336, attributes := #[] }, { accessFlags := 26, nameIndex := 340, descriptorIndex := 51, attributes := #[] }, { accessFlags := 26, nameIndex := 17, descriptorIndex := 14, attributes := #[] }, { accessFlags := 26, nameIndex := 41, descriptorIndex := 14, attributes := #[] }, { accessFlags := 128, nameIndex := 13, descriptorIndex := 14, attributes := #[] }, { accessFlags := 2, nameIndex := 50, descriptorIndex := 51, attributes := #[] }])
  fields := #[{ name := "serialVersionUID", type := .long, accessFlags := 26, slot := 0, constantValue := 0 }, { name := "DEFAULT_CAPACITY", type := .int, accessFlags := 26, slot := 1, constantValue := 0 }, { name := "EMPTY_ELEMENTDATA", type := (.array (.object "java/lang/Object")), accessFlags := 26, slot := 2, constantValue := 0 }, { name := "DEFAULTCAPACITY_EMPTY_ELEMENTDATA", type := (.array (.object "java/lang/Object")), accessFlags := 26, slot := 3, constantValue := 0 }, { name := "elementData", type := (.array (.object "java/lang/Object")), accessFlags := 128, slot := 1, constantValue := 0 }, { name := "size", type := .int, accessFlags := 2, slot := 2, constantValue := 0 }]
  methods := #[k21m0, k21m1]
  instanceTypes := #[.int, (.array (.object "java/lang/Object")), .int]
  staticTypes := #[.long, .int, (.array (.object "java/lang/Object")), (.array (.object "java/lang/Object"))]
  resolved := Array.replicate 509 none
  statics := some 1 }

def pool22 : Array CpInfo := pool [(2, .class_ 4), (1, u "java/util/Map"), (31, .class_ 37), (0, u "java/util/Map$Entry"), (55, .class_ 94), (0, u "java/lang/Object")] 168

/-- java/util/Map -/
def k22 : Class := { plain "java/util/Map" (some 0) with
  accessFlags := 1537
  interfaces := #[]
  cf := some (fileOf pool22 2 #[.nestMembers #[36]] #[] 1537 93 #[] #[])
  fields := #[]
  methods := #[]
  instanceTypes := #[]
  staticTypes := #[]
  resolved := Array.replicate 263 none
  statics := none }

def pool23 : Array CpInfo := pool [(1, .methodref 2 3), (0, .class_ 4), (0, .nameAndType 5 6), (0, u "java/lang/Object"), (0, u "<init>"), (0, u "()V"), (1, .class_ 10), (1, u "java/util/AbstractMap"), (42, .class_ 54), (0, u "java/util/Map"), (9, u "keySet"), (0, u "Ljava/util/Set;"), (0, .class_ 67), (0, u "java/util/AbstractMap$1"), (5, u "values"), (0, u "Ljava/util/Collection;"), (0, .class_ 76), (0, u "java/util/AbstractMap$2"), (104, .class_ 182), (0, u "java/util/AbstractMap$ViewCollection"), (0, .class_ 184), (0, u "java/util/AbstractMap$SimpleImmutableEntry"), (0, .class_ 186), (0, u "java/util/AbstractMap$SimpleEntry"), (0, .class_ 188), (0, u "java/util/AbstractMap$2$1"), (0, .class_ 190), (0, u "java/util/AbstractMap$1$1")] 5

def k23c0 : Code := { maxStack := 1, maxLocals := 1, code := jdk_71_method_1_code, exceptionTable := #[], attributes := #[] }
def k23m0 : Method := { name := "<init>", desc := "()V", sig := { parameters := [], returnType := none }, accessFlags := 4, code := some k23c0 }
/-- java/util/AbstractMap -/
def k23 : Class := { plain "java/util/AbstractMap" (some 0) with
  accessFlags := 1057
  interfaces := #[22]
  cf := some (fileOf pool23 8 #[.nestMembers #[181, 183, 185, 75, 187, 66, 189]] #[{ accessFlags := 4, nameIndex := 5, descriptorIndex := 6, attributes := #[] }] 1057 2 #[53] #[{ accessFlags := 128, nameIndex := 64, descriptorIndex := 65, attributes := #[] }, { accessFlags := 128, nameIndex := 73, descriptorIndex := 74, attributes := #[] }])
  fields := #[{ name := "keySet", type := (.object "java/util/Set"), accessFlags := 128, slot := 0, constantValue := 0 }, { name := "values", type := (.object "java/util/Collection"), accessFlags := 128, slot := 1, constantValue := 0 }]
  methods := #[k23m0]
  instanceTypes := #[(.object "java/util/Set"), (.object "java/util/Collection")]
  staticTypes := #[]
  resolved := Array.replicate 196 none
  statics := none }

def pool24 : Array CpInfo := pool [(40, .class_ 41), (0, u "java/util/HashMap"), (1, .methodref 44 45), (0, .class_ 46), (0, .nameAndType 47 48), (0, u "java/util/AbstractMap"), (0, u "<init>"), (0, u "()V"), (32, .fieldref 40 82), (0, .nameAndType 83 84), (0, u "loadFactor"), (0, u "F"), (5, u "threshold"), (0, u "I"), (0, .float 1061158912), (8, .class_ 103), (1, u "java/util/Map"), (0, u "size"), (2, u "table"), (0, u "[Ljava/util/HashMap$Node;"), (14, u "entrySet"), (39, .class_ 165), (1, u "java/util/HashMap$Node"), (14, .class_ 181), (0, u "java/util/HashMap$TreeNode"), (22, u "modCount"), (37, u "Ljava/util/Set;"), (0, .class_ 244), (0, u "java/util/HashMap$KeySet"), (18, .class_ 264), (0, u "java/util/HashMap$Values"), (3, .class_ 269), (0, u "java/util/HashMap$EntrySet"), (76, .class_ 348), (1, u "java/util/HashMap$UnsafeHolder"), (43, .class_ 393), (0, u "java/lang/Cloneable"), (0, .class_ 395), (0, u "java/io/Serializable"), (0, u "serialVersionUID"), (0, u "J"), (3, u "DEFAULT_INITIAL_CAPACITY"), (1, u "MAXIMUM_CAPACITY"), (0, u "DEFAULT_LOAD_FACTOR"), (0, u "TREEIFY_THRESHOLD"), (1, u "UNTREEIFY_THRESHOLD"), (1, u "MIN_TREEIFY_CAPACITY"), (186, .class_ 597), (0, u "java/util/HashMap$EntrySpliterator"), (0, .class_ 599), (0, u "java/util/HashMap$ValueSpliterator"), (0, .class_ 601), (0, u "java/util/HashMap$KeySpliterator"), (0, .class_ 603), (0, u "java/util/HashMap$HashMapSpliterator"), (0, .class_ 605), (0, u "java/util/HashMap$EntryIterator"), (0, .class_ 607), (0, u "java/util/HashMap$ValueIterator"), (0, .class_ 609), (0, u "java/util/HashMap$KeyIterator"), (0, .class_ 611), (0, u "java/util/HashMap$HashIterator")] 17

def k24c0 : Code := { maxStack := 2, maxLocals := 1, code := jdk_69_method_7_code, exceptionTable := #[], attributes := #[] }
def k24m0 : Method := { name := "<init>", desc := "()V", sig := { parameters := [], returnType := none }, accessFlags := 1, code := some k24c0 }
/-- java/util/HashMap -/
def k24 : Class := { plain "java/util/HashMap" (some 23) with
  accessFlags := 33
  interfaces := #[22, 20, 7]
  cf := some (fileOf pool24 40 #[.nestMembers #[180, 596, 598, 600, 602, 604, 606, 608, 610, 346, 268, 263, 243, 163]] #[{ accessFlags := 1, nameIndex := 47, descriptorIndex := 48, attributes := #[] }] 33 44 #[101, 392, 394] #[{ accessFlags := 26, nameIndex := 396, descriptorIndex := 397, attributes := #[] }, { accessFlags := 24, nameIndex := 401, descriptorIndex := 91, attributes := #[] }, { accessFlags := 24, nameIndex := 403, descriptorIndex := 91, attributes := #[] }, { accessFlags := 24, nameIndex := 404, descriptorIndex := 84, attributes := #[] }, { accessFlags := 24, nameIndex := 405, descriptorIndex := 91, attributes := #[] }, { accessFlags := 24, nameIndex := 407, descriptorIndex := 91, attributes := #[] }, { accessFlags := 24, nameIndex := 409, descriptorIndex := 91, attributes := #[] }, { accessFlags := 128, nameIndex := 107, descriptorIndex := 108, attributes := #[] }, { accessFlags := 128, nameIndex := 123, descriptorIndex := 242, attributes := #[] }, { accessFlags := 128, nameIndex := 104, descriptorIndex := 91, attributes := #[] }, { accessFlags := 128, nameIndex := 204, descriptorIndex := 91, attributes := #[] }, { accessFlags := 0, nameIndex := 90, descriptorIndex := 91, attributes := #[] }, { accessFlags := 16, nameIndex := 83, descriptorIndex := 84, attributes := #[] }])
  fields := #[{ name := "serialVersionUID", type := .long, accessFlags := 26, slot := 0, constantValue := 0 }, { name := "DEFAULT_INITIAL_CAPACITY", type := .int, accessFlags := 24, slot := 1, constantValue := 0 }, { name := "MAXIMUM_CAPACITY", type := .int, accessFlags := 24, slot := 2, constantValue := 0 }, { name := "DEFAULT_LOAD_FACTOR", type := .float, accessFlags := 24, slot := 3, constantValue := 0 }, { name := "TREEIFY_THRESHOLD", type := .int, accessFlags := 24, slot := 4, constantValue := 0 }, { name := "UNTREEIFY_THRESHOLD", type := .int, accessFlags := 24, slot := 5, constantValue := 0 }, { name := "MIN_TREEIFY_CAPACITY", type := .int, accessFlags := 24, slot := 6, constantValue := 0 }, { name := "table", type := (.array (.object "java/util/HashMap$Node")), accessFlags := 128, slot := 2, constantValue := 0 }, { name := "entrySet", type := (.object "java/util/Set"), accessFlags := 128, slot := 3, constantValue := 0 }, { name := "size", type := .int, accessFlags := 128, slot := 4, constantValue := 0 }, { name := "modCount", type := .int, accessFlags := 128, slot := 5, constantValue := 0 }, { name := "threshold", type := .int, accessFlags := 0, slot := 6, constantValue := 0 }, { name := "loadFactor", type := .float, accessFlags := 16, slot := 7, constantValue := 0 }]
  methods := #[k24m0]
  instanceTypes := #[(.object "java/util/Set"), (.object "java/util/Collection"), (.array (.object "java/util/HashMap$Node")), (.object "java/util/Set"), .int, .int, .int, .float]
  staticTypes := #[.long, .int, .int, .float, .int, .int, .int]
  resolved := Array.replicate 629 none
  statics := none }

def pool25 : Array CpInfo := pool [(4, .class_ 6), (1, u "java/lang/Object"), (0, u "<init>"), (0, u "()V"), (5, .class_ 16), (1, u "java/lang/StringLatin1"), (104, u "$assertionsDisabled"), (0, u "Z"), (98, .class_ 223), (1, u "java/lang/StringLatin1$LinesSpliterator"), (166, .class_ 391), (0, u "java/lang/StringLatin1$CharsSpliterator")] 3

def k25m0 : Method := { name := "<init>", desc := "()V", sig := { parameters := [], returnType := none }, accessFlags := 0, code := none }
/-- java/lang/StringLatin1 -/
def k25 : Class := { plain "java/lang/StringLatin1" (some 0) with
  accessFlags := 48
  interfaces := #[]
  cf := some (fileOf pool25 14 #[.nestMembers #[390, 221]] #[{ accessFlags := 0, nameIndex := 7, descriptorIndex := 8, attributes := #[] }] 48 4 #[] #[{ accessFlags := 4120, nameIndex := 121, descriptorIndex := 122, attributes := #[] }])
  fields := #[{ name := "$assertionsDisabled", type := .boolean, accessFlags := 4120, slot := 0, constantValue := 0 }]
  methods := #[k25m0]
  instanceTypes := #[]
  staticTypes := #[.boolean]
  resolved := Array.replicate 395 none
  statics := none }

def pool26 : Array CpInfo := pool [(2, .class_ 4), (1, u "java/lang/Object"), (0, u "<init>"), (0, u "()V"), (17, .class_ 26), (1, u "jdk/internal/util/Preconditions"), (28, .class_ 56), (0, u "jdk/internal/util/Preconditions$4"), (57, .class_ 115), (0, u "jdk/internal/util/Preconditions$1"), (7, u "SIOOBE_FORMATTER"), (0, u "Ljava/util/function/BiFunction;"), (0, .class_ 126), (0, u "jdk/internal/util/Preconditions$2"), (3, u "AIOOBE_FORMATTER"), (0, .class_ 132), (0, u "jdk/internal/util/Preconditions$3"), (3, u "IOOBE_FORMATTER")] 57

def k26m0 : Method := { name := "<init>", desc := "()V", sig := { parameters := [], returnType := none }, accessFlags := 1, code := none }
/-- jdk/internal/util/Preconditions -/
def k26 : Class := { plain "jdk/internal/util/Preconditions" (some 0) with
  accessFlags := 33
  interfaces := #[]
  cf := some (fileOf pool26 24 #[.nestMembers #[55, 131, 125, 114]] #[{ accessFlags := 1, nameIndex := 5, descriptorIndex := 6, attributes := #[] }] 33 2 #[] #[{ accessFlags := 25, nameIndex := 123, descriptorIndex := 124, attributes := #[] }, { accessFlags := 25, nameIndex := 130, descriptorIndex := 124, attributes := #[] }, { accessFlags := 25, nameIndex := 136, descriptorIndex := 124, attributes := #[] }])
  fields := #[{ name := "SIOOBE_FORMATTER", type := (.object "java/util/function/BiFunction"), accessFlags := 25, slot := 0, constantValue := 0 }, { name := "AIOOBE_FORMATTER", type := (.object "java/util/function/BiFunction"), accessFlags := 25, slot := 1, constantValue := 0 }, { name := "IOOBE_FORMATTER", type := (.object "java/util/function/BiFunction"), accessFlags := 25, slot := 2, constantValue := 0 }]
  methods := #[k26m0]
  instanceTypes := #[]
  staticTypes := #[(.object "java/util/function/BiFunction"), (.object "java/util/function/BiFunction"), (.object "java/util/function/BiFunction")]
  resolved := Array.replicate 194 none
  statics := some 2 }

def pool27 : Array CpInfo := pool [(9, u "<init>"), (6, .class_ 18), (1, u "java/lang/Object"), (0, u "()V"), (1, .class_ 23), (1, u "jdk/internal/util/ArraysSupport"), (0, u "LOG2_ARRAY_LONG_INDEX_SCALE"), (0, u "I"), (2, u "U"), (0, u "Ljdk/internal/misc/Unsafe;"), (8, u "BIG_ENDIAN"), (0, u "Z"), (8, u "LOG2_BYTE_BIT_SIZE"), (4, u "LOG2_ARRAY_INT_INDEX_SCALE"), (54, u "JLA"), (0, u "Ljdk/internal/access/JavaLangAccess;"), (11, u "LOG2_ARRAY_BOOLEAN_INDEX_SCALE"), (9, u "LOG2_ARRAY_BYTE_INDEX_SCALE"), (5, u "LOG2_ARRAY_CHAR_INDEX_SCALE"), (5, u "LOG2_ARRAY_SHORT_INDEX_SCALE"), (18, u "LOG2_ARRAY_FLOAT_INDEX_SCALE"), (24, u "LOG2_ARRAY_DOUBLE_INDEX_SCALE"), (89, u "T_BOOLEAN"), (2, u "T_CHAR"), (1, u "T_FLOAT"), (1, u "T_DOUBLE"), (1, u "T_BYTE"), (1, u "T_SHORT"), (1, u "T_INT"), (1, u "T_LONG"), (1, u "SOFT_MAX_ARRAY_LENGTH")] 83

def k27m0 : Method := { name := "<init>", desc := "()V", sig := { parameters := [], returnType := none }, accessFlags := 2, code := none }
/-- jdk/internal/util/ArraysSupport -/
def k27 : Class := { plain "jdk/internal/util/ArraysSupport" (some 0) with
  accessFlags := 33
  interfaces := #[]
  cf := some (fileOf pool27 21 #[] #[{ accessFlags := 2, nameIndex := 9, descriptorIndex := 19, attributes := #[] }] 33 16 #[] #[{ accessFlags := 24, nameIndex := 28, descriptorIndex := 29, attributes := #[] }, { accessFlags := 26, nameIndex := 38, descriptorIndex := 39, attributes := #[] }, { accessFlags := 25, nameIndex := 121, descriptorIndex := 25, attributes := #[] }, { accessFlags := 25, nameIndex := 131, descriptorIndex := 25, attributes := #[] }, { accessFlags := 25, nameIndex := 137, descriptorIndex := 25, attributes := #[] }, { accessFlags := 25, nameIndex := 143, descriptorIndex := 25, attributes := #[] }, { accessFlags := 25, nameIndex := 53, descriptorIndex := 25, attributes := #[] }, { accessFlags := 25, nameIndex := 24, descriptorIndex := 25, attributes := #[] }, { accessFlags := 25, nameIndex := 162, descriptorIndex := 25, attributes := #[] }, { accessFlags := 25, nameIndex := 187, descriptorIndex := 25, attributes := #[] }, { accessFlags := 26, nameIndex := 48, descriptorIndex := 25, attributes := #[] }, { accessFlags := 25, nameIndex := 277, descriptorIndex := 25, attributes := #[] }, { accessFlags := 25, nameIndex := 280, descriptorIndex := 25, attributes := #[] }, { accessFlags := 25, nameIndex := 282, descriptorIndex := 25, attributes := #[] }, { accessFlags := 25, nameIndex := 284, descriptorIndex := 25, attributes := #[] }, { accessFlags := 25, nameIndex := 286, descriptorIndex := 25, attributes := #[] }, { accessFlags := 25, nameIndex := 288, descriptorIndex := 25, attributes := #[] }, { accessFlags := 25, nameIndex := 290, descriptorIndex := 25, attributes := #[] }, { accessFlags := 25, nameIndex := 292, descriptorIndex := 25, attributes := #[] }, { accessFlags := 26, nameIndex := 108, descriptorIndex := 109, attributes := #[] }, { accessFlags := 25, nameIndex := 294, descriptorIndex := 25, attributes := #[] }])
  fields := #[{ name := "U", type := (.object "jdk/internal/misc/Unsafe"), accessFlags := 24, slot := 0, constantValue := 0 }, { name := "BIG_ENDIAN", type := .boolean, accessFlags := 26, slot := 1, constantValue := 0 }, { name := "LOG2_ARRAY_BOOLEAN_INDEX_SCALE", type := .int, accessFlags := 25, slot := 2, constantValue := 0 }, { name := "LOG2_ARRAY_BYTE_INDEX_SCALE", type := .int, accessFlags := 25, slot := 3, constantValue := 0 }, { name := "LOG2_ARRAY_CHAR_INDEX_SCALE", type := .int, accessFlags := 25, slot := 4, constantValue := 0 }, { name := "LOG2_ARRAY_SHORT_INDEX_SCALE", type := .int, accessFlags := 25, slot := 5, constantValue := 0 }, { name := "LOG2_ARRAY_INT_INDEX_SCALE", type := .int, accessFlags := 25, slot := 6, constantValue := 0 }, { name := "LOG2_ARRAY_LONG_INDEX_SCALE", type := .int, accessFlags := 25, slot := 7, constantValue := 0 }, { name := "LOG2_ARRAY_FLOAT_INDEX_SCALE", type := .int, accessFlags := 25, slot := 8, constantValue := 0 }, { name := "LOG2_ARRAY_DOUBLE_INDEX_SCALE", type := .int, accessFlags := 25, slot := 9, constantValue := 0 }, { name := "LOG2_BYTE_BIT_SIZE", type := .int, accessFlags := 26, slot := 10, constantValue := 0 }, { name := "T_BOOLEAN", type := .int, accessFlags := 25, slot := 11, constantValue := 0 }, { name := "T_CHAR", type := .int, accessFlags := 25, slot := 12, constantValue := 0 }, { name := "T_FLOAT", type := .int, accessFlags := 25, slot := 13, constantValue := 0 }, { name := "T_DOUBLE", type := .int, accessFlags := 25, slot := 14, constantValue := 0 }, { name := "T_BYTE", type := .int, accessFlags := 25, slot := 15, constantValue := 0 }, { name := "T_SHORT", type := .int, accessFlags := 25, slot := 16, constantValue := 0 }, { name := "T_INT", type := .int, accessFlags := 25, slot := 17, constantValue := 0 }, { name := "T_LONG", type := .int, accessFlags := 25, slot := 18, constantValue := 0 }, { name := "JLA", type := (.object "jdk/internal/access/JavaLangAccess"), accessFlags := 26, slot := 19, constantValue := 0 }, { name := "SOFT_MAX_ARRAY_LENGTH", type := .int, accessFlags := 25, slot := 20, constantValue := 0 }]
  methods := #[k27m0]
  instanceTypes := #[]
  staticTypes := #[(.object "jdk/internal/misc/Unsafe"), .boolean, .int, .int, .int, .int, .int, .int, .int, .int, .int, .int, .int, .int, .int, .int, .int, .int, .int, (.object "jdk/internal/access/JavaLangAccess"), .int]
  resolved := Array.replicate 378 none
  statics := none }

/-- the primitive byte -/
def k28 : Class := { plain "byte" none with kind := .primitive 'B', accessFlags := 0x411 }
/-- [B -/
def k29 : Class := { plain "[B" (some 0) with kind := .array 28 .byte, interfaces := #[20, 7], accessFlags := 1041 }

/-- the primitive int -/
def k30 : Class := { plain "int" none with kind := .primitive 'I', accessFlags := 0x411 }
/-- [I -/
def k31 : Class := { plain "[I" (some 0) with kind := .array 30 .int, interfaces := #[20, 7], accessFlags := 1041 }

/-- [Ljava/lang/Object; -/
def k32 : Class := { plain "[Ljava/lang/Object;" (some 0) with kind := .array 0 (.object "java/lang/Object"), interfaces := #[20, 7], accessFlags := 1041 }

/-- [[I -/
def k33 : Class := { plain "[[I" (some 0) with kind := .array 31 (.array .int), interfaces := #[20, 7], accessFlags := 1041 }

def heap : Heap := #[{ cls := 12, slots := #[.long 0, .int 1, .null, .int 0, .null, .int 0, .int 0], vm := .statics 12 },
  { cls := 21, slots := #[.long 0, .int 0, .ref 3, .ref 4], vm := .statics 21 },
  { cls := 26, slots := #[.null, .null, .null], vm := .statics 26 },
  { cls := 32, slots := #[], vm := .none },
  { cls := 32, slots := #[], vm := .none }]
def classes : Array Class := #[k0, k1, k2, k3, k4, k5, k6, k7, k8, k9, k10, k11, k12, k13, k14, k15, k16, k17, k18, k19, k20, k21, k22, k23, k24, k25, k26, k27, k28, k29, k30, k31, k32, k33]
def interned : List (Array UInt16 × Addr) := []
def slotsUsed : Nat := 14
def theMethod : MethodId := ⟨1, 1⟩
def args0 : Array Value := #[.long 5, .long 5, .long 5, .int 5]
def aboutOver (below : List Frame) : State where
  vm := { classes := classes, interned := interned.toArray }
  heap := heap
  slotsUsed := slotsUsed
  threads := #[{ frames := .invoking theMethod args0 :: below }]
def below0 : List Frame := [.native { method := ⟨0, 0⟩, args := #[] }]
def about1 : State := aboutOver below0
def p0 : Program := .bare "" "" ""
def e0 : Env := launch0.env 0 0 0
theorem w_frames : about1.frames = Frame.invoking theMethod args0 :: below0 := rfl
set_option maxRecDepth 65536 in
theorem w_args : argsFit about1.vm theMethod args0 = true := by decide +kernel
set_option maxRecDepth 65536 in
theorem w_heap : heapFits about1 = true := by decide +kernel
set_option maxRecDepth 65536 in
theorem w_runnable : about1.curStatus? = some .runnable := by decide +kernel
set_option maxRecDepth 65536 in
theorem w_alone : about1.alone = true := by decide +kernel
set_option maxRecDepth 65536 in
theorem w_named : about1.methodNamed? x = some theMethod := by decide +kernel
set_option maxRecDepth 65536 in
theorem w_hears : about1.hears theMethod below0 = true := by decide +kernel
set_option maxRecDepth 65536 in
theorem w_ripe : about1.ripe theMethod args0 below0 = true := by decide +kernel
theorem w_running : about1.status = .running := rfl
set_option maxRecDepth 65536 in
theorem w_room : about1.hasRoom e0.platform room_1 = true :=
  launch0.hasRoom_least _ room_1 (by decide +kernel) (by decide +kernel) (by decide +kernel) (by decide +kernel) (by decide +kernel) (by decide +kernel)
theorem allAtoms_all (ts : List Jvm.Cond) (a : Array Jvm.Value) (st : Jvm.State) : (allAtoms ts).before a st = ts.all (fun c => c.before a st) := by
  induction ts with
  | nil => rfl
  | cons c t ih =>
    show (Jvm.Cond.and c (allAtoms t)).before a st = _
    rw [Jvm.Cond.before_and, ih, List.all_cons]
def words1 : List Jvm.Cond := Jvm.Cond.code x code maxLocals ret :: tables_1
/-- a 'code' word, met by the world's own term for the bytes: nothing is compared byte by byte -/
theorem code_word {y : MethodName} {bytes : ByteArray} {mx : Nat} {rt : Option FieldType} {a : Array Value} {s : State} {m : MethodId} {meth : Method} {c : Code} (h1 : s.methodNamed? y = some m) (h2 : s.vm.method? m = some meth) (h3 : meth.code = some c) (h4 : c.code = bytes)
    (h5 : (c.maxLocals == mx && c.exceptionTable.isEmpty && decide (c.maxStack ≤ mostOperands) && decide (meth.sig.returnType = rt) && !meth.locks && decide (parseMethodDescriptor y.desc = some meth.sig)) = true) : (Jvm.Cond.code y bytes mx rt).before a s = true := by
  simp only [Bool.and_eq_true, beq_iff_eq, Bool.not_eq_true', decide_eq_true_eq] at h5
  obtain ⟨⟨⟨⟨⟨g1, g2⟩, g3⟩, g4⟩, g5⟩, g6⟩ := h5
  simp [Cond.before, Cond.holds, Cond.value, h1, h2, h3, h4, g1, g2, g3, g4, g5, g6]
def isCode : Jvm.Cond → Bool
  | .code _ _ _ _ => true
  | _ => false
theorem all_split {L : List Jvm.Cond} {P : Jvm.Cond → Bool} (h1 : L.all (fun c => isCode c || P c) = true) (h2 : ∀ c ∈ L.filter isCode, P c = true) : L.all P = true := by
  refine List.all_eq_true.mpr fun c hc => ?_
  have h := List.all_eq_true.mp h1 c hc
  rcases Bool.eq_false_or_eq_true (isCode c) with hi | hi
  · exact h2 c (List.mem_filter.mpr ⟨hc, hi⟩)
  · simpa [hi] using h
set_option maxRecDepth 65536 in
theorem w_c0 : (Jvm.Cond.code x code maxLocals ret).before args0 about1 = true := code_word (m := ⟨1, 1⟩) (meth := k1m1) (c := k1c1) (by decide +kernel) rfl rfl rfl (by decide +kernel)
set_option maxRecDepth 65536 in
theorem w_c1 : (Jvm.Cond.code ({ cls := "com/example/mycelia/mycelia/wire/MessageTree", name := "<init>", desc := "()V" } : Jvm.MethodName) prog_21_method_1_code (1 : Nat) (Option.none : Option Jvm.ClassFile.FieldType)).before args0 about1 = true := code_word (m := ⟨2, 0⟩) (meth := k2m0) (c := k2c0) (by decide +kernel) rfl rfl rfl (by decide +kernel)
set_option maxRecDepth 65536 in
theorem w_c2 : (Jvm.Cond.code ({ cls := "java/lang/Object", name := "<init>", desc := "()V" } : Jvm.MethodName) object_method_1_code (1 : Nat) (Option.none : Option Jvm.ClassFile.FieldType)).before args0 about1 = true := code_word (m := ⟨0, 0⟩) (meth := k0m0) (c := k0c0) (by decide +kernel) rfl rfl rfl (by decide +kernel)
set_option maxRecDepth 65536 in
theorem w_c3 : (Jvm.Cond.code ({ cls := "com/example/mycelia/mycelia/wire/MessageTree$IntRecords", name := "<init>", desc := "()V" } : Jvm.MethodName) prog_22_method_1_code (1 : Nat) (Option.none : Option Jvm.ClassFile.FieldType)).before args0 about1 = true := code_word (m := ⟨3, 0⟩) (meth := k3m0) (c := k3c0) (by decide +kernel) rfl rfl rfl (by decide +kernel)
set_option maxRecDepth 65536 in
theorem w_c4 : (Jvm.Cond.code ({ cls := "java/lang/StringBuilder", name := "<init>", desc := "()V" } : Jvm.MethodName) jdk_67_method_1_code (1 : Nat) (Option.none : Option Jvm.ClassFile.FieldType)).before args0 about1 = true := code_word (m := ⟨9, 0⟩) (meth := k9m0) (c := k9c0) (by decide +kernel) rfl rfl rfl (by decide +kernel)
set_option maxRecDepth 65536 in
theorem w_c5 : (Jvm.Cond.code ({ cls := "java/lang/AbstractStringBuilder", name := "<init>", desc := "(I)V" } : Jvm.MethodName) jdk_68_method_2_code (2 : Nat) (Option.none : Option Jvm.ClassFile.FieldType)).before args0 about1 = true := code_word (m := ⟨6, 1⟩) (meth := k6m1) (c := k6c1) (by decide +kernel) rfl rfl rfl (by decide +kernel)
set_option maxRecDepth 65536 in
theorem w_c6 : (Jvm.Cond.code ({ cls := "java/util/ArrayList", name := "<init>", desc := "()V" } : Jvm.MethodName) jdk_38_method_2_code (1 : Nat) (Option.none : Option Jvm.ClassFile.FieldType)).before args0 about1 = true := code_word (m := ⟨21, 0⟩) (meth := k21m0) (c := k21c0) (by decide +kernel) rfl rfl rfl (by decide +kernel)
set_option maxRecDepth 65536 in
theorem w_c7 : (Jvm.Cond.code ({ cls := "java/util/AbstractList", name := "<init>", desc := "()V" } : Jvm.MethodName) jdk_39_method_1_code (1 : Nat) (Option.none : Option Jvm.ClassFile.FieldType)).before args0 about1 = true := code_word (m := ⟨18, 0⟩) (meth := k18m0) (c := k18c0) (by decide +kernel) rfl rfl rfl (by decide +kernel)
set_option maxRecDepth 65536 in
theorem w_c8 : (Jvm.Cond.code ({ cls := "java/util/AbstractCollection", name := "<init>", desc := "()V" } : Jvm.MethodName) jdk_22_method_1_code (1 : Nat) (Option.none : Option Jvm.ClassFile.FieldType)).before args0 about1 = true := code_word (m := ⟨15, 0⟩) (meth := k15m0) (c := k15c0) (by decide +kernel) rfl rfl rfl (by decide +kernel)
set_option maxRecDepth 65536 in
theorem w_c9 : (Jvm.Cond.code ({ cls := "java/util/HashMap", name := "<init>", desc := "()V" } : Jvm.MethodName) jdk_69_method_7_code (1 : Nat) (Option.none : Option Jvm.ClassFile.FieldType)).before args0 about1 = true := code_word (m := ⟨24, 0⟩) (meth := k24m0) (c := k24c0) (by decide +kernel) rfl rfl rfl (by decide +kernel)
set_option maxRecDepth 65536 in
theorem w_c10 : (Jvm.Cond.code ({ cls := "java/util/AbstractMap", name := "<init>", desc := "()V" } : Jvm.MethodName) jdk_71_method_1_code (1 : Nat) (Option.none : Option Jvm.ClassFile.FieldType)).before args0 about1 = true := code_word (m := ⟨23, 0⟩) (meth := k23m0) (c := k23c0) (by decide +kernel) rfl rfl rfl (by decide +kernel)
set_option maxRecDepth 65536 in
theorem w_c11 : (Jvm.Cond.code ({ cls := "com/example/mycelia/mycelia/wire/MessageTree$IntRecords", name := "add", desc := "(IIII)I" } : Jvm.MethodName) prog_22_method_2_code (9 : Nat) (Option.some Jvm.ClassFile.FieldType.int)).before args0 about1 = true := code_word (m := ⟨3, 1⟩) (meth := k3m1) (c := k3c1) (by decide +kernel) rfl rfl rfl (by decide +kernel)
set_option maxRecDepth 65536 in
theorem w_c12 : (Jvm.Cond.code ({ cls := "com/example/mycelia/mycelia/wire/MessageTree", name := "heap", desc := "()J" } : Jvm.MethodName) prog_21_method_14_code (1 : Nat) (Option.some Jvm.ClassFile.FieldType.long)).before args0 about1 = true := code_word (m := ⟨2, 2⟩) (meth := k2m2) (c := k2c2) (by decide +kernel) rfl rfl rfl (by decide +kernel)
set_option maxRecDepth 65536 in
theorem w_c13 : (Jvm.Cond.code ({ cls := "com/example/mycelia/mycelia/wire/MessageTree$IntRecords", name := "heap", desc := "()J" } : Jvm.MethodName) prog_22_method_6_code (1 : Nat) (Option.some Jvm.ClassFile.FieldType.long)).before args0 about1 = true := code_word (m := ⟨3, 2⟩) (meth := k3m2) (c := k3c2) (by decide +kernel) rfl rfl rfl (by decide +kernel)
set_option maxRecDepth 65536 in
theorem w_c14 : (Jvm.Cond.code ({ cls := "java/lang/StringBuilder", name := "capacity", desc := "()I" } : Jvm.MethodName) jdk_67_method_92_code (1 : Nat) (Option.some Jvm.ClassFile.FieldType.int)).before args0 about1 = true := code_word (m := ⟨9, 1⟩) (meth := k9m1) (c := k9c1) (by decide +kernel) rfl rfl rfl (by decide +kernel)
set_option maxRecDepth 65536 in
theorem w_c15 : (Jvm.Cond.code ({ cls := "java/lang/AbstractStringBuilder", name := "capacity", desc := "()I" } : Jvm.MethodName) jdk_68_method_7_code (1 : Nat) (Option.some Jvm.ClassFile.FieldType.int)).before args0 about1 = true := code_word (m := ⟨6, 2⟩) (meth := k6m2) (c := k6c2) (by decide +kernel) rfl rfl rfl (by decide +kernel)
set_option maxRecDepth 65536 in
theorem w_c16 : (Jvm.Cond.code ({ cls := "java/util/ArrayList", name := "size", desc := "()I" } : Jvm.MethodName) jdk_38_method_8_code (1 : Nat) (Option.some Jvm.ClassFile.FieldType.int)).before args0 about1 = true := code_word (m := ⟨21, 1⟩) (meth := k21m1) (c := k21c1) (by decide +kernel) rfl rfl rfl (by decide +kernel)
set_option maxRecDepth 65536 in
theorem w_c17 : (Jvm.Cond.code ({ cls := "com/example/mycelia/mycelia/wire/MessageTree", name := "passed", desc := "(JZ)V" } : Jvm.MethodName) prog_21_method_8_code (4 : Nat) (Option.none : Option Jvm.ClassFile.FieldType)).before args0 about1 = true := code_word (m := ⟨2, 1⟩) (meth := k2m1) (c := k2c1) (by decide +kernel) rfl rfl rfl (by decide +kernel)
def codes1 : List Jvm.Cond := [Jvm.Cond.code x code maxLocals ret, Jvm.Cond.code ({ cls := "com/example/mycelia/mycelia/wire/MessageTree", name := "<init>", desc := "()V" } : Jvm.MethodName) prog_21_method_1_code (1 : Nat) (Option.none : Option Jvm.ClassFile.FieldType), Jvm.Cond.code ({ cls := "java/lang/Object", name := "<init>", desc := "()V" } : Jvm.MethodName) object_method_1_code (1 : Nat) (Option.none : Option Jvm.ClassFile.FieldType), Jvm.Cond.code ({ cls := "com/example/mycelia/mycelia/wire/MessageTree$IntRecords", name := "<init>", desc := "()V" } : Jvm.MethodName) prog_22_method_1_code (1 : Nat) (Option.none : Option Jvm.ClassFile.FieldType), Jvm.Cond.code ({ cls := "java/lang/StringBuilder", name := "<init>", desc := "()V" } : Jvm.MethodName) jdk_67_method_1_code (1 : Nat) (Option.none : Option Jvm.ClassFile.FieldType), Jvm.Cond.code ({ cls := "java/lang/AbstractStringBuilder", name := "<init>", desc := "(I)V" } : Jvm.MethodName) jdk_68_method_2_code (2 : Nat) (Option.none : Option Jvm.ClassFile.FieldType), Jvm.Cond.code ({ cls := "java/util/ArrayList", name := "<init>", desc := "()V" } : Jvm.MethodName) jdk_38_method_2_code (1 : Nat) (Option.none : Option Jvm.ClassFile.FieldType), Jvm.Cond.code ({ cls := "java/util/AbstractList", name := "<init>", desc := "()V" } : Jvm.MethodName) jdk_39_method_1_code (1 : Nat) (Option.none : Option Jvm.ClassFile.FieldType), Jvm.Cond.code ({ cls := "java/util/AbstractCollection", name := "<init>", desc := "()V" } : Jvm.MethodName) jdk_22_method_1_code (1 : Nat) (Option.none : Option Jvm.ClassFile.FieldType), Jvm.Cond.code ({ cls := "java/util/HashMap", name := "<init>", desc := "()V" } : Jvm.MethodName) jdk_69_method_7_code (1 : Nat) (Option.none : Option Jvm.ClassFile.FieldType), Jvm.Cond.code ({ cls := "java/util/AbstractMap", name := "<init>", desc := "()V" } : Jvm.MethodName) jdk_71_method_1_code (1 : Nat) (Option.none : Option Jvm.ClassFile.FieldType), Jvm.Cond.code ({ cls := "com/example/mycelia/mycelia/wire/MessageTree$IntRecords", name := "add", desc := "(IIII)I" } : Jvm.MethodName) prog_22_method_2_code (9 : Nat) (Option.some Jvm.ClassFile.FieldType.int), Jvm.Cond.code ({ cls := "com/example/mycelia/mycelia/wire/MessageTree", name := "heap", desc := "()J" } : Jvm.MethodName) prog_21_method_14_code (1 : Nat) (Option.some Jvm.ClassFile.FieldType.long), Jvm.Cond.code ({ cls := "com/example/mycelia/mycelia/wire/MessageTree$IntRecords", name := "heap", desc := "()J" } : Jvm.MethodName) prog_22_method_6_code (1 : Nat) (Option.some Jvm.ClassFile.FieldType.long), Jvm.Cond.code ({ cls := "java/lang/StringBuilder", name := "capacity", desc := "()I" } : Jvm.MethodName) jdk_67_method_92_code (1 : Nat) (Option.some Jvm.ClassFile.FieldType.int), Jvm.Cond.code ({ cls := "java/lang/AbstractStringBuilder", name := "capacity", desc := "()I" } : Jvm.MethodName) jdk_68_method_7_code (1 : Nat) (Option.some Jvm.ClassFile.FieldType.int), Jvm.Cond.code ({ cls := "java/util/ArrayList", name := "size", desc := "()I" } : Jvm.MethodName) jdk_38_method_8_code (1 : Nat) (Option.some Jvm.ClassFile.FieldType.int), Jvm.Cond.code ({ cls := "com/example/mycelia/mycelia/wire/MessageTree", name := "passed", desc := "(JZ)V" } : Jvm.MethodName) prog_21_method_8_code (4 : Nat) (Option.none : Option Jvm.ClassFile.FieldType)]
set_option maxRecDepth 65536 in
theorem codes_eq : words1.filter isCode = codes1 := rfl
theorem w_codes : ∀ c ∈ words1.filter isCode, c.before args0 about1 = true := by
  rw [codes_eq]
  intro c hc
  simp only [codes1, List.mem_cons, List.not_mem_nil, or_false] at hc
  rcases hc with rfl | rfl | rfl | rfl | rfl | rfl | rfl | rfl | rfl | rfl | rfl | rfl | rfl | rfl | rfl | rfl | rfl | rfl
  · exact w_c0
  · exact w_c1
  · exact w_c2
  · exact w_c3
  · exact w_c4
  · exact w_c5
  · exact w_c6
  · exact w_c7
  · exact w_c8
  · exact w_c9
  · exact w_c10
  · exact w_c11
  · exact w_c12
  · exact w_c13
  · exact w_c14
  · exact w_c15
  · exact w_c16
  · exact w_c17
set_option maxRecDepth 65536 in
theorem w_t1 : (words1.take 24).all (fun c => isCode c || c.before args0 about1) = true := by decide +kernel
set_option maxRecDepth 65536 in
theorem w_t2 : ((words1.drop 24).take 24).all (fun c => isCode c || c.before args0 about1) = true := by decide +kernel
set_option maxRecDepth 65536 in
theorem w_t3 : (((words1.drop 24).drop 24).take 24).all (fun c => isCode c || c.before args0 about1) = true := by decide +kernel
set_option maxRecDepth 65536 in
theorem w_t4 : ((((words1.drop 24).drop 24).drop 24).take 24).all (fun c => isCode c || c.before args0 about1) = true := by decide +kernel
set_option maxRecDepth 65536 in
theorem w_t5 : (((((words1.drop 24).drop 24).drop 24).drop 24).take 24).all (fun c => isCode c || c.before args0 about1) = true := by decide +kernel
set_option maxRecDepth 65536 in
theorem w_t6 : ((((((words1.drop 24).drop 24).drop 24).drop 24).drop 24).take 24).all (fun c => isCode c || c.before args0 about1) = true := by decide +kernel
set_option maxRecDepth 65536 in
theorem w_t7 : ((((((words1.drop 24).drop 24).drop 24).drop 24).drop 24).drop 24).all (fun c => isCode c || c.before args0 about1) = true := by decide +kernel
theorem w_tables : (allAtoms (Jvm.Cond.code x code maxLocals ret :: tables_1)).before args0 about1 = true := by
  rw [allAtoms_all]
  show words1.all (fun c => c.before args0 about1) = true
  refine all_split ?_ w_codes
  rw [← List.take_append_drop 24 words1, List.all_append, w_t1, ← List.take_append_drop 24 (words1.drop 24), List.all_append, w_t2, ← List.take_append_drop 24 ((words1.drop 24).drop 24), List.all_append, w_t3, ← List.take_append_drop 24 (((words1.drop 24).drop 24).drop 24), List.all_append, w_t4, ← List.take_append_drop 24 ((((words1.drop 24).drop 24).drop 24).drop 24), List.all_append, w_t5, ← List.take_append_drop 24 (((((words1.drop 24).drop 24).drop 24).drop 24).drop 24), List.all_append, w_t6, w_t7]
  rfl
set_option maxRecDepth 65536 in
theorem w_rest : rest_1_c.before args0 about1 = true := by decide +kernel
set_option maxRecDepth 65536 in
theorem w_case : (Jvm.Cond.and given_1 narrow_1).before args0 about1 = true := by decide +kernel
theorem w_applies : (headSpec (Jvm.Cond.code x code maxLocals ret :: tables_1) room_1).applies x e0.platform about1 = true :=
  (Spec.applies_iff w_frames).mpr ⟨w_running, w_runnable, w_alone, w_named, w_hears, w_ripe, w_room, w_tables⟩
theorem atStart : AtStart classFile x code maxLocals ret World_1 tables_1 room_1 Calls_1 rest_1 Pre_1 launch0 p0 e0 about1 theMethod args0 below0 :=
  ⟨lists_1, trivial, launch0.admits_env _ _ _, launch0.least_env, fairChoices_fair.cas, fairChoices_fair.clock, w_frames, w_args, w_heap, w_applies, trivial, w_rest, w_case⟩
end start1
theorem witness_1 : WitnessClaimed_1 := ⟨start1.p0, start1.e0, start1.about1, start1.theMethod, start1.args0, start1.below0, start1.atStart⟩
end Jvm.Pilot.@@N@@
